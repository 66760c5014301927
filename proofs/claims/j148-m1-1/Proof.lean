import JvmDerived
import JvmDerived.Pilot.@@N@@Statement
import JvmDerived.Pilot.@@N@@Code
set_option linter.unusedVariables false
set_option linter.unusedSimpArgs false
@@BLOCK:NumsL.lean.txt@@
namespace Jvm.Pilot.@@N@@
open Jvm Jvm.ClassFile Sem Op Lib Jvm.Free Jvm.Stand Jvm.LawKit Jvm.RoadKit Bundle Jvm.Pilot.@@N@@.Jvm.D
/-! small laws of this text's own: returns, lrem as %, lcmp and the branch behind it -/
section Own
variable {p : Program} {l : Launch} {e : Env} {R : Room} {s : State} {m : MethodId} {args : Array Value} {below : List Frame} {meth : Method} {c : Code} {T : State} {locs : List Loc} {cells slots : Nat}
theorem own_retI (X : Stand p l e R s m args below meth c T locs cells slots) (hx : p.tables.exec = Jvm.exec) {pc : Nat} {Ls : Array Slot} {z : Int32} {rest : List Value} (hret : meth.sig.returnType = some .int) (hd : decode c.code pc = .ok (.ireturn, 1)) {fs : List Frame}
    (hl : ∀ (f : JFrame) (acts : List Action), f.method = m → f.locked = none → f.entered = [] → (doReturn e (T.setTop f) acts (some (.int z))).1 = T.setFrames fs) : Steps p.tables e below (T.setTop (mkF m pc Ls (.int z :: rest))) (T.setFrames fs) :=
  retOut X hx hret rfl (Or.inl ⟨rfl, Or.inl rfl, z, rfl⟩) hd hl
theorem own_retJ (X : Stand p l e R s m args below meth c T locs cells slots) (hx : p.tables.exec = Jvm.exec) {pc : Nat} {Ls : Array Slot} {z : Int64} {rest : List Value} (hret : meth.sig.returnType = some .long) (hd : decode c.code pc = .ok (.lreturn, 1)) {fs : List Frame}
    (hl : ∀ (f : JFrame) (acts : List Action), f.method = m → f.locked = none → f.entered = [] → (doReturn e (T.setTop f) acts (some (.long z))).1 = T.setFrames fs) : Steps p.tables e below (T.setTop (mkF m pc Ls (.long z :: rest))) (T.setFrames fs) :=
  retOut X hx hret rfl (Or.inr (Or.inl ⟨rfl, rfl, z, rfl⟩)) hd hl
theorem own_retR (X : Stand p l e R s m args below meth c T locs cells slots) (hx : p.tables.exec = Jvm.exec) {pc : Nat} {Ls : Array Slot} {b : Addr} {rest : List Value} {t : FieldType} (hret : meth.sig.returnType = some t) (ht : t.isReference = true) (hn : narrow t (.ref b) = .ref b) (hd : decode c.code pc = .ok (.areturn, 1)) {fs : List Frame}
    (hl : ∀ (f : JFrame) (acts : List Action), f.method = m → f.locked = none → f.entered = [] → (doReturn e (T.setTop f) acts (some (.ref b))).1 = T.setFrames fs) : Steps p.tables e below (T.setTop (mkF m pc Ls (.ref b :: rest))) (T.setFrames fs) :=
  retOut X hx hret hn (Or.inr (Or.inr (Or.inr (Or.inr ⟨rfl, ht, rfl⟩)))) hd hl
theorem own_lrem_mod (x y : Int64) : x - (x / y) * y = x % y := by
  apply Int64.toInt_inj.mp
  have h1 := Int64.le_toInt (x % y)
  have h2 := Int64.toInt_lt (x % y)
  rw [Int64.toInt_sub, Int64.toInt_mul, Int64.toInt_div, Int.bmod_mul_bmod, Int.sub_bmod_bmod, Int.mul_comm (x.toInt.tdiv y.toInt), ← Int.tmod_def, ← Int64.toInt_mod]
  exact Int.bmod_eq_of_le_mul_two (by omega) (by omega)
theorem own_lremM {tb : Tables} [Ours tb] {e : Env} {below : List Frame} {T target : State} {m : MethodId} {c : Code} {g : JFrame} (h : At T m c below) (hx : tb.exec = Jvm.exec) (hg : g.method = m) {x y : Int64} {rest : List Value} (hd : decode c.code g.pc = .ok (.lrem, 1)) (hs : g.stack = .long y :: .long x :: rest) (hy : y ≠ 0)
    (hr : Steps tb e below (T.setTop { g with pc := g.pc + 1, stack := .long (x % y) :: rest }) target) : Steps tb e below (T.setTop g) target :=
  XS.lrem h hx hg hd hs hy (by rw [own_lrem_mod]; exact hr)
end Own
theorem own_hgt (z : Int32) : ifCond.holds .gt z = decide (z > 0) := rfl
theorem own_hlt (z : Int32) : ifCond.holds .lt z = decide (z < 0) := rfl
theorem own_heq (z : Int32) : ifCond.holds .eq z = (z == 0) := rfl
theorem own_hge (z : Int32) : ifCond.holds .ge z = decide (z ≥ 0) := rfl
theorem own_hle (z : Int32) : ifCond.holds .le z = decide (z ≤ 0) := rfl
theorem own_hne (z : Int32) : ifCond.holds .ne z = (z != 0) := rfl
theorem own_lc1 {x y : Int64} (h : y < x) : lcmpW x y = 1 := if_pos h
theorem own_lc0 {x y : Int64} (h : x = y) : lcmpW x y = 0 := by
  have h1 : ¬ y < x := by rw [h, Int64.lt_iff_toInt_lt]; omega
  exact (if_neg h1).trans (if_pos h)
theorem own_lcm {x y : Int64} (h : x < y) : lcmpW x y = -1 := by
  have h1 : ¬ y < x := by rw [Int64.lt_iff_toInt_lt] at *; omega
  have h2 : ¬ x = y := fun q => by rw [q, Int64.lt_iff_toInt_lt] at h; omega
  exact (if_neg h1).trans (if_neg h2)
theorem own_tri (x y : Int64) : x < y ∨ x = y ∨ y < x := by
  rw [Int64.lt_iff_toInt_lt, Int64.lt_iff_toInt_lt, ← Int64.toInt_inj]; omega
theorem own_nlt {x y : Int64} (h : x < y) : ¬ y < x ∧ ¬ x = y := by
  rw [Int64.lt_iff_toInt_lt] at *
  exact ⟨by omega, fun q => by rw [q] at h; omega⟩
theorem own_Tlt {x y : Int64} (h : x < y) : ifCond.holds .lt (lcmpW x y) = true ∧ ifCond.holds .ge (lcmpW x y) = false := by rw [own_lcm h]; decide
theorem own_Flt {x y : Int64} (h : ¬ x < y) : ifCond.holds .lt (lcmpW x y) = false ∧ ifCond.holds .ge (lcmpW x y) = true := by
  rcases own_tri x y with q | q | q
  · exact absurd q h
  · rw [own_lc0 q]; decide
  · rw [own_lc1 q]; decide
theorem own_Tgt {x y : Int64} (h : y < x) : ifCond.holds .gt (lcmpW x y) = true ∧ ifCond.holds .le (lcmpW x y) = false := by rw [own_lc1 h]; decide
theorem own_Fgt {x y : Int64} (h : ¬ y < x) : ifCond.holds .gt (lcmpW x y) = false ∧ ifCond.holds .le (lcmpW x y) = true := by
  rcases own_tri x y with q | q | q
  · rw [own_lcm q]; decide
  · rw [own_lc0 q]; decide
  · exact absurd q h
theorem own_Teq {x y : Int64} (h : x = y) : ifCond.holds .eq (lcmpW x y) = true ∧ ifCond.holds .ne (lcmpW x y) = false := by rw [own_lc0 h]; decide
theorem own_Feq {x y : Int64} (h : ¬ x = y) : ifCond.holds .eq (lcmpW x y) = false ∧ ifCond.holds .ne (lcmpW x y) = true := by
  rcases own_tri x y with q | q | q
  · rw [own_lcm q]; decide
  · exact absurd q h
  · rw [own_lc1 q]; decide
/-! arrays as functions: what place i of the array holds -/
section OwnH
variable {p : Program} {l : Launch} {e : Env} {R : Room} {s : State} {m : MethodId} {args : Array Value} {below : List Frame} {meth : Method} {c : Code} {T : State} {locs : List Loc} {cells slots : Nat} {Z : State} {h h' : Heap} {a b : Addr} {z j : Int32} {ty : FieldType} {ws : List Addr} {sl : Nat} {w : Value}
def own_AI (Z : State) (h : Heap) (a : Addr) (ty : FieldType) (z : Int32) (f : Nat → Int32) : Prop := ∃ c : Cell, Arr Z h a c ty ∧ c.slots.size = z.toNatClampNeg ∧ ¬ z < 0 ∧ ∀ i, i < c.slots.size → c.slots[i]? = some (.int (f i))
def own_AJ (Z : State) (h : Heap) (a : Addr) (z : Int32) (f : Nat → Int64) : Prop := ∃ c : Cell, Arr Z h a c .long ∧ c.slots.size = z.toNatClampNeg ∧ ¬ z < 0 ∧ ∀ i, i < c.slots.size → c.slots[i]? = some (.long (f i))
def own_upd {α : Type} (f : Nat → α) (k : Nat) (v : α) : Nat → α := fun i => if i = k then v else f i
theorem own_slots (c : Cell) (k : Nat) (v : Value) : (c.setSlot k v).slots = c.slots.setIfInBounds k v := rfl
theorem own_AI.ext {f : Nat → Int32} (A : own_AI Z h a ty z f) (E : Ext h h') : own_AI Z h' a ty z f := by obtain ⟨c, A1, r⟩ := A; exact ⟨c, A1.ext E, r⟩
theorem own_AI.other {f : Nat → Int32} (A : own_AI Z h a ty z f) (W : Wr h h' b sl w) (q : a ≠ b) : own_AI Z h' a ty z f := by obtain ⟨c, A1, r⟩ := A; exact ⟨c, A1.other W q, r⟩
theorem own_AI.keep {f : Nat → Int32} (A : own_AI Z h a ty z f) (K : Keep h h' ws) (q : a ∉ ws) : own_AI Z h' a ty z f := by obtain ⟨c, A1, r⟩ := A; exact ⟨c, ⟨K.2.1 a c A1.1 q, A1.2⟩, r⟩
theorem own_AI.lt {f : Nat → Int32} (A : own_AI Z h a ty z f) : a < h.size := by obtain ⟨c, A1, -⟩ := A; exact A1.lt
theorem own_AI.set {f : Nat → Int32} {k : Nat} {v : Int32} (A : own_AI Z h a ty z f) (W : Wr h h' a k (.int v)) : own_AI Z h' a ty z (own_upd f k v) := by
  obtain ⟨c, A1, S, M, H⟩ := A
  refine ⟨_, A1.same W, by rw [sz_set]; exact S, M, fun i hi => ?_⟩
  rw [sz_set] at hi
  rw [own_slots]
  by_cases q : i = k
  · subst q
    rw [Array.getElem?_setIfInBounds_self_of_lt hi]
    exact congrArg (fun u => some (Value.int u)) (if_pos rfl).symm
  · rw [Array.getElem?_setIfInBounds_ne (fun u => q u.symm), H i hi]
    exact congrArg (fun u => some (Value.int u)) (if_neg q).symm
theorem own_AI.new {k : ClassId} (A : Arr Z h a (newA k ty z) ty) (q : ¬ z < 0) (hd : defaultValue ty = .int 0) : own_AI Z h a ty z (fun _ => 0) := by
  obtain ⟨c, A1, -, S, M, H, -⟩ := Arv.new A q
  refine ⟨c, A1, S, M, fun i hi => ?_⟩
  rw [H i hi, ← hd]; rfl
theorem own_AI.congr {f f' : Nat → Int32} (A : own_AI Z h a ty z f) (q : ∀ i, i < z.toNatClampNeg → f i = f' i) : own_AI Z h a ty z f' := by
  obtain ⟨c, A1, S, M, H⟩ := A
  exact ⟨c, A1, S, M, fun i hi => by rw [H i hi, q i (S ▸ hi)]⟩
theorem own_AJ.ext {f : Nat → Int64} (A : own_AJ Z h a z f) (E : Ext h h') : own_AJ Z h' a z f := by obtain ⟨c, A1, r⟩ := A; exact ⟨c, A1.ext E, r⟩
theorem own_AJ.other {f : Nat → Int64} (A : own_AJ Z h a z f) (W : Wr h h' b sl w) (q : a ≠ b) : own_AJ Z h' a z f := by obtain ⟨c, A1, r⟩ := A; exact ⟨c, A1.other W q, r⟩
theorem own_AJ.keep {f : Nat → Int64} (A : own_AJ Z h a z f) (K : Keep h h' ws) (q : a ∉ ws) : own_AJ Z h' a z f := by obtain ⟨c, A1, r⟩ := A; exact ⟨c, ⟨K.2.1 a c A1.1 q, A1.2⟩, r⟩
theorem own_AJ.lt {f : Nat → Int64} (A : own_AJ Z h a z f) : a < h.size := by obtain ⟨c, A1, -⟩ := A; exact A1.lt
theorem own_AJ.set {f : Nat → Int64} {k : Nat} {v : Int64} (A : own_AJ Z h a z f) (W : Wr h h' a k (.long v)) : own_AJ Z h' a z (own_upd f k v) := by
  obtain ⟨c, A1, S, M, H⟩ := A
  refine ⟨_, A1.same W, by rw [sz_set]; exact S, M, fun i hi => ?_⟩
  rw [sz_set] at hi
  rw [own_slots]
  by_cases q : i = k
  · subst q
    rw [Array.getElem?_setIfInBounds_self_of_lt hi]
    exact congrArg (fun u => some (Value.long u)) (if_pos rfl).symm
  · rw [Array.getElem?_setIfInBounds_ne (fun u => q u.symm), H i hi]
    exact congrArg (fun u => some (Value.long u)) (if_neg q).symm
theorem own_AJ.new {k : ClassId} (A : Arr Z h a (newA k .long z) .long) (q : ¬ z < 0) : own_AJ Z h a z (fun _ => 0) := by
  obtain ⟨c, A1, -, S, M, H, -⟩ := Arv.new A q
  refine ⟨c, A1, S, M, fun i hi => ?_⟩
  rw [H i hi]; rfl
theorem own_ldI {f : Nat → Int32} (X : Stand p l e R s m args below meth c T locs cells slots) (hx : p.tables.exec = Jvm.exec) (hZ : Z.Warmed39 s.vm) (eT : T.heap = h) (A : own_AI Z h a .int z f) (h0 : ¬ j < 0) (h1 : j < z) {g : JFrame} (hg : g.method = m) {rest : List Value} (hs : g.stack = .int j :: .ref a :: rest) (hd : decode c.code g.pc = .ok (.iaload, 1)) :
    ∀ t, Steps p.tables e below (T.setTop { g with pc := g.pc + 1, stack := .int (f j.toNatClampNeg) :: rest }) t → Steps p.tables e below (T.setTop g) t := by
  obtain ⟨c, A1, S, M, H⟩ := A
  have hin := inb_of S ⟨h0, h1⟩
  exact fun t k => X.iaload hx (by rw [eT]; exact A1.1) (State.isArrayOf_alike hZ.alike A1.2.1) A1.2.2 hin (H _ (Nat.lt_of_not_le fun q => hin (Or.inr q))) hg hs hd t k
theorem own_ldB {f : Nat → Int32} (X : Stand p l e R s m args below meth c T locs cells slots) (hx : p.tables.exec = Jvm.exec) (hZ : Z.Warmed39 s.vm) (eT : T.heap = h) (A : own_AI Z h a .byte z f) (h0 : ¬ j < 0) (h1 : j < z) {g : JFrame} (hg : g.method = m) {rest : List Value} (hs : g.stack = .int j :: .ref a :: rest) (hd : decode c.code g.pc = .ok (.baload, 1)) :
    ∀ t, Steps p.tables e below (T.setTop { g with pc := g.pc + 1, stack := .int (f j.toNatClampNeg) :: rest }) t → Steps p.tables e below (T.setTop g) t := by
  obtain ⟨c, A1, S, M, H⟩ := A
  have hin := inb_of S ⟨h0, h1⟩
  exact fun t k => X.baloadBytes hx (by rw [eT]; exact A1.1) (State.isArrayOf_alike hZ.alike A1.2.1) A1.2.2 hin (H _ (Nat.lt_of_not_le fun q => hin (Or.inr q))) hg hs hd t k
theorem own_ldJ {f : Nat → Int64} (X : Stand p l e R s m args below meth c T locs cells slots) (hx : p.tables.exec = Jvm.exec) (hZ : Z.Warmed39 s.vm) (eT : T.heap = h) (A : own_AJ Z h a z f) (h0 : ¬ j < 0) (h1 : j < z) {g : JFrame} (hg : g.method = m) {rest : List Value} (hs : g.stack = .int j :: .ref a :: rest) (hd : decode c.code g.pc = .ok (.laload, 1)) :
    ∀ t, Steps p.tables e below (T.setTop { g with pc := g.pc + 1, stack := .long (f j.toNatClampNeg) :: rest }) t → Steps p.tables e below (T.setTop g) t := by
  obtain ⟨c, A1, S, M, H⟩ := A
  have hin := inb_of S ⟨h0, h1⟩
  exact fun t k => X.laload hx (by rw [eT]; exact A1.1) (State.isArrayOf_alike hZ.alike A1.2.1) A1.2.2 hin (H _ (Nat.lt_of_not_le fun q => hin (Or.inr q))) hg hs hd t k
theorem own_lenI {f : Nat → Int32} (X : Stand p l e R s m args below meth c T locs cells slots) (hx : p.tables.exec = Jvm.exec) (hZ : Z.Warmed39 s.vm) (eT : T.heap = h) (A : own_AI Z h a ty z f) {g : JFrame} (hg : g.method = m) {rest : List Value} (hs : g.stack = .ref a :: rest) (hd : decode c.code g.pc = .ok (.arraylength, 1)) :
    ∀ t, Steps p.tables e below (T.setTop { g with pc := g.pc + 1, stack := .int z :: rest }) t → Steps p.tables e below (T.setTop g) t := by
  obtain ⟨c, A1, S, M, H⟩ := A
  exact fun t k => X.arraylength hx (by rw [eT]; exact A1.1) (State.isArrayOf_alike hZ.alike A1.2.1) hg hs hd t (by rw [len_of S M]; exact k)
theorem own_lenJ {f : Nat → Int64} (X : Stand p l e R s m args below meth c T locs cells slots) (hx : p.tables.exec = Jvm.exec) (hZ : Z.Warmed39 s.vm) (eT : T.heap = h) (A : own_AJ Z h a z f) {g : JFrame} (hg : g.method = m) {rest : List Value} (hs : g.stack = .ref a :: rest) (hd : decode c.code g.pc = .ok (.arraylength, 1)) :
    ∀ t, Steps p.tables e below (T.setTop { g with pc := g.pc + 1, stack := .int z :: rest }) t → Steps p.tables e below (T.setTop g) t := by
  obtain ⟨c, A1, S, M, H⟩ := A
  exact fun t k => X.arraylength hx (by rw [eT]; exact A1.1) (State.isArrayOf_alike hZ.alike A1.2.1) hg hs hd t (by rw [len_of S M]; exact k)
theorem own_stI {f : Nat → Int32} {x : Int32} (X : Stand p l e R s m args below meth c T locs cells slots) (hx : p.tables.exec = Jvm.exec) (hZ : Z.Warmed39 s.vm) (eT : T.heap = h) (A : own_AI Z h a .int z f) (h0 : ¬ j < 0) (h1 : j < z) {g : JFrame} (hg : g.method = m) {rest : List Value} (hs : g.stack = .int x :: .int j :: .ref a :: rest) (hd : decode c.code g.pc = .ok (.iastore, 1)) :
    ∃ T' h', Stand p l e R s m args below meth c T' (locs ++ [⟨a, j.toNatClampNeg⟩]) cells slots ∧ T'.heap = h' ∧ Wr h h' a j.toNatClampNeg (.int x) ∧ own_AI Z h' a .int z (own_upd f j.toNatClampNeg x) ∧ ∀ t, Steps p.tables e below (T'.setTop { g with pc := g.pc + 1, stack := rest }) t → Steps p.tables e below (T.setTop g) t := by
  obtain ⟨c, A1, S, M, H⟩ := A
  obtain ⟨T', h', X', e', W, st⟩ := stI X hx hZ eT A1 (inb_of S ⟨h0, h1⟩) hg hs hd
  exact ⟨T', h', X', e', W, own_AI.set ⟨c, A1, S, M, H⟩ W, st⟩
theorem own_stB {f : Nat → Int32} {x : Int32} (X : Stand p l e R s m args below meth c T locs cells slots) (hx : p.tables.exec = Jvm.exec) (hZ : Z.Warmed39 s.vm) (eT : T.heap = h) (A : own_AI Z h a .byte z f) (h0 : ¬ j < 0) (h1 : j < z) {g : JFrame} (hg : g.method = m) {rest : List Value} (hs : g.stack = .int x :: .int j :: .ref a :: rest) (hd : decode c.code g.pc = .ok (.bastore, 1)) :
    ∃ T' h', Stand p l e R s m args below meth c T' (locs ++ [⟨a, j.toNatClampNeg⟩]) cells slots ∧ T'.heap = h' ∧ Wr h h' a j.toNatClampNeg (.int (nar .byte x)) ∧ own_AI Z h' a .byte z (own_upd f j.toNatClampNeg (nar .byte x)) ∧ ∀ t, Steps p.tables e below (T'.setTop { g with pc := g.pc + 1, stack := rest }) t → Steps p.tables e below (T.setTop g) t := by
  obtain ⟨c, A1, S, M, H⟩ := A
  obtain ⟨T', h', X', e', W, st⟩ := stB X hx hZ eT A1 (inb_of S ⟨h0, h1⟩) hg hs hd
  exact ⟨T', h', X', e', W, own_AI.set ⟨c, A1, S, M, H⟩ W, st⟩
theorem own_stJ {f : Nat → Int64} {x : Int64} (X : Stand p l e R s m args below meth c T locs cells slots) (hx : p.tables.exec = Jvm.exec) (hZ : Z.Warmed39 s.vm) (eT : T.heap = h) (A : own_AJ Z h a z f) (h0 : ¬ j < 0) (h1 : j < z) {g : JFrame} (hg : g.method = m) {rest : List Value} (hs : g.stack = .long x :: .int j :: .ref a :: rest) (hd : decode c.code g.pc = .ok (.lastore, 1)) :
    ∃ T' h', Stand p l e R s m args below meth c T' (locs ++ [⟨a, j.toNatClampNeg⟩]) cells slots ∧ T'.heap = h' ∧ Wr h h' a j.toNatClampNeg (.long x) ∧ own_AJ Z h' a z (own_upd f j.toNatClampNeg x) ∧ ∀ t, Steps p.tables e below (T'.setTop { g with pc := g.pc + 1, stack := rest }) t → Steps p.tables e below (T.setTop g) t := by
  obtain ⟨c, A1, S, M, H⟩ := A
  obtain ⟨T', h', X', e', W, st⟩ := stJ X hx hZ eT A1 (inb_of S ⟨h0, h1⟩) hg hs hd
  exact ⟨T', h', X', e', W, own_AJ.set ⟨c, A1, S, M, H⟩ W, st⟩
end OwnH
theorem own_clamp {n : Nat} (h : n < 2147483648) : (Int32.ofNat n).toNatClampNeg = n := by
  have e : (Int32.ofNat n).toInt = n := Int32.toInt_ofNat_of_lt (by omega)
  show (Int32.ofNat n).toInt.toNat = n
  rw [e]; rfl
theorem own_ofNat {n : Nat} (h : n < 2147483648) : (Int32.ofNat n).toInt = n := Int32.toInt_ofNat_of_lt (by omega)
theorem own_nn {n : Nat} (h : n < 2147483648) : ¬ Int32.ofNat n < 0 := by
  have e0 : (0 : Int32).toInt = 0 := by decide
  rw [Int32.lt_iff_toInt_lt, own_ofNat h, e0]; omega
theorem own_ltN {i n : Nat} (h : i < n) (hn : n < 2147483648) : Int32.ofNat i < Int32.ofNat n := by
  rw [Int32.lt_iff_toInt_lt, own_ofNat (by omega), own_ofNat hn]; omega
theorem own_succ (i : Nat) : Int32.ofNat i + (1 : Int32) = Int32.ofNat (i + 1) := (Int32.ofNat_add i 1).symm
def own_tot (f : Nat → Int32) : Nat → Nat → Int64 → Int64
  | 0, _, S => S
  | k + 1, i, S => own_tot f k (i + 1) (S + (f i).toInt64)
/-! body 1: build -/
theorem d1_0 : decode method_3_code 0 = .ok (.iload_n 0, 1) := by decide +kernel
theorem d1_1 : decode method_3_code 1 = .ok (.ifCond .ne 7, 3) := by decide +kernel
theorem d1_4 : decode method_3_code 4 = .ok (.iconst 0, 1) := by decide +kernel
theorem d1_5 : decode method_3_code 5 = .ok (.newarray .int, 2) := by decide +kernel
theorem d1_7 : decode method_3_code 7 = .ok (.areturn, 1) := by decide +kernel
theorem d1_8 : decode method_3_code 8 = .ok (.iload_n 0, 1) := by decide +kernel
theorem d1_9 : decode method_3_code 9 = .ok (.iconst 1, 1) := by decide +kernel
theorem d1_10 : decode method_3_code 10 = .ok (.if_icmp .ne 11, 3) := by decide +kernel
theorem d1_13 : decode method_3_code 13 = .ok (.iconst 1, 1) := by decide +kernel
theorem d1_14 : decode method_3_code 14 = .ok (.newarray .int, 2) := by decide +kernel
theorem d1_16 : decode method_3_code 16 = .ok (.dup, 1) := by decide +kernel
theorem d1_17 : decode method_3_code 17 = .ok (.iconst 0, 1) := by decide +kernel
theorem d1_18 : decode method_3_code 18 = .ok (.iload_n 1, 1) := by decide +kernel
theorem d1_19 : decode method_3_code 19 = .ok (.iastore, 1) := by decide +kernel
theorem d1_20 : decode method_3_code 20 = .ok (.areturn, 1) := by decide +kernel
theorem d1_21 : decode method_3_code 21 = .ok (.iload_n 0, 1) := by decide +kernel
theorem d1_22 : decode method_3_code 22 = .ok (.iconst 2, 1) := by decide +kernel
theorem d1_23 : decode method_3_code 23 = .ok (.if_icmp .ne 15, 3) := by decide +kernel
theorem d1_26 : decode method_3_code 26 = .ok (.iconst 2, 1) := by decide +kernel
theorem d1_27 : decode method_3_code 27 = .ok (.newarray .int, 2) := by decide +kernel
theorem d1_29 : decode method_3_code 29 = .ok (.dup, 1) := by decide +kernel
theorem d1_30 : decode method_3_code 30 = .ok (.iconst 0, 1) := by decide +kernel
theorem d1_31 : decode method_3_code 31 = .ok (.iload_n 1, 1) := by decide +kernel
theorem d1_32 : decode method_3_code 32 = .ok (.iastore, 1) := by decide +kernel
theorem d1_33 : decode method_3_code 33 = .ok (.dup, 1) := by decide +kernel
theorem d1_34 : decode method_3_code 34 = .ok (.iconst 1, 1) := by decide +kernel
theorem d1_35 : decode method_3_code 35 = .ok (.iload_n 2, 1) := by decide +kernel
theorem d1_36 : decode method_3_code 36 = .ok (.iastore, 1) := by decide +kernel
theorem d1_37 : decode method_3_code 37 = .ok (.areturn, 1) := by decide +kernel
theorem d1_38 : decode method_3_code 38 = .ok (.iload_n 0, 1) := by decide +kernel
theorem d1_39 : decode method_3_code 39 = .ok (.iconst 3, 1) := by decide +kernel
theorem d1_40 : decode method_3_code 40 = .ok (.if_icmp .ne 19, 3) := by decide +kernel
theorem d1_43 : decode method_3_code 43 = .ok (.iconst 3, 1) := by decide +kernel
theorem d1_44 : decode method_3_code 44 = .ok (.newarray .int, 2) := by decide +kernel
theorem d1_46 : decode method_3_code 46 = .ok (.dup, 1) := by decide +kernel
theorem d1_47 : decode method_3_code 47 = .ok (.iconst 0, 1) := by decide +kernel
theorem d1_48 : decode method_3_code 48 = .ok (.iload_n 1, 1) := by decide +kernel
theorem d1_49 : decode method_3_code 49 = .ok (.iastore, 1) := by decide +kernel
theorem d1_50 : decode method_3_code 50 = .ok (.dup, 1) := by decide +kernel
theorem d1_51 : decode method_3_code 51 = .ok (.iconst 1, 1) := by decide +kernel
theorem d1_52 : decode method_3_code 52 = .ok (.iload_n 2, 1) := by decide +kernel
theorem d1_53 : decode method_3_code 53 = .ok (.iastore, 1) := by decide +kernel
theorem d1_54 : decode method_3_code 54 = .ok (.dup, 1) := by decide +kernel
theorem d1_55 : decode method_3_code 55 = .ok (.iconst 2, 1) := by decide +kernel
theorem d1_56 : decode method_3_code 56 = .ok (.iload_n 3, 1) := by decide +kernel
theorem d1_57 : decode method_3_code 57 = .ok (.iastore, 1) := by decide +kernel
theorem d1_58 : decode method_3_code 58 = .ok (.areturn, 1) := by decide +kernel
theorem d1_59 : decode method_3_code 59 = .ok (.iload_n 0, 1) := by decide +kernel
theorem d1_60 : decode method_3_code 60 = .ok (.iconst 4, 1) := by decide +kernel
theorem d1_61 : decode method_3_code 61 = .ok (.if_icmp .ne 24, 3) := by decide +kernel
theorem d1_64 : decode method_3_code 64 = .ok (.iconst 4, 1) := by decide +kernel
theorem d1_65 : decode method_3_code 65 = .ok (.newarray .int, 2) := by decide +kernel
theorem d1_67 : decode method_3_code 67 = .ok (.dup, 1) := by decide +kernel
theorem d1_68 : decode method_3_code 68 = .ok (.iconst 0, 1) := by decide +kernel
theorem d1_69 : decode method_3_code 69 = .ok (.iload_n 1, 1) := by decide +kernel
theorem d1_70 : decode method_3_code 70 = .ok (.iastore, 1) := by decide +kernel
theorem d1_71 : decode method_3_code 71 = .ok (.dup, 1) := by decide +kernel
theorem d1_72 : decode method_3_code 72 = .ok (.iconst 1, 1) := by decide +kernel
theorem d1_73 : decode method_3_code 73 = .ok (.iload_n 2, 1) := by decide +kernel
theorem d1_74 : decode method_3_code 74 = .ok (.iastore, 1) := by decide +kernel
theorem d1_75 : decode method_3_code 75 = .ok (.dup, 1) := by decide +kernel
theorem d1_76 : decode method_3_code 76 = .ok (.iconst 2, 1) := by decide +kernel
theorem d1_77 : decode method_3_code 77 = .ok (.iload_n 3, 1) := by decide +kernel
theorem d1_78 : decode method_3_code 78 = .ok (.iastore, 1) := by decide +kernel
theorem d1_79 : decode method_3_code 79 = .ok (.dup, 1) := by decide +kernel
theorem d1_80 : decode method_3_code 80 = .ok (.iconst 3, 1) := by decide +kernel
theorem d1_81 : decode method_3_code 81 = .ok (.iload 4, 2) := by decide +kernel
theorem d1_83 : decode method_3_code 83 = .ok (.iastore, 1) := by decide +kernel
theorem d1_84 : decode method_3_code 84 = .ok (.areturn, 1) := by decide +kernel
theorem d1_85 : decode method_3_code 85 = .ok (.iconst 5, 1) := by decide +kernel
theorem d1_86 : decode method_3_code 86 = .ok (.newarray .int, 2) := by decide +kernel
theorem d1_88 : decode method_3_code 88 = .ok (.dup, 1) := by decide +kernel
theorem d1_89 : decode method_3_code 89 = .ok (.iconst 0, 1) := by decide +kernel
theorem d1_90 : decode method_3_code 90 = .ok (.iload_n 1, 1) := by decide +kernel
theorem d1_91 : decode method_3_code 91 = .ok (.iastore, 1) := by decide +kernel
theorem d1_92 : decode method_3_code 92 = .ok (.dup, 1) := by decide +kernel
theorem d1_93 : decode method_3_code 93 = .ok (.iconst 1, 1) := by decide +kernel
theorem d1_94 : decode method_3_code 94 = .ok (.iload_n 2, 1) := by decide +kernel
theorem d1_95 : decode method_3_code 95 = .ok (.iastore, 1) := by decide +kernel
theorem d1_96 : decode method_3_code 96 = .ok (.dup, 1) := by decide +kernel
theorem d1_97 : decode method_3_code 97 = .ok (.iconst 2, 1) := by decide +kernel
theorem d1_98 : decode method_3_code 98 = .ok (.iload_n 3, 1) := by decide +kernel
theorem d1_99 : decode method_3_code 99 = .ok (.iastore, 1) := by decide +kernel
theorem d1_100 : decode method_3_code 100 = .ok (.dup, 1) := by decide +kernel
theorem d1_101 : decode method_3_code 101 = .ok (.iconst 3, 1) := by decide +kernel
theorem d1_102 : decode method_3_code 102 = .ok (.iload 4, 2) := by decide +kernel
theorem d1_104 : decode method_3_code 104 = .ok (.iastore, 1) := by decide +kernel
theorem d1_105 : decode method_3_code 105 = .ok (.dup, 1) := by decide +kernel
theorem d1_106 : decode method_3_code 106 = .ok (.iconst 4, 1) := by decide +kernel
theorem d1_107 : decode method_3_code 107 = .ok (.iload 5, 2) := by decide +kernel
theorem d1_109 : decode method_3_code 109 = .ok (.iastore, 1) := by decide +kernel
theorem d1_110 : decode method_3_code 110 = .ok (.areturn, 1) := by decide +kernel
theorem pn1 : plainName "com/example/ballast/ballast/model/LoadsTotalPinLaw" = true := by first | (simp [plainName, overriddenIn]; done) | decide +kernel
theorem ef1 (m : MethodId) (p1 : Int32) (p2 : Int32) (p3 : Int32) (p4 : Int32) (p5 : Int32) (p6 : Int32) : entryFrame m #[(.int p1), (.int p2), (.int p3), (.int p4), (.int p5), (.int p6)] 6 = mkF m 0 #[.val (.int p1), .val (.int p2), .val (.int p3), .val (.int p4), .val (.int p5), .val (.int p6)] [] := by first | (simp [entryFrame, mkF, argsToLocals, Value.category]; done) | rfl
def own_b5 (a b c d e : Int32) : Nat → Int32
  | 0 => a | 1 => b | 2 => c | 3 => d | _ => e
theorem own_five {p : Int32} (h : 0 ≤ p.toInt ∧ p.toInt ≤ 5) (h0 : ¬ p = 0) (h1 : ¬ p = 1) (h2 : ¬ p = 2) (h3 : ¬ p = 3) (h4 : ¬ p = 4) : p = 5 := by
  have e : ∀ k : Int32, p = k ↔ p.toInt = k.toInt := fun k => Int32.toInt_inj.symm
  rw [e] at *
  have z0 : (0 : Int32).toInt = 0 := by decide
  have z1 : (1 : Int32).toInt = 1 := by decide
  have z2 : (2 : Int32).toInt = 2 := by decide
  have z3 : (3 : Int32).toInt = 3 := by decide
  have z4 : (4 : Int32).toInt = 4 := by decide
  have z5 : (5 : Int32).toInt = 5 := by decide
  omega
theorem own_small0 {f g : Nat → Int32} {i : Nat} (h : i < 0) : f i = g i := absurd h (Nat.not_lt_zero i)
theorem own_small1 {a b c d e : Int32} {i : Nat} (h : i < 1) : own_upd (fun _ => 0) (0 : Int32).toNatClampNeg a i = own_b5 a b c d e i := by
  match i, h with
  | 0, _ => rfl
theorem own_small2 {a b c d e : Int32} {i : Nat} (h : i < 2) : own_upd (own_upd (fun _ => 0) (0 : Int32).toNatClampNeg a) (1 : Int32).toNatClampNeg b i = own_b5 a b c d e i := by
  match i, h with
  | 0, _ => rfl
  | 1, _ => rfl
theorem own_small3 {a b c d e : Int32} {i : Nat} (h : i < 3) : own_upd (own_upd (own_upd (fun _ => 0) (0 : Int32).toNatClampNeg a) (1 : Int32).toNatClampNeg b) (2 : Int32).toNatClampNeg c i = own_b5 a b c d e i := by
  match i, h with
  | 0, _ => rfl
  | 1, _ => rfl
  | 2, _ => rfl
theorem own_small4 {a b c d e : Int32} {i : Nat} (h : i < 4) : own_upd (own_upd (own_upd (own_upd (fun _ => 0) (0 : Int32).toNatClampNeg a) (1 : Int32).toNatClampNeg b) (2 : Int32).toNatClampNeg c) (3 : Int32).toNatClampNeg d i = own_b5 a b c d e i := by
  match i, h with
  | 0, _ => rfl
  | 1, _ => rfl
  | 2, _ => rfl
  | 3, _ => rfl
theorem own_small5 {a b c d e : Int32} {i : Nat} (h : i < 5) : own_upd (own_upd (own_upd (own_upd (own_upd (fun _ => 0) (0 : Int32).toNatClampNeg a) (1 : Int32).toNatClampNeg b) (2 : Int32).toNatClampNeg c) (3 : Int32).toNatClampNeg d) (4 : Int32).toNatClampNeg e i = own_b5 a b c d e i := by
  match i, h with
  | 0, _ => rfl
  | 1, _ => rfl
  | 2, _ => rfl
  | 3, _ => rfl
  | 4, _ => rfl
def Q1 (Z : State) (p1 : Int32) (p2 : Int32) (p3 : Int32) (p4 : Int32) (p5 : Int32) (p6 : Int32) (h0 : Heap) (n0 : Nat) (v : Option Value) (h : Heap) (L : List Loc) : Prop := ∃ b : Addr, v = some (.ref b) ∧ Fr n0 L ∧ Keep h0 h [] ∧ n0 ≤ b ∧ own_AI Z h b .int p1 (own_b5 p2 p3 p4 p5 p6)
set_option maxRecDepth 65536 in
set_option maxHeartbeats 40000000 in
theorem rm1 (l : Launch) (Z : State) (a0 : Array Value) (hw : ∀ d ∈ tables_1, d.before a0 Z = true) (ws : List Jvm.Cond) (p1 : Int32) (p2 : Int32) (p3 : Int32) (p4 : Int32) (p5 : Int32) (p6 : Int32) (h0 : Heap) (n0 : Nat) (Z0 : n0 ≤ h0.size) (hp : 0 ≤ p1.toInt ∧ p1.toInt ≤ 5) :
    MetFree l (⟨"com/example/ballast/ballast/model/LoadsTotalPinLaw", "build", "(IIIIII)[I"⟩ : MethodName) (head1 (Jvm.Cond.code (⟨"com/example/ballast/ballast/model/LoadsTotalPinLaw", "build", "(IIIIII)[I"⟩ : MethodName) method_3_code 6 (some (.array .int)) :: ws) ({ frames := 0, cells := 1, slots := 5, locals := 0 } : Room)) (fun a U => a = #[(.int p1), (.int p2), (.int p3), (.int p4), (.int p5), (.int p6)] ∧ Z.Warmed39 U.vm ∧ U.heap = h0) (fun _ _ _ _ _ => True) (fun _ U o U' => ∃ v L, o = .returned v ∧ Q1 Z p1 p2 p3 p4 p5 p6 h0 n0 v U'.heap L ∧ FrameEnd U o U' L ({ frames := 0, cells := 1, slots := 5, locals := 0 } : Room).cells ({ frames := 0, cells := 1, slots := 5, locals := 0 } : Room).slots) := by
  refine MetFree.of_bodySF (plainFor_of_name pn1) hisR ?_
  intro p e s m args below meth c s₁ Bd hml0 hP hK
  obtain ⟨rfl, hZ, hh⟩ := hP
  have hx := Bd.exec
  have hby := Bd.bytes
  have hml : c.maxLocals = 6 := hml0
  have hown : s.vm.findClass "com/example/ballast/ballast/model/LoadsTotalPinLaw" = some m.cls := findClass_of_methodNamed Bd.named
  have hnm := (name_of_methodNamed Bd.named Bd.method).1
  have X0 : Stand p l e ({ frames := 0, cells := 1, slots := 5, locals := 0 } : Room) s m #[(.int p1), (.int p2), (.int p3), (.int p4), (.int p5), (.int p6)] below meth c s₁ [] 0 0 := Stand.of_body Bd
  have e0 : s₁.heap = h0 := by rw [← hh, Bd.state]; rfl
  have N0 := Fr.nil n0
  have pre0 : ∀ t, Steps p.tables e below (s₁.setTop (mkF m 0 #[.val (.int p1), .val (.int p2), .val (.int p3), .val (.int p4), .val (.int p5), .val (.int p6)] [])) t → Steps p.tables e below (s₁.setTop (entryFrame m #[(.int p1), (.int p2), (.int p3), (.int p4), (.int p5), (.int p6)] 6)) t := fun t k => castTop (ef1 m p1 p2 p3 p4 p5 p6) k
  have K0 := Keep.refl h0 []
  have pre1 : ∀ t, Steps p.tables e below (s₁.setTop (mkF m 1 #[.val (.int p1), .val (.int p2), .val (.int p3), .val (.int p4), .val (.int p5), .val (.int p6)] [(.int p1)])) t → Steps p.tables e below (s₁.setTop (entryFrame m #[(.int p1), (.int p2), (.int p3), (.int p4), (.int p5), (.int p6)] 6)) t := by
    intro t k
    refine pre0 t ?_
    show Steps p.tables e below (s₁.setTop (mkF m 0 #[.val (.int p1), .val (.int p2), .val (.int p3), .val (.int p4), .val (.int p5), .val (.int p6)] [])) _
    refine XS.iloadN X0.here hx rfl (hb hby d1_0) rfl ?_
    show Steps p.tables e below (s₁.setTop (mkF m 1 #[.val (.int p1), .val (.int p2), .val (.int p3), .val (.int p4), .val (.int p5), .val (.int p6)] [(.int p1)])) _
    exact k
  by_cases hc1 : p1 = (0 : Int32)
  · have pre2 : ∀ t, Steps p.tables e below (s₁.setTop (mkF m 5 #[.val (.int p1), .val (.int p2), .val (.int p3), .val (.int p4), .val (.int p5), .val (.int p6)] [(.int (0 : Int32))])) t → Steps p.tables e below (s₁.setTop (entryFrame m #[(.int p1), (.int p2), (.int p3), (.int p4), (.int p5), (.int p6)] 6)) t := by
      intro t k
      refine pre1 t ?_
      refine XS.ifNo X0.here hx rfl (hb hby d1_1) rfl ((if0 _ _).trans (teq hc1).2) ?_
      show Steps p.tables e below (s₁.setTop (mkF m 4 #[.val (.int p1), .val (.int p2), .val (.int p3), .val (.int p4), .val (.int p5), .val (.int p6)] [])) _
      refine XS.iconst X0.here hx rfl (hb hby d1_4) ?_
      show Steps p.tables e below (s₁.setTop (mkF m 5 #[.val (.int p1), .val (.int p2), .val (.int p3), .val (.int p4), .val (.int p5), .val (.int p6)] [(.int (0 : Int32))])) _
      exact k
    obtain ⟨T3, h3, k3, X3, e3, E3, A3, st3⟩ := newP X0 hx hZ (hw _ (List.mem_of_getElem? (i := 5) rfl)) e0 (g := (mkF m 5 #[.val (.int p1), .val (.int p2), .val (.int p3), .val (.int p4), .val (.int p5), .val (.int p6)] [(.int (0 : Int32))])) rfl (hb hby d1_5) rfl (by decide) (cap := 0) (by decide) (by decide) (by decide) (by decide)
    obtain ⟨b3, g3⟩ : ∃ z, z = h0.size := ⟨_, rfl⟩
    rw [← g3] at A3 st3
    have gg3 : n0 ≤ b3 := Nat.le_trans Z0 (Nat.le_of_eq g3.symm)
    have sz3 : h0.size ≤ b3 := Nat.le_trans K0.1 (Nat.le_of_eq g3.symm)
    have Z3 : n0 ≤ h3.size := Nat.le_trans Z0 E3.1
    have K3 := Keep.ext K0 E3
    have V3 : own_AI Z h3 b3 .int (0 : Int32) (fun _ => 0) := own_AI.new A3 (by decide) rfl
    have pre3 : ∀ t, Steps p.tables e below (T3.setTop (mkF m 7 #[.val (.int p1), .val (.int p2), .val (.int p3), .val (.int p4), .val (.int p5), .val (.int p6)] [(.ref b3)])) t → Steps p.tables e below (s₁.setTop (entryFrame m #[(.int p1), (.int p2), (.int p3), (.int p4), (.int p5), (.int p6)] 6)) t := fun t k => pre2 t (st3 _ k)
    obtain ⟨fs, hr, hrun, hended, hW, hsame⟩ := X3.leave (v := some (.ref b3)) (fun h => by rw [Bd.returns] at h; cases h)
    refine ⟨_, _, pre3 _ ?_, hrun, hended, _, _, rfl, ?_, ⟨_, rfl⟩, hW, hsame.mono (by decide) (by decide)⟩
    · show Steps p.tables e below (T3.setTop (mkF m 7 #[.val (.int p1), .val (.int p2), .val (.int p3), .val (.int p4), .val (.int p5), .val (.int p6)] [(.ref b3)])) _
      exact own_retR X3 hx Bd.returns rfl rfl (hb hby d1_7) hr
    · show Q1 Z p1 p2 p3 p4 p5 p6 h0 n0 _ T3.heap _
      rw [e3]
      have q : (0 : Int32) = p1 := hc1.symm
      refine ⟨b3, rfl, N0, K3, gg3, ?_⟩
      rw [← q]
      refine own_AI.congr V3 fun i hi => ?_
      have hi' : i < 0 := hi
      exact absurd hi' (Nat.not_lt_zero i)
  · have pre4 : ∀ t, Steps p.tables e below (s₁.setTop (mkF m 10 #[.val (.int p1), .val (.int p2), .val (.int p3), .val (.int p4), .val (.int p5), .val (.int p6)] [(.int (1 : Int32)), (.int p1)])) t → Steps p.tables e below (s₁.setTop (entryFrame m #[(.int p1), (.int p2), (.int p3), (.int p4), (.int p5), (.int p6)] 6)) t := by
      intro t k
      refine pre1 t ?_
      refine XS.ifYes X0.here hx rfl (pc0 := 1) (pc' := 8) rfl (hb hby d1_1) rfl ((if0 _ _).trans (feq hc1).2) (by decide) (by decide) ?_
      show Steps p.tables e below (s₁.setTop (mkF m 8 #[.val (.int p1), .val (.int p2), .val (.int p3), .val (.int p4), .val (.int p5), .val (.int p6)] [])) _
      refine XS.iloadN X0.here hx rfl (hb hby d1_8) rfl ?_
      show Steps p.tables e below (s₁.setTop (mkF m 9 #[.val (.int p1), .val (.int p2), .val (.int p3), .val (.int p4), .val (.int p5), .val (.int p6)] [(.int p1)])) _
      refine XS.iconst X0.here hx rfl (hb hby d1_9) ?_
      show Steps p.tables e below (s₁.setTop (mkF m 10 #[.val (.int p1), .val (.int p2), .val (.int p3), .val (.int p4), .val (.int p5), .val (.int p6)] [(.int (1 : Int32)), (.int p1)])) _
      exact k
    by_cases hc10 : p1 = (1 : Int32)
    · have pre5 : ∀ t, Steps p.tables e below (s₁.setTop (mkF m 14 #[.val (.int p1), .val (.int p2), .val (.int p3), .val (.int p4), .val (.int p5), .val (.int p6)] [(.int (1 : Int32))])) t → Steps p.tables e below (s₁.setTop (entryFrame m #[(.int p1), (.int p2), (.int p3), (.int p4), (.int p5), (.int p6)] 6)) t := by
        intro t k
        refine pre4 t ?_
        refine XS.icmpNo X0.here hx rfl (hb hby d1_10) rfl (teq hc10).2 ?_
        show Steps p.tables e below (s₁.setTop (mkF m 13 #[.val (.int p1), .val (.int p2), .val (.int p3), .val (.int p4), .val (.int p5), .val (.int p6)] [])) _
        refine XS.iconst X0.here hx rfl (hb hby d1_13) ?_
        show Steps p.tables e below (s₁.setTop (mkF m 14 #[.val (.int p1), .val (.int p2), .val (.int p3), .val (.int p4), .val (.int p5), .val (.int p6)] [(.int (1 : Int32))])) _
        exact k
      obtain ⟨T6, h6, k6, X6, e6, E6, A6, st6⟩ := newP X0 hx hZ (hw _ (List.mem_of_getElem? (i := 5) rfl)) e0 (g := (mkF m 14 #[.val (.int p1), .val (.int p2), .val (.int p3), .val (.int p4), .val (.int p5), .val (.int p6)] [(.int (1 : Int32))])) rfl (hb hby d1_14) rfl (by decide) (cap := 1) (by decide) (by decide) (by decide) (by decide)
      obtain ⟨b6, g6⟩ : ∃ z, z = h0.size := ⟨_, rfl⟩
      rw [← g6] at A6 st6
      have gg6 : n0 ≤ b6 := Nat.le_trans Z0 (Nat.le_of_eq g6.symm)
      have sz6 : h0.size ≤ b6 := Nat.le_trans K0.1 (Nat.le_of_eq g6.symm)
      have Z6 : n0 ≤ h6.size := Nat.le_trans Z0 E6.1
      have K6 := Keep.ext K0 E6
      have V6 : own_AI Z h6 b6 .int (1 : Int32) (fun _ => 0) := own_AI.new A6 (by decide) rfl
      have pre6 : ∀ t, Steps p.tables e below (T6.setTop (mkF m 16 #[.val (.int p1), .val (.int p2), .val (.int p3), .val (.int p4), .val (.int p5), .val (.int p6)] [(.ref b6)])) t → Steps p.tables e below (s₁.setTop (entryFrame m #[(.int p1), (.int p2), (.int p3), (.int p4), (.int p5), (.int p6)] 6)) t := fun t k => pre5 t (st6 _ k)
      have pre7 : ∀ t, Steps p.tables e below (T6.setTop (mkF m 19 #[.val (.int p1), .val (.int p2), .val (.int p3), .val (.int p4), .val (.int p5), .val (.int p6)] [(.int p2), (.int (0 : Int32)), (.ref b6), (.ref b6)])) t → Steps p.tables e below (s₁.setTop (entryFrame m #[(.int p1), (.int p2), (.int p3), (.int p4), (.int p5), (.int p6)] 6)) t := by
        intro t k
        refine pre6 t ?_
        refine XS.dup X6.here hx rfl (hb hby d1_16) rfl rfl ?_
        show Steps p.tables e below (T6.setTop (mkF m 17 #[.val (.int p1), .val (.int p2), .val (.int p3), .val (.int p4), .val (.int p5), .val (.int p6)] [(.ref b6), (.ref b6)])) _
        refine XS.iconst X6.here hx rfl (hb hby d1_17) ?_
        show Steps p.tables e below (T6.setTop (mkF m 18 #[.val (.int p1), .val (.int p2), .val (.int p3), .val (.int p4), .val (.int p5), .val (.int p6)] [(.int (0 : Int32)), (.ref b6), (.ref b6)])) _
        refine XS.iloadN X6.here hx rfl (hb hby d1_18) rfl ?_
        show Steps p.tables e below (T6.setTop (mkF m 19 #[.val (.int p1), .val (.int p2), .val (.int p3), .val (.int p4), .val (.int p5), .val (.int p6)] [(.int p2), (.int (0 : Int32)), (.ref b6), (.ref b6)])) _
        exact k
      obtain ⟨T8, h8, X8, e8, W8, V8, st8⟩ := own_stI X6 hx hZ e6 V6 (by decide) (by decide) (g := (mkF m 19 #[.val (.int p1), .val (.int p2), .val (.int p3), .val (.int p4), .val (.int p5), .val (.int p6)] [(.int p2), (.int (0 : Int32)), (.ref b6), (.ref b6)])) rfl rfl (hb hby d1_19)
      have F8_0 := V8
      have Z8 : n0 ≤ h8.size := Nat.le_trans Z6 (Keep.of_wr W8).1
      have K8 := Keep.wr K6 W8 (Or.inr sz6)
      have N8 := Fr.snoc X8 N0 gg6
      obtain ⟨f19, hf19⟩ : ∃ z : Nat → Int32, z = (own_upd (fun _ => 0) (0 : Int32).toNatClampNeg p2) := ⟨_, rfl⟩
      rw [← hf19] at F8_0
      have pre8 : ∀ t, Steps p.tables e below (T8.setTop (mkF m 20 #[.val (.int p1), .val (.int p2), .val (.int p3), .val (.int p4), .val (.int p5), .val (.int p6)] [(.ref b6)])) t → Steps p.tables e below (s₁.setTop (entryFrame m #[(.int p1), (.int p2), (.int p3), (.int p4), (.int p5), (.int p6)] 6)) t := fun t k => pre7 t (st8 _ k)
      obtain ⟨fs, hr, hrun, hended, hW, hsame⟩ := X8.leave (v := some (.ref b6)) (fun h => by rw [Bd.returns] at h; cases h)
      refine ⟨_, _, pre8 _ ?_, hrun, hended, _, _, rfl, ?_, ⟨_, rfl⟩, hW, hsame.mono (by decide) (by decide)⟩
      · show Steps p.tables e below (T8.setTop (mkF m 20 #[.val (.int p1), .val (.int p2), .val (.int p3), .val (.int p4), .val (.int p5), .val (.int p6)] [(.ref b6)])) _
        exact own_retR X8 hx Bd.returns rfl rfl (hb hby d1_20) hr
      · show Q1 Z p1 p2 p3 p4 p5 p6 h0 n0 _ T8.heap _
        rw [e8]
        subst hf19
        have q : (1 : Int32) = p1 := hc10.symm
        refine ⟨b6, rfl, N8, K8, gg6, ?_⟩
        rw [← q]
        refine own_AI.congr F8_0 fun i hi => ?_
        have hi' : i < 1 := hi
        exact own_small1 hi'
    · have pre9 : ∀ t, Steps p.tables e below (s₁.setTop (mkF m 23 #[.val (.int p1), .val (.int p2), .val (.int p3), .val (.int p4), .val (.int p5), .val (.int p6)] [(.int (2 : Int32)), (.int p1)])) t → Steps p.tables e below (s₁.setTop (entryFrame m #[(.int p1), (.int p2), (.int p3), (.int p4), (.int p5), (.int p6)] 6)) t := by
        intro t k
        refine pre4 t ?_
        refine XS.icmpYes X0.here hx rfl (pc0 := 10) (pc' := 21) rfl (hb hby d1_10) rfl (feq hc10).2 (by decide) (by decide) ?_
        show Steps p.tables e below (s₁.setTop (mkF m 21 #[.val (.int p1), .val (.int p2), .val (.int p3), .val (.int p4), .val (.int p5), .val (.int p6)] [])) _
        refine XS.iloadN X0.here hx rfl (hb hby d1_21) rfl ?_
        show Steps p.tables e below (s₁.setTop (mkF m 22 #[.val (.int p1), .val (.int p2), .val (.int p3), .val (.int p4), .val (.int p5), .val (.int p6)] [(.int p1)])) _
        refine XS.iconst X0.here hx rfl (hb hby d1_22) ?_
        show Steps p.tables e below (s₁.setTop (mkF m 23 #[.val (.int p1), .val (.int p2), .val (.int p3), .val (.int p4), .val (.int p5), .val (.int p6)] [(.int (2 : Int32)), (.int p1)])) _
        exact k
      by_cases hc23 : p1 = (2 : Int32)
      · have pre10 : ∀ t, Steps p.tables e below (s₁.setTop (mkF m 27 #[.val (.int p1), .val (.int p2), .val (.int p3), .val (.int p4), .val (.int p5), .val (.int p6)] [(.int (2 : Int32))])) t → Steps p.tables e below (s₁.setTop (entryFrame m #[(.int p1), (.int p2), (.int p3), (.int p4), (.int p5), (.int p6)] 6)) t := by
          intro t k
          refine pre9 t ?_
          refine XS.icmpNo X0.here hx rfl (hb hby d1_23) rfl (teq hc23).2 ?_
          show Steps p.tables e below (s₁.setTop (mkF m 26 #[.val (.int p1), .val (.int p2), .val (.int p3), .val (.int p4), .val (.int p5), .val (.int p6)] [])) _
          refine XS.iconst X0.here hx rfl (hb hby d1_26) ?_
          show Steps p.tables e below (s₁.setTop (mkF m 27 #[.val (.int p1), .val (.int p2), .val (.int p3), .val (.int p4), .val (.int p5), .val (.int p6)] [(.int (2 : Int32))])) _
          exact k
        obtain ⟨T11, h11, k11, X11, e11, E11, A11, st11⟩ := newP X0 hx hZ (hw _ (List.mem_of_getElem? (i := 5) rfl)) e0 (g := (mkF m 27 #[.val (.int p1), .val (.int p2), .val (.int p3), .val (.int p4), .val (.int p5), .val (.int p6)] [(.int (2 : Int32))])) rfl (hb hby d1_27) rfl (by decide) (cap := 2) (by decide) (by decide) (by decide) (by decide)
        obtain ⟨b11, g11⟩ : ∃ z, z = h0.size := ⟨_, rfl⟩
        rw [← g11] at A11 st11
        have gg11 : n0 ≤ b11 := Nat.le_trans Z0 (Nat.le_of_eq g11.symm)
        have sz11 : h0.size ≤ b11 := Nat.le_trans K0.1 (Nat.le_of_eq g11.symm)
        have Z11 : n0 ≤ h11.size := Nat.le_trans Z0 E11.1
        have K11 := Keep.ext K0 E11
        have V11 : own_AI Z h11 b11 .int (2 : Int32) (fun _ => 0) := own_AI.new A11 (by decide) rfl
        have pre11 : ∀ t, Steps p.tables e below (T11.setTop (mkF m 29 #[.val (.int p1), .val (.int p2), .val (.int p3), .val (.int p4), .val (.int p5), .val (.int p6)] [(.ref b11)])) t → Steps p.tables e below (s₁.setTop (entryFrame m #[(.int p1), (.int p2), (.int p3), (.int p4), (.int p5), (.int p6)] 6)) t := fun t k => pre10 t (st11 _ k)
        have pre12 : ∀ t, Steps p.tables e below (T11.setTop (mkF m 32 #[.val (.int p1), .val (.int p2), .val (.int p3), .val (.int p4), .val (.int p5), .val (.int p6)] [(.int p2), (.int (0 : Int32)), (.ref b11), (.ref b11)])) t → Steps p.tables e below (s₁.setTop (entryFrame m #[(.int p1), (.int p2), (.int p3), (.int p4), (.int p5), (.int p6)] 6)) t := by
          intro t k
          refine pre11 t ?_
          refine XS.dup X11.here hx rfl (hb hby d1_29) rfl rfl ?_
          show Steps p.tables e below (T11.setTop (mkF m 30 #[.val (.int p1), .val (.int p2), .val (.int p3), .val (.int p4), .val (.int p5), .val (.int p6)] [(.ref b11), (.ref b11)])) _
          refine XS.iconst X11.here hx rfl (hb hby d1_30) ?_
          show Steps p.tables e below (T11.setTop (mkF m 31 #[.val (.int p1), .val (.int p2), .val (.int p3), .val (.int p4), .val (.int p5), .val (.int p6)] [(.int (0 : Int32)), (.ref b11), (.ref b11)])) _
          refine XS.iloadN X11.here hx rfl (hb hby d1_31) rfl ?_
          show Steps p.tables e below (T11.setTop (mkF m 32 #[.val (.int p1), .val (.int p2), .val (.int p3), .val (.int p4), .val (.int p5), .val (.int p6)] [(.int p2), (.int (0 : Int32)), (.ref b11), (.ref b11)])) _
          exact k
        obtain ⟨T13, h13, X13, e13, W13, V13, st13⟩ := own_stI X11 hx hZ e11 V11 (by decide) (by decide) (g := (mkF m 32 #[.val (.int p1), .val (.int p2), .val (.int p3), .val (.int p4), .val (.int p5), .val (.int p6)] [(.int p2), (.int (0 : Int32)), (.ref b11), (.ref b11)])) rfl rfl (hb hby d1_32)
        have F13_0 := V13
        have Z13 : n0 ≤ h13.size := Nat.le_trans Z11 (Keep.of_wr W13).1
        have K13 := Keep.wr K11 W13 (Or.inr sz11)
        have N13 := Fr.snoc X13 N0 gg11
        obtain ⟨f32, hf32⟩ : ∃ z : Nat → Int32, z = (own_upd (fun _ => 0) (0 : Int32).toNatClampNeg p2) := ⟨_, rfl⟩
        rw [← hf32] at F13_0
        have pre13 : ∀ t, Steps p.tables e below (T13.setTop (mkF m 33 #[.val (.int p1), .val (.int p2), .val (.int p3), .val (.int p4), .val (.int p5), .val (.int p6)] [(.ref b11)])) t → Steps p.tables e below (s₁.setTop (entryFrame m #[(.int p1), (.int p2), (.int p3), (.int p4), (.int p5), (.int p6)] 6)) t := fun t k => pre12 t (st13 _ k)
        have pre14 : ∀ t, Steps p.tables e below (T13.setTop (mkF m 36 #[.val (.int p1), .val (.int p2), .val (.int p3), .val (.int p4), .val (.int p5), .val (.int p6)] [(.int p3), (.int (1 : Int32)), (.ref b11), (.ref b11)])) t → Steps p.tables e below (s₁.setTop (entryFrame m #[(.int p1), (.int p2), (.int p3), (.int p4), (.int p5), (.int p6)] 6)) t := by
          intro t k
          refine pre13 t ?_
          refine XS.dup X13.here hx rfl (hb hby d1_33) rfl rfl ?_
          show Steps p.tables e below (T13.setTop (mkF m 34 #[.val (.int p1), .val (.int p2), .val (.int p3), .val (.int p4), .val (.int p5), .val (.int p6)] [(.ref b11), (.ref b11)])) _
          refine XS.iconst X13.here hx rfl (hb hby d1_34) ?_
          show Steps p.tables e below (T13.setTop (mkF m 35 #[.val (.int p1), .val (.int p2), .val (.int p3), .val (.int p4), .val (.int p5), .val (.int p6)] [(.int (1 : Int32)), (.ref b11), (.ref b11)])) _
          refine XS.iloadN X13.here hx rfl (hb hby d1_35) rfl ?_
          show Steps p.tables e below (T13.setTop (mkF m 36 #[.val (.int p1), .val (.int p2), .val (.int p3), .val (.int p4), .val (.int p5), .val (.int p6)] [(.int p3), (.int (1 : Int32)), (.ref b11), (.ref b11)])) _
          exact k
        obtain ⟨T15, h15, X15, e15, W15, V15, st15⟩ := own_stI X13 hx hZ e13 F13_0 (by decide) (by decide) (g := (mkF m 36 #[.val (.int p1), .val (.int p2), .val (.int p3), .val (.int p4), .val (.int p5), .val (.int p6)] [(.int p3), (.int (1 : Int32)), (.ref b11), (.ref b11)])) rfl rfl (hb hby d1_36)
        have F15_0 := V15
        have Z15 : n0 ≤ h15.size := Nat.le_trans Z13 (Keep.of_wr W15).1
        have K15 := Keep.wr K13 W15 (Or.inr sz11)
        have N15 := Fr.snoc X15 N13 gg11
        obtain ⟨f36, hf36⟩ : ∃ z : Nat → Int32, z = (own_upd f32 (1 : Int32).toNatClampNeg p3) := ⟨_, rfl⟩
        rw [← hf36] at F15_0
        have pre15 : ∀ t, Steps p.tables e below (T15.setTop (mkF m 37 #[.val (.int p1), .val (.int p2), .val (.int p3), .val (.int p4), .val (.int p5), .val (.int p6)] [(.ref b11)])) t → Steps p.tables e below (s₁.setTop (entryFrame m #[(.int p1), (.int p2), (.int p3), (.int p4), (.int p5), (.int p6)] 6)) t := fun t k => pre14 t (st15 _ k)
        obtain ⟨fs, hr, hrun, hended, hW, hsame⟩ := X15.leave (v := some (.ref b11)) (fun h => by rw [Bd.returns] at h; cases h)
        refine ⟨_, _, pre15 _ ?_, hrun, hended, _, _, rfl, ?_, ⟨_, rfl⟩, hW, hsame.mono (by decide) (by decide)⟩
        · show Steps p.tables e below (T15.setTop (mkF m 37 #[.val (.int p1), .val (.int p2), .val (.int p3), .val (.int p4), .val (.int p5), .val (.int p6)] [(.ref b11)])) _
          exact own_retR X15 hx Bd.returns rfl rfl (hb hby d1_37) hr
        · show Q1 Z p1 p2 p3 p4 p5 p6 h0 n0 _ T15.heap _
          rw [e15]
          subst hf36 hf32
          have q : (2 : Int32) = p1 := hc23.symm
          refine ⟨b11, rfl, N15, K15, gg11, ?_⟩
          rw [← q]
          refine own_AI.congr F15_0 fun i hi => ?_
          have hi' : i < 2 := hi
          exact own_small2 hi'
      · have pre16 : ∀ t, Steps p.tables e below (s₁.setTop (mkF m 40 #[.val (.int p1), .val (.int p2), .val (.int p3), .val (.int p4), .val (.int p5), .val (.int p6)] [(.int (3 : Int32)), (.int p1)])) t → Steps p.tables e below (s₁.setTop (entryFrame m #[(.int p1), (.int p2), (.int p3), (.int p4), (.int p5), (.int p6)] 6)) t := by
          intro t k
          refine pre9 t ?_
          refine XS.icmpYes X0.here hx rfl (pc0 := 23) (pc' := 38) rfl (hb hby d1_23) rfl (feq hc23).2 (by decide) (by decide) ?_
          show Steps p.tables e below (s₁.setTop (mkF m 38 #[.val (.int p1), .val (.int p2), .val (.int p3), .val (.int p4), .val (.int p5), .val (.int p6)] [])) _
          refine XS.iloadN X0.here hx rfl (hb hby d1_38) rfl ?_
          show Steps p.tables e below (s₁.setTop (mkF m 39 #[.val (.int p1), .val (.int p2), .val (.int p3), .val (.int p4), .val (.int p5), .val (.int p6)] [(.int p1)])) _
          refine XS.iconst X0.here hx rfl (hb hby d1_39) ?_
          show Steps p.tables e below (s₁.setTop (mkF m 40 #[.val (.int p1), .val (.int p2), .val (.int p3), .val (.int p4), .val (.int p5), .val (.int p6)] [(.int (3 : Int32)), (.int p1)])) _
          exact k
        by_cases hc40 : p1 = (3 : Int32)
        · have pre17 : ∀ t, Steps p.tables e below (s₁.setTop (mkF m 44 #[.val (.int p1), .val (.int p2), .val (.int p3), .val (.int p4), .val (.int p5), .val (.int p6)] [(.int (3 : Int32))])) t → Steps p.tables e below (s₁.setTop (entryFrame m #[(.int p1), (.int p2), (.int p3), (.int p4), (.int p5), (.int p6)] 6)) t := by
            intro t k
            refine pre16 t ?_
            refine XS.icmpNo X0.here hx rfl (hb hby d1_40) rfl (teq hc40).2 ?_
            show Steps p.tables e below (s₁.setTop (mkF m 43 #[.val (.int p1), .val (.int p2), .val (.int p3), .val (.int p4), .val (.int p5), .val (.int p6)] [])) _
            refine XS.iconst X0.here hx rfl (hb hby d1_43) ?_
            show Steps p.tables e below (s₁.setTop (mkF m 44 #[.val (.int p1), .val (.int p2), .val (.int p3), .val (.int p4), .val (.int p5), .val (.int p6)] [(.int (3 : Int32))])) _
            exact k
          obtain ⟨T18, h18, k18, X18, e18, E18, A18, st18⟩ := newP X0 hx hZ (hw _ (List.mem_of_getElem? (i := 5) rfl)) e0 (g := (mkF m 44 #[.val (.int p1), .val (.int p2), .val (.int p3), .val (.int p4), .val (.int p5), .val (.int p6)] [(.int (3 : Int32))])) rfl (hb hby d1_44) rfl (by decide) (cap := 3) (by decide) (by decide) (by decide) (by decide)
          obtain ⟨b18, g18⟩ : ∃ z, z = h0.size := ⟨_, rfl⟩
          rw [← g18] at A18 st18
          have gg18 : n0 ≤ b18 := Nat.le_trans Z0 (Nat.le_of_eq g18.symm)
          have sz18 : h0.size ≤ b18 := Nat.le_trans K0.1 (Nat.le_of_eq g18.symm)
          have Z18 : n0 ≤ h18.size := Nat.le_trans Z0 E18.1
          have K18 := Keep.ext K0 E18
          have V18 : own_AI Z h18 b18 .int (3 : Int32) (fun _ => 0) := own_AI.new A18 (by decide) rfl
          have pre18 : ∀ t, Steps p.tables e below (T18.setTop (mkF m 46 #[.val (.int p1), .val (.int p2), .val (.int p3), .val (.int p4), .val (.int p5), .val (.int p6)] [(.ref b18)])) t → Steps p.tables e below (s₁.setTop (entryFrame m #[(.int p1), (.int p2), (.int p3), (.int p4), (.int p5), (.int p6)] 6)) t := fun t k => pre17 t (st18 _ k)
          have pre19 : ∀ t, Steps p.tables e below (T18.setTop (mkF m 49 #[.val (.int p1), .val (.int p2), .val (.int p3), .val (.int p4), .val (.int p5), .val (.int p6)] [(.int p2), (.int (0 : Int32)), (.ref b18), (.ref b18)])) t → Steps p.tables e below (s₁.setTop (entryFrame m #[(.int p1), (.int p2), (.int p3), (.int p4), (.int p5), (.int p6)] 6)) t := by
            intro t k
            refine pre18 t ?_
            refine XS.dup X18.here hx rfl (hb hby d1_46) rfl rfl ?_
            show Steps p.tables e below (T18.setTop (mkF m 47 #[.val (.int p1), .val (.int p2), .val (.int p3), .val (.int p4), .val (.int p5), .val (.int p6)] [(.ref b18), (.ref b18)])) _
            refine XS.iconst X18.here hx rfl (hb hby d1_47) ?_
            show Steps p.tables e below (T18.setTop (mkF m 48 #[.val (.int p1), .val (.int p2), .val (.int p3), .val (.int p4), .val (.int p5), .val (.int p6)] [(.int (0 : Int32)), (.ref b18), (.ref b18)])) _
            refine XS.iloadN X18.here hx rfl (hb hby d1_48) rfl ?_
            show Steps p.tables e below (T18.setTop (mkF m 49 #[.val (.int p1), .val (.int p2), .val (.int p3), .val (.int p4), .val (.int p5), .val (.int p6)] [(.int p2), (.int (0 : Int32)), (.ref b18), (.ref b18)])) _
            exact k
          obtain ⟨T20, h20, X20, e20, W20, V20, st20⟩ := own_stI X18 hx hZ e18 V18 (by decide) (by decide) (g := (mkF m 49 #[.val (.int p1), .val (.int p2), .val (.int p3), .val (.int p4), .val (.int p5), .val (.int p6)] [(.int p2), (.int (0 : Int32)), (.ref b18), (.ref b18)])) rfl rfl (hb hby d1_49)
          have F20_0 := V20
          have Z20 : n0 ≤ h20.size := Nat.le_trans Z18 (Keep.of_wr W20).1
          have K20 := Keep.wr K18 W20 (Or.inr sz18)
          have N20 := Fr.snoc X20 N0 gg18
          obtain ⟨f49, hf49⟩ : ∃ z : Nat → Int32, z = (own_upd (fun _ => 0) (0 : Int32).toNatClampNeg p2) := ⟨_, rfl⟩
          rw [← hf49] at F20_0
          have pre20 : ∀ t, Steps p.tables e below (T20.setTop (mkF m 50 #[.val (.int p1), .val (.int p2), .val (.int p3), .val (.int p4), .val (.int p5), .val (.int p6)] [(.ref b18)])) t → Steps p.tables e below (s₁.setTop (entryFrame m #[(.int p1), (.int p2), (.int p3), (.int p4), (.int p5), (.int p6)] 6)) t := fun t k => pre19 t (st20 _ k)
          have pre21 : ∀ t, Steps p.tables e below (T20.setTop (mkF m 53 #[.val (.int p1), .val (.int p2), .val (.int p3), .val (.int p4), .val (.int p5), .val (.int p6)] [(.int p3), (.int (1 : Int32)), (.ref b18), (.ref b18)])) t → Steps p.tables e below (s₁.setTop (entryFrame m #[(.int p1), (.int p2), (.int p3), (.int p4), (.int p5), (.int p6)] 6)) t := by
            intro t k
            refine pre20 t ?_
            refine XS.dup X20.here hx rfl (hb hby d1_50) rfl rfl ?_
            show Steps p.tables e below (T20.setTop (mkF m 51 #[.val (.int p1), .val (.int p2), .val (.int p3), .val (.int p4), .val (.int p5), .val (.int p6)] [(.ref b18), (.ref b18)])) _
            refine XS.iconst X20.here hx rfl (hb hby d1_51) ?_
            show Steps p.tables e below (T20.setTop (mkF m 52 #[.val (.int p1), .val (.int p2), .val (.int p3), .val (.int p4), .val (.int p5), .val (.int p6)] [(.int (1 : Int32)), (.ref b18), (.ref b18)])) _
            refine XS.iloadN X20.here hx rfl (hb hby d1_52) rfl ?_
            show Steps p.tables e below (T20.setTop (mkF m 53 #[.val (.int p1), .val (.int p2), .val (.int p3), .val (.int p4), .val (.int p5), .val (.int p6)] [(.int p3), (.int (1 : Int32)), (.ref b18), (.ref b18)])) _
            exact k
          obtain ⟨T22, h22, X22, e22, W22, V22, st22⟩ := own_stI X20 hx hZ e20 F20_0 (by decide) (by decide) (g := (mkF m 53 #[.val (.int p1), .val (.int p2), .val (.int p3), .val (.int p4), .val (.int p5), .val (.int p6)] [(.int p3), (.int (1 : Int32)), (.ref b18), (.ref b18)])) rfl rfl (hb hby d1_53)
          have F22_0 := V22
          have Z22 : n0 ≤ h22.size := Nat.le_trans Z20 (Keep.of_wr W22).1
          have K22 := Keep.wr K20 W22 (Or.inr sz18)
          have N22 := Fr.snoc X22 N20 gg18
          obtain ⟨f53, hf53⟩ : ∃ z : Nat → Int32, z = (own_upd f49 (1 : Int32).toNatClampNeg p3) := ⟨_, rfl⟩
          rw [← hf53] at F22_0
          have pre22 : ∀ t, Steps p.tables e below (T22.setTop (mkF m 54 #[.val (.int p1), .val (.int p2), .val (.int p3), .val (.int p4), .val (.int p5), .val (.int p6)] [(.ref b18)])) t → Steps p.tables e below (s₁.setTop (entryFrame m #[(.int p1), (.int p2), (.int p3), (.int p4), (.int p5), (.int p6)] 6)) t := fun t k => pre21 t (st22 _ k)
          have pre23 : ∀ t, Steps p.tables e below (T22.setTop (mkF m 57 #[.val (.int p1), .val (.int p2), .val (.int p3), .val (.int p4), .val (.int p5), .val (.int p6)] [(.int p4), (.int (2 : Int32)), (.ref b18), (.ref b18)])) t → Steps p.tables e below (s₁.setTop (entryFrame m #[(.int p1), (.int p2), (.int p3), (.int p4), (.int p5), (.int p6)] 6)) t := by
            intro t k
            refine pre22 t ?_
            refine XS.dup X22.here hx rfl (hb hby d1_54) rfl rfl ?_
            show Steps p.tables e below (T22.setTop (mkF m 55 #[.val (.int p1), .val (.int p2), .val (.int p3), .val (.int p4), .val (.int p5), .val (.int p6)] [(.ref b18), (.ref b18)])) _
            refine XS.iconst X22.here hx rfl (hb hby d1_55) ?_
            show Steps p.tables e below (T22.setTop (mkF m 56 #[.val (.int p1), .val (.int p2), .val (.int p3), .val (.int p4), .val (.int p5), .val (.int p6)] [(.int (2 : Int32)), (.ref b18), (.ref b18)])) _
            refine XS.iloadN X22.here hx rfl (hb hby d1_56) rfl ?_
            show Steps p.tables e below (T22.setTop (mkF m 57 #[.val (.int p1), .val (.int p2), .val (.int p3), .val (.int p4), .val (.int p5), .val (.int p6)] [(.int p4), (.int (2 : Int32)), (.ref b18), (.ref b18)])) _
            exact k
          obtain ⟨T24, h24, X24, e24, W24, V24, st24⟩ := own_stI X22 hx hZ e22 F22_0 (by decide) (by decide) (g := (mkF m 57 #[.val (.int p1), .val (.int p2), .val (.int p3), .val (.int p4), .val (.int p5), .val (.int p6)] [(.int p4), (.int (2 : Int32)), (.ref b18), (.ref b18)])) rfl rfl (hb hby d1_57)
          have F24_0 := V24
          have Z24 : n0 ≤ h24.size := Nat.le_trans Z22 (Keep.of_wr W24).1
          have K24 := Keep.wr K22 W24 (Or.inr sz18)
          have N24 := Fr.snoc X24 N22 gg18
          obtain ⟨f57, hf57⟩ : ∃ z : Nat → Int32, z = (own_upd f53 (2 : Int32).toNatClampNeg p4) := ⟨_, rfl⟩
          rw [← hf57] at F24_0
          have pre24 : ∀ t, Steps p.tables e below (T24.setTop (mkF m 58 #[.val (.int p1), .val (.int p2), .val (.int p3), .val (.int p4), .val (.int p5), .val (.int p6)] [(.ref b18)])) t → Steps p.tables e below (s₁.setTop (entryFrame m #[(.int p1), (.int p2), (.int p3), (.int p4), (.int p5), (.int p6)] 6)) t := fun t k => pre23 t (st24 _ k)
          obtain ⟨fs, hr, hrun, hended, hW, hsame⟩ := X24.leave (v := some (.ref b18)) (fun h => by rw [Bd.returns] at h; cases h)
          refine ⟨_, _, pre24 _ ?_, hrun, hended, _, _, rfl, ?_, ⟨_, rfl⟩, hW, hsame.mono (by decide) (by decide)⟩
          · show Steps p.tables e below (T24.setTop (mkF m 58 #[.val (.int p1), .val (.int p2), .val (.int p3), .val (.int p4), .val (.int p5), .val (.int p6)] [(.ref b18)])) _
            exact own_retR X24 hx Bd.returns rfl rfl (hb hby d1_58) hr
          · show Q1 Z p1 p2 p3 p4 p5 p6 h0 n0 _ T24.heap _
            rw [e24]
            subst hf57 hf53 hf49
            have q : (3 : Int32) = p1 := hc40.symm
            refine ⟨b18, rfl, N24, K24, gg18, ?_⟩
            rw [← q]
            refine own_AI.congr F24_0 fun i hi => ?_
            have hi' : i < 3 := hi
            exact own_small3 hi'
        · have pre25 : ∀ t, Steps p.tables e below (s₁.setTop (mkF m 61 #[.val (.int p1), .val (.int p2), .val (.int p3), .val (.int p4), .val (.int p5), .val (.int p6)] [(.int (4 : Int32)), (.int p1)])) t → Steps p.tables e below (s₁.setTop (entryFrame m #[(.int p1), (.int p2), (.int p3), (.int p4), (.int p5), (.int p6)] 6)) t := by
            intro t k
            refine pre16 t ?_
            refine XS.icmpYes X0.here hx rfl (pc0 := 40) (pc' := 59) rfl (hb hby d1_40) rfl (feq hc40).2 (by decide) (by decide) ?_
            show Steps p.tables e below (s₁.setTop (mkF m 59 #[.val (.int p1), .val (.int p2), .val (.int p3), .val (.int p4), .val (.int p5), .val (.int p6)] [])) _
            refine XS.iloadN X0.here hx rfl (hb hby d1_59) rfl ?_
            show Steps p.tables e below (s₁.setTop (mkF m 60 #[.val (.int p1), .val (.int p2), .val (.int p3), .val (.int p4), .val (.int p5), .val (.int p6)] [(.int p1)])) _
            refine XS.iconst X0.here hx rfl (hb hby d1_60) ?_
            show Steps p.tables e below (s₁.setTop (mkF m 61 #[.val (.int p1), .val (.int p2), .val (.int p3), .val (.int p4), .val (.int p5), .val (.int p6)] [(.int (4 : Int32)), (.int p1)])) _
            exact k
          by_cases hc61 : p1 = (4 : Int32)
          · have pre26 : ∀ t, Steps p.tables e below (s₁.setTop (mkF m 65 #[.val (.int p1), .val (.int p2), .val (.int p3), .val (.int p4), .val (.int p5), .val (.int p6)] [(.int (4 : Int32))])) t → Steps p.tables e below (s₁.setTop (entryFrame m #[(.int p1), (.int p2), (.int p3), (.int p4), (.int p5), (.int p6)] 6)) t := by
              intro t k
              refine pre25 t ?_
              refine XS.icmpNo X0.here hx rfl (hb hby d1_61) rfl (teq hc61).2 ?_
              show Steps p.tables e below (s₁.setTop (mkF m 64 #[.val (.int p1), .val (.int p2), .val (.int p3), .val (.int p4), .val (.int p5), .val (.int p6)] [])) _
              refine XS.iconst X0.here hx rfl (hb hby d1_64) ?_
              show Steps p.tables e below (s₁.setTop (mkF m 65 #[.val (.int p1), .val (.int p2), .val (.int p3), .val (.int p4), .val (.int p5), .val (.int p6)] [(.int (4 : Int32))])) _
              exact k
            obtain ⟨T27, h27, k27, X27, e27, E27, A27, st27⟩ := newP X0 hx hZ (hw _ (List.mem_of_getElem? (i := 5) rfl)) e0 (g := (mkF m 65 #[.val (.int p1), .val (.int p2), .val (.int p3), .val (.int p4), .val (.int p5), .val (.int p6)] [(.int (4 : Int32))])) rfl (hb hby d1_65) rfl (by decide) (cap := 4) (by decide) (by decide) (by decide) (by decide)
            obtain ⟨b27, g27⟩ : ∃ z, z = h0.size := ⟨_, rfl⟩
            rw [← g27] at A27 st27
            have gg27 : n0 ≤ b27 := Nat.le_trans Z0 (Nat.le_of_eq g27.symm)
            have sz27 : h0.size ≤ b27 := Nat.le_trans K0.1 (Nat.le_of_eq g27.symm)
            have Z27 : n0 ≤ h27.size := Nat.le_trans Z0 E27.1
            have K27 := Keep.ext K0 E27
            have V27 : own_AI Z h27 b27 .int (4 : Int32) (fun _ => 0) := own_AI.new A27 (by decide) rfl
            have pre27 : ∀ t, Steps p.tables e below (T27.setTop (mkF m 67 #[.val (.int p1), .val (.int p2), .val (.int p3), .val (.int p4), .val (.int p5), .val (.int p6)] [(.ref b27)])) t → Steps p.tables e below (s₁.setTop (entryFrame m #[(.int p1), (.int p2), (.int p3), (.int p4), (.int p5), (.int p6)] 6)) t := fun t k => pre26 t (st27 _ k)
            have pre28 : ∀ t, Steps p.tables e below (T27.setTop (mkF m 70 #[.val (.int p1), .val (.int p2), .val (.int p3), .val (.int p4), .val (.int p5), .val (.int p6)] [(.int p2), (.int (0 : Int32)), (.ref b27), (.ref b27)])) t → Steps p.tables e below (s₁.setTop (entryFrame m #[(.int p1), (.int p2), (.int p3), (.int p4), (.int p5), (.int p6)] 6)) t := by
              intro t k
              refine pre27 t ?_
              refine XS.dup X27.here hx rfl (hb hby d1_67) rfl rfl ?_
              show Steps p.tables e below (T27.setTop (mkF m 68 #[.val (.int p1), .val (.int p2), .val (.int p3), .val (.int p4), .val (.int p5), .val (.int p6)] [(.ref b27), (.ref b27)])) _
              refine XS.iconst X27.here hx rfl (hb hby d1_68) ?_
              show Steps p.tables e below (T27.setTop (mkF m 69 #[.val (.int p1), .val (.int p2), .val (.int p3), .val (.int p4), .val (.int p5), .val (.int p6)] [(.int (0 : Int32)), (.ref b27), (.ref b27)])) _
              refine XS.iloadN X27.here hx rfl (hb hby d1_69) rfl ?_
              show Steps p.tables e below (T27.setTop (mkF m 70 #[.val (.int p1), .val (.int p2), .val (.int p3), .val (.int p4), .val (.int p5), .val (.int p6)] [(.int p2), (.int (0 : Int32)), (.ref b27), (.ref b27)])) _
              exact k
            obtain ⟨T29, h29, X29, e29, W29, V29, st29⟩ := own_stI X27 hx hZ e27 V27 (by decide) (by decide) (g := (mkF m 70 #[.val (.int p1), .val (.int p2), .val (.int p3), .val (.int p4), .val (.int p5), .val (.int p6)] [(.int p2), (.int (0 : Int32)), (.ref b27), (.ref b27)])) rfl rfl (hb hby d1_70)
            have F29_0 := V29
            have Z29 : n0 ≤ h29.size := Nat.le_trans Z27 (Keep.of_wr W29).1
            have K29 := Keep.wr K27 W29 (Or.inr sz27)
            have N29 := Fr.snoc X29 N0 gg27
            obtain ⟨f70, hf70⟩ : ∃ z : Nat → Int32, z = (own_upd (fun _ => 0) (0 : Int32).toNatClampNeg p2) := ⟨_, rfl⟩
            rw [← hf70] at F29_0
            have pre29 : ∀ t, Steps p.tables e below (T29.setTop (mkF m 71 #[.val (.int p1), .val (.int p2), .val (.int p3), .val (.int p4), .val (.int p5), .val (.int p6)] [(.ref b27)])) t → Steps p.tables e below (s₁.setTop (entryFrame m #[(.int p1), (.int p2), (.int p3), (.int p4), (.int p5), (.int p6)] 6)) t := fun t k => pre28 t (st29 _ k)
            have pre30 : ∀ t, Steps p.tables e below (T29.setTop (mkF m 74 #[.val (.int p1), .val (.int p2), .val (.int p3), .val (.int p4), .val (.int p5), .val (.int p6)] [(.int p3), (.int (1 : Int32)), (.ref b27), (.ref b27)])) t → Steps p.tables e below (s₁.setTop (entryFrame m #[(.int p1), (.int p2), (.int p3), (.int p4), (.int p5), (.int p6)] 6)) t := by
              intro t k
              refine pre29 t ?_
              refine XS.dup X29.here hx rfl (hb hby d1_71) rfl rfl ?_
              show Steps p.tables e below (T29.setTop (mkF m 72 #[.val (.int p1), .val (.int p2), .val (.int p3), .val (.int p4), .val (.int p5), .val (.int p6)] [(.ref b27), (.ref b27)])) _
              refine XS.iconst X29.here hx rfl (hb hby d1_72) ?_
              show Steps p.tables e below (T29.setTop (mkF m 73 #[.val (.int p1), .val (.int p2), .val (.int p3), .val (.int p4), .val (.int p5), .val (.int p6)] [(.int (1 : Int32)), (.ref b27), (.ref b27)])) _
              refine XS.iloadN X29.here hx rfl (hb hby d1_73) rfl ?_
              show Steps p.tables e below (T29.setTop (mkF m 74 #[.val (.int p1), .val (.int p2), .val (.int p3), .val (.int p4), .val (.int p5), .val (.int p6)] [(.int p3), (.int (1 : Int32)), (.ref b27), (.ref b27)])) _
              exact k
            obtain ⟨T31, h31, X31, e31, W31, V31, st31⟩ := own_stI X29 hx hZ e29 F29_0 (by decide) (by decide) (g := (mkF m 74 #[.val (.int p1), .val (.int p2), .val (.int p3), .val (.int p4), .val (.int p5), .val (.int p6)] [(.int p3), (.int (1 : Int32)), (.ref b27), (.ref b27)])) rfl rfl (hb hby d1_74)
            have F31_0 := V31
            have Z31 : n0 ≤ h31.size := Nat.le_trans Z29 (Keep.of_wr W31).1
            have K31 := Keep.wr K29 W31 (Or.inr sz27)
            have N31 := Fr.snoc X31 N29 gg27
            obtain ⟨f74, hf74⟩ : ∃ z : Nat → Int32, z = (own_upd f70 (1 : Int32).toNatClampNeg p3) := ⟨_, rfl⟩
            rw [← hf74] at F31_0
            have pre31 : ∀ t, Steps p.tables e below (T31.setTop (mkF m 75 #[.val (.int p1), .val (.int p2), .val (.int p3), .val (.int p4), .val (.int p5), .val (.int p6)] [(.ref b27)])) t → Steps p.tables e below (s₁.setTop (entryFrame m #[(.int p1), (.int p2), (.int p3), (.int p4), (.int p5), (.int p6)] 6)) t := fun t k => pre30 t (st31 _ k)
            have pre32 : ∀ t, Steps p.tables e below (T31.setTop (mkF m 78 #[.val (.int p1), .val (.int p2), .val (.int p3), .val (.int p4), .val (.int p5), .val (.int p6)] [(.int p4), (.int (2 : Int32)), (.ref b27), (.ref b27)])) t → Steps p.tables e below (s₁.setTop (entryFrame m #[(.int p1), (.int p2), (.int p3), (.int p4), (.int p5), (.int p6)] 6)) t := by
              intro t k
              refine pre31 t ?_
              refine XS.dup X31.here hx rfl (hb hby d1_75) rfl rfl ?_
              show Steps p.tables e below (T31.setTop (mkF m 76 #[.val (.int p1), .val (.int p2), .val (.int p3), .val (.int p4), .val (.int p5), .val (.int p6)] [(.ref b27), (.ref b27)])) _
              refine XS.iconst X31.here hx rfl (hb hby d1_76) ?_
              show Steps p.tables e below (T31.setTop (mkF m 77 #[.val (.int p1), .val (.int p2), .val (.int p3), .val (.int p4), .val (.int p5), .val (.int p6)] [(.int (2 : Int32)), (.ref b27), (.ref b27)])) _
              refine XS.iloadN X31.here hx rfl (hb hby d1_77) rfl ?_
              show Steps p.tables e below (T31.setTop (mkF m 78 #[.val (.int p1), .val (.int p2), .val (.int p3), .val (.int p4), .val (.int p5), .val (.int p6)] [(.int p4), (.int (2 : Int32)), (.ref b27), (.ref b27)])) _
              exact k
            obtain ⟨T33, h33, X33, e33, W33, V33, st33⟩ := own_stI X31 hx hZ e31 F31_0 (by decide) (by decide) (g := (mkF m 78 #[.val (.int p1), .val (.int p2), .val (.int p3), .val (.int p4), .val (.int p5), .val (.int p6)] [(.int p4), (.int (2 : Int32)), (.ref b27), (.ref b27)])) rfl rfl (hb hby d1_78)
            have F33_0 := V33
            have Z33 : n0 ≤ h33.size := Nat.le_trans Z31 (Keep.of_wr W33).1
            have K33 := Keep.wr K31 W33 (Or.inr sz27)
            have N33 := Fr.snoc X33 N31 gg27
            obtain ⟨f78, hf78⟩ : ∃ z : Nat → Int32, z = (own_upd f74 (2 : Int32).toNatClampNeg p4) := ⟨_, rfl⟩
            rw [← hf78] at F33_0
            have pre33 : ∀ t, Steps p.tables e below (T33.setTop (mkF m 79 #[.val (.int p1), .val (.int p2), .val (.int p3), .val (.int p4), .val (.int p5), .val (.int p6)] [(.ref b27)])) t → Steps p.tables e below (s₁.setTop (entryFrame m #[(.int p1), (.int p2), (.int p3), (.int p4), (.int p5), (.int p6)] 6)) t := fun t k => pre32 t (st33 _ k)
            have pre34 : ∀ t, Steps p.tables e below (T33.setTop (mkF m 83 #[.val (.int p1), .val (.int p2), .val (.int p3), .val (.int p4), .val (.int p5), .val (.int p6)] [(.int p5), (.int (3 : Int32)), (.ref b27), (.ref b27)])) t → Steps p.tables e below (s₁.setTop (entryFrame m #[(.int p1), (.int p2), (.int p3), (.int p4), (.int p5), (.int p6)] 6)) t := by
              intro t k
              refine pre33 t ?_
              refine XS.dup X33.here hx rfl (hb hby d1_79) rfl rfl ?_
              show Steps p.tables e below (T33.setTop (mkF m 80 #[.val (.int p1), .val (.int p2), .val (.int p3), .val (.int p4), .val (.int p5), .val (.int p6)] [(.ref b27), (.ref b27)])) _
              refine XS.iconst X33.here hx rfl (hb hby d1_80) ?_
              show Steps p.tables e below (T33.setTop (mkF m 81 #[.val (.int p1), .val (.int p2), .val (.int p3), .val (.int p4), .val (.int p5), .val (.int p6)] [(.int (3 : Int32)), (.ref b27), (.ref b27)])) _
              refine XS.iload X33.here hx rfl (hb hby d1_81) rfl ?_
              show Steps p.tables e below (T33.setTop (mkF m 83 #[.val (.int p1), .val (.int p2), .val (.int p3), .val (.int p4), .val (.int p5), .val (.int p6)] [(.int p5), (.int (3 : Int32)), (.ref b27), (.ref b27)])) _
              exact k
            obtain ⟨T35, h35, X35, e35, W35, V35, st35⟩ := own_stI X33 hx hZ e33 F33_0 (by decide) (by decide) (g := (mkF m 83 #[.val (.int p1), .val (.int p2), .val (.int p3), .val (.int p4), .val (.int p5), .val (.int p6)] [(.int p5), (.int (3 : Int32)), (.ref b27), (.ref b27)])) rfl rfl (hb hby d1_83)
            have F35_0 := V35
            have Z35 : n0 ≤ h35.size := Nat.le_trans Z33 (Keep.of_wr W35).1
            have K35 := Keep.wr K33 W35 (Or.inr sz27)
            have N35 := Fr.snoc X35 N33 gg27
            obtain ⟨f83, hf83⟩ : ∃ z : Nat → Int32, z = (own_upd f78 (3 : Int32).toNatClampNeg p5) := ⟨_, rfl⟩
            rw [← hf83] at F35_0
            have pre35 : ∀ t, Steps p.tables e below (T35.setTop (mkF m 84 #[.val (.int p1), .val (.int p2), .val (.int p3), .val (.int p4), .val (.int p5), .val (.int p6)] [(.ref b27)])) t → Steps p.tables e below (s₁.setTop (entryFrame m #[(.int p1), (.int p2), (.int p3), (.int p4), (.int p5), (.int p6)] 6)) t := fun t k => pre34 t (st35 _ k)
            obtain ⟨fs, hr, hrun, hended, hW, hsame⟩ := X35.leave (v := some (.ref b27)) (fun h => by rw [Bd.returns] at h; cases h)
            refine ⟨_, _, pre35 _ ?_, hrun, hended, _, _, rfl, ?_, ⟨_, rfl⟩, hW, hsame.mono (by decide) (by decide)⟩
            · show Steps p.tables e below (T35.setTop (mkF m 84 #[.val (.int p1), .val (.int p2), .val (.int p3), .val (.int p4), .val (.int p5), .val (.int p6)] [(.ref b27)])) _
              exact own_retR X35 hx Bd.returns rfl rfl (hb hby d1_84) hr
            · show Q1 Z p1 p2 p3 p4 p5 p6 h0 n0 _ T35.heap _
              rw [e35]
              subst hf83 hf78 hf74 hf70
              have q : (4 : Int32) = p1 := hc61.symm
              refine ⟨b27, rfl, N35, K35, gg27, ?_⟩
              rw [← q]
              refine own_AI.congr F35_0 fun i hi => ?_
              have hi' : i < 4 := hi
              exact own_small4 hi'
          · have pre36 : ∀ t, Steps p.tables e below (s₁.setTop (mkF m 86 #[.val (.int p1), .val (.int p2), .val (.int p3), .val (.int p4), .val (.int p5), .val (.int p6)] [(.int (5 : Int32))])) t → Steps p.tables e below (s₁.setTop (entryFrame m #[(.int p1), (.int p2), (.int p3), (.int p4), (.int p5), (.int p6)] 6)) t := by
              intro t k
              refine pre25 t ?_
              refine XS.icmpYes X0.here hx rfl (pc0 := 61) (pc' := 85) rfl (hb hby d1_61) rfl (feq hc61).2 (by decide) (by decide) ?_
              show Steps p.tables e below (s₁.setTop (mkF m 85 #[.val (.int p1), .val (.int p2), .val (.int p3), .val (.int p4), .val (.int p5), .val (.int p6)] [])) _
              refine XS.iconst X0.here hx rfl (hb hby d1_85) ?_
              show Steps p.tables e below (s₁.setTop (mkF m 86 #[.val (.int p1), .val (.int p2), .val (.int p3), .val (.int p4), .val (.int p5), .val (.int p6)] [(.int (5 : Int32))])) _
              exact k
            obtain ⟨T37, h37, k37, X37, e37, E37, A37, st37⟩ := newP X0 hx hZ (hw _ (List.mem_of_getElem? (i := 5) rfl)) e0 (g := (mkF m 86 #[.val (.int p1), .val (.int p2), .val (.int p3), .val (.int p4), .val (.int p5), .val (.int p6)] [(.int (5 : Int32))])) rfl (hb hby d1_86) rfl (by decide) (cap := 5) (by decide) (by decide) (by decide) (by decide)
            obtain ⟨b37, g37⟩ : ∃ z, z = h0.size := ⟨_, rfl⟩
            rw [← g37] at A37 st37
            have gg37 : n0 ≤ b37 := Nat.le_trans Z0 (Nat.le_of_eq g37.symm)
            have sz37 : h0.size ≤ b37 := Nat.le_trans K0.1 (Nat.le_of_eq g37.symm)
            have Z37 : n0 ≤ h37.size := Nat.le_trans Z0 E37.1
            have K37 := Keep.ext K0 E37
            have V37 : own_AI Z h37 b37 .int (5 : Int32) (fun _ => 0) := own_AI.new A37 (by decide) rfl
            have pre37 : ∀ t, Steps p.tables e below (T37.setTop (mkF m 88 #[.val (.int p1), .val (.int p2), .val (.int p3), .val (.int p4), .val (.int p5), .val (.int p6)] [(.ref b37)])) t → Steps p.tables e below (s₁.setTop (entryFrame m #[(.int p1), (.int p2), (.int p3), (.int p4), (.int p5), (.int p6)] 6)) t := fun t k => pre36 t (st37 _ k)
            have pre38 : ∀ t, Steps p.tables e below (T37.setTop (mkF m 91 #[.val (.int p1), .val (.int p2), .val (.int p3), .val (.int p4), .val (.int p5), .val (.int p6)] [(.int p2), (.int (0 : Int32)), (.ref b37), (.ref b37)])) t → Steps p.tables e below (s₁.setTop (entryFrame m #[(.int p1), (.int p2), (.int p3), (.int p4), (.int p5), (.int p6)] 6)) t := by
              intro t k
              refine pre37 t ?_
              refine XS.dup X37.here hx rfl (hb hby d1_88) rfl rfl ?_
              show Steps p.tables e below (T37.setTop (mkF m 89 #[.val (.int p1), .val (.int p2), .val (.int p3), .val (.int p4), .val (.int p5), .val (.int p6)] [(.ref b37), (.ref b37)])) _
              refine XS.iconst X37.here hx rfl (hb hby d1_89) ?_
              show Steps p.tables e below (T37.setTop (mkF m 90 #[.val (.int p1), .val (.int p2), .val (.int p3), .val (.int p4), .val (.int p5), .val (.int p6)] [(.int (0 : Int32)), (.ref b37), (.ref b37)])) _
              refine XS.iloadN X37.here hx rfl (hb hby d1_90) rfl ?_
              show Steps p.tables e below (T37.setTop (mkF m 91 #[.val (.int p1), .val (.int p2), .val (.int p3), .val (.int p4), .val (.int p5), .val (.int p6)] [(.int p2), (.int (0 : Int32)), (.ref b37), (.ref b37)])) _
              exact k
            obtain ⟨T39, h39, X39, e39, W39, V39, st39⟩ := own_stI X37 hx hZ e37 V37 (by decide) (by decide) (g := (mkF m 91 #[.val (.int p1), .val (.int p2), .val (.int p3), .val (.int p4), .val (.int p5), .val (.int p6)] [(.int p2), (.int (0 : Int32)), (.ref b37), (.ref b37)])) rfl rfl (hb hby d1_91)
            have F39_0 := V39
            have Z39 : n0 ≤ h39.size := Nat.le_trans Z37 (Keep.of_wr W39).1
            have K39 := Keep.wr K37 W39 (Or.inr sz37)
            have N39 := Fr.snoc X39 N0 gg37
            obtain ⟨f91, hf91⟩ : ∃ z : Nat → Int32, z = (own_upd (fun _ => 0) (0 : Int32).toNatClampNeg p2) := ⟨_, rfl⟩
            rw [← hf91] at F39_0
            have pre39 : ∀ t, Steps p.tables e below (T39.setTop (mkF m 92 #[.val (.int p1), .val (.int p2), .val (.int p3), .val (.int p4), .val (.int p5), .val (.int p6)] [(.ref b37)])) t → Steps p.tables e below (s₁.setTop (entryFrame m #[(.int p1), (.int p2), (.int p3), (.int p4), (.int p5), (.int p6)] 6)) t := fun t k => pre38 t (st39 _ k)
            have pre40 : ∀ t, Steps p.tables e below (T39.setTop (mkF m 95 #[.val (.int p1), .val (.int p2), .val (.int p3), .val (.int p4), .val (.int p5), .val (.int p6)] [(.int p3), (.int (1 : Int32)), (.ref b37), (.ref b37)])) t → Steps p.tables e below (s₁.setTop (entryFrame m #[(.int p1), (.int p2), (.int p3), (.int p4), (.int p5), (.int p6)] 6)) t := by
              intro t k
              refine pre39 t ?_
              refine XS.dup X39.here hx rfl (hb hby d1_92) rfl rfl ?_
              show Steps p.tables e below (T39.setTop (mkF m 93 #[.val (.int p1), .val (.int p2), .val (.int p3), .val (.int p4), .val (.int p5), .val (.int p6)] [(.ref b37), (.ref b37)])) _
              refine XS.iconst X39.here hx rfl (hb hby d1_93) ?_
              show Steps p.tables e below (T39.setTop (mkF m 94 #[.val (.int p1), .val (.int p2), .val (.int p3), .val (.int p4), .val (.int p5), .val (.int p6)] [(.int (1 : Int32)), (.ref b37), (.ref b37)])) _
              refine XS.iloadN X39.here hx rfl (hb hby d1_94) rfl ?_
              show Steps p.tables e below (T39.setTop (mkF m 95 #[.val (.int p1), .val (.int p2), .val (.int p3), .val (.int p4), .val (.int p5), .val (.int p6)] [(.int p3), (.int (1 : Int32)), (.ref b37), (.ref b37)])) _
              exact k
            obtain ⟨T41, h41, X41, e41, W41, V41, st41⟩ := own_stI X39 hx hZ e39 F39_0 (by decide) (by decide) (g := (mkF m 95 #[.val (.int p1), .val (.int p2), .val (.int p3), .val (.int p4), .val (.int p5), .val (.int p6)] [(.int p3), (.int (1 : Int32)), (.ref b37), (.ref b37)])) rfl rfl (hb hby d1_95)
            have F41_0 := V41
            have Z41 : n0 ≤ h41.size := Nat.le_trans Z39 (Keep.of_wr W41).1
            have K41 := Keep.wr K39 W41 (Or.inr sz37)
            have N41 := Fr.snoc X41 N39 gg37
            obtain ⟨f95, hf95⟩ : ∃ z : Nat → Int32, z = (own_upd f91 (1 : Int32).toNatClampNeg p3) := ⟨_, rfl⟩
            rw [← hf95] at F41_0
            have pre41 : ∀ t, Steps p.tables e below (T41.setTop (mkF m 96 #[.val (.int p1), .val (.int p2), .val (.int p3), .val (.int p4), .val (.int p5), .val (.int p6)] [(.ref b37)])) t → Steps p.tables e below (s₁.setTop (entryFrame m #[(.int p1), (.int p2), (.int p3), (.int p4), (.int p5), (.int p6)] 6)) t := fun t k => pre40 t (st41 _ k)
            have pre42 : ∀ t, Steps p.tables e below (T41.setTop (mkF m 99 #[.val (.int p1), .val (.int p2), .val (.int p3), .val (.int p4), .val (.int p5), .val (.int p6)] [(.int p4), (.int (2 : Int32)), (.ref b37), (.ref b37)])) t → Steps p.tables e below (s₁.setTop (entryFrame m #[(.int p1), (.int p2), (.int p3), (.int p4), (.int p5), (.int p6)] 6)) t := by
              intro t k
              refine pre41 t ?_
              refine XS.dup X41.here hx rfl (hb hby d1_96) rfl rfl ?_
              show Steps p.tables e below (T41.setTop (mkF m 97 #[.val (.int p1), .val (.int p2), .val (.int p3), .val (.int p4), .val (.int p5), .val (.int p6)] [(.ref b37), (.ref b37)])) _
              refine XS.iconst X41.here hx rfl (hb hby d1_97) ?_
              show Steps p.tables e below (T41.setTop (mkF m 98 #[.val (.int p1), .val (.int p2), .val (.int p3), .val (.int p4), .val (.int p5), .val (.int p6)] [(.int (2 : Int32)), (.ref b37), (.ref b37)])) _
              refine XS.iloadN X41.here hx rfl (hb hby d1_98) rfl ?_
              show Steps p.tables e below (T41.setTop (mkF m 99 #[.val (.int p1), .val (.int p2), .val (.int p3), .val (.int p4), .val (.int p5), .val (.int p6)] [(.int p4), (.int (2 : Int32)), (.ref b37), (.ref b37)])) _
              exact k
            obtain ⟨T43, h43, X43, e43, W43, V43, st43⟩ := own_stI X41 hx hZ e41 F41_0 (by decide) (by decide) (g := (mkF m 99 #[.val (.int p1), .val (.int p2), .val (.int p3), .val (.int p4), .val (.int p5), .val (.int p6)] [(.int p4), (.int (2 : Int32)), (.ref b37), (.ref b37)])) rfl rfl (hb hby d1_99)
            have F43_0 := V43
            have Z43 : n0 ≤ h43.size := Nat.le_trans Z41 (Keep.of_wr W43).1
            have K43 := Keep.wr K41 W43 (Or.inr sz37)
            have N43 := Fr.snoc X43 N41 gg37
            obtain ⟨f99, hf99⟩ : ∃ z : Nat → Int32, z = (own_upd f95 (2 : Int32).toNatClampNeg p4) := ⟨_, rfl⟩
            rw [← hf99] at F43_0
            have pre43 : ∀ t, Steps p.tables e below (T43.setTop (mkF m 100 #[.val (.int p1), .val (.int p2), .val (.int p3), .val (.int p4), .val (.int p5), .val (.int p6)] [(.ref b37)])) t → Steps p.tables e below (s₁.setTop (entryFrame m #[(.int p1), (.int p2), (.int p3), (.int p4), (.int p5), (.int p6)] 6)) t := fun t k => pre42 t (st43 _ k)
            have pre44 : ∀ t, Steps p.tables e below (T43.setTop (mkF m 104 #[.val (.int p1), .val (.int p2), .val (.int p3), .val (.int p4), .val (.int p5), .val (.int p6)] [(.int p5), (.int (3 : Int32)), (.ref b37), (.ref b37)])) t → Steps p.tables e below (s₁.setTop (entryFrame m #[(.int p1), (.int p2), (.int p3), (.int p4), (.int p5), (.int p6)] 6)) t := by
              intro t k
              refine pre43 t ?_
              refine XS.dup X43.here hx rfl (hb hby d1_100) rfl rfl ?_
              show Steps p.tables e below (T43.setTop (mkF m 101 #[.val (.int p1), .val (.int p2), .val (.int p3), .val (.int p4), .val (.int p5), .val (.int p6)] [(.ref b37), (.ref b37)])) _
              refine XS.iconst X43.here hx rfl (hb hby d1_101) ?_
              show Steps p.tables e below (T43.setTop (mkF m 102 #[.val (.int p1), .val (.int p2), .val (.int p3), .val (.int p4), .val (.int p5), .val (.int p6)] [(.int (3 : Int32)), (.ref b37), (.ref b37)])) _
              refine XS.iload X43.here hx rfl (hb hby d1_102) rfl ?_
              show Steps p.tables e below (T43.setTop (mkF m 104 #[.val (.int p1), .val (.int p2), .val (.int p3), .val (.int p4), .val (.int p5), .val (.int p6)] [(.int p5), (.int (3 : Int32)), (.ref b37), (.ref b37)])) _
              exact k
            obtain ⟨T45, h45, X45, e45, W45, V45, st45⟩ := own_stI X43 hx hZ e43 F43_0 (by decide) (by decide) (g := (mkF m 104 #[.val (.int p1), .val (.int p2), .val (.int p3), .val (.int p4), .val (.int p5), .val (.int p6)] [(.int p5), (.int (3 : Int32)), (.ref b37), (.ref b37)])) rfl rfl (hb hby d1_104)
            have F45_0 := V45
            have Z45 : n0 ≤ h45.size := Nat.le_trans Z43 (Keep.of_wr W45).1
            have K45 := Keep.wr K43 W45 (Or.inr sz37)
            have N45 := Fr.snoc X45 N43 gg37
            obtain ⟨f104, hf104⟩ : ∃ z : Nat → Int32, z = (own_upd f99 (3 : Int32).toNatClampNeg p5) := ⟨_, rfl⟩
            rw [← hf104] at F45_0
            have pre45 : ∀ t, Steps p.tables e below (T45.setTop (mkF m 105 #[.val (.int p1), .val (.int p2), .val (.int p3), .val (.int p4), .val (.int p5), .val (.int p6)] [(.ref b37)])) t → Steps p.tables e below (s₁.setTop (entryFrame m #[(.int p1), (.int p2), (.int p3), (.int p4), (.int p5), (.int p6)] 6)) t := fun t k => pre44 t (st45 _ k)
            have pre46 : ∀ t, Steps p.tables e below (T45.setTop (mkF m 109 #[.val (.int p1), .val (.int p2), .val (.int p3), .val (.int p4), .val (.int p5), .val (.int p6)] [(.int p6), (.int (4 : Int32)), (.ref b37), (.ref b37)])) t → Steps p.tables e below (s₁.setTop (entryFrame m #[(.int p1), (.int p2), (.int p3), (.int p4), (.int p5), (.int p6)] 6)) t := by
              intro t k
              refine pre45 t ?_
              refine XS.dup X45.here hx rfl (hb hby d1_105) rfl rfl ?_
              show Steps p.tables e below (T45.setTop (mkF m 106 #[.val (.int p1), .val (.int p2), .val (.int p3), .val (.int p4), .val (.int p5), .val (.int p6)] [(.ref b37), (.ref b37)])) _
              refine XS.iconst X45.here hx rfl (hb hby d1_106) ?_
              show Steps p.tables e below (T45.setTop (mkF m 107 #[.val (.int p1), .val (.int p2), .val (.int p3), .val (.int p4), .val (.int p5), .val (.int p6)] [(.int (4 : Int32)), (.ref b37), (.ref b37)])) _
              refine XS.iload X45.here hx rfl (hb hby d1_107) rfl ?_
              show Steps p.tables e below (T45.setTop (mkF m 109 #[.val (.int p1), .val (.int p2), .val (.int p3), .val (.int p4), .val (.int p5), .val (.int p6)] [(.int p6), (.int (4 : Int32)), (.ref b37), (.ref b37)])) _
              exact k
            obtain ⟨T47, h47, X47, e47, W47, V47, st47⟩ := own_stI X45 hx hZ e45 F45_0 (by decide) (by decide) (g := (mkF m 109 #[.val (.int p1), .val (.int p2), .val (.int p3), .val (.int p4), .val (.int p5), .val (.int p6)] [(.int p6), (.int (4 : Int32)), (.ref b37), (.ref b37)])) rfl rfl (hb hby d1_109)
            have F47_0 := V47
            have Z47 : n0 ≤ h47.size := Nat.le_trans Z45 (Keep.of_wr W47).1
            have K47 := Keep.wr K45 W47 (Or.inr sz37)
            have N47 := Fr.snoc X47 N45 gg37
            obtain ⟨f109, hf109⟩ : ∃ z : Nat → Int32, z = (own_upd f104 (4 : Int32).toNatClampNeg p6) := ⟨_, rfl⟩
            rw [← hf109] at F47_0
            have pre47 : ∀ t, Steps p.tables e below (T47.setTop (mkF m 110 #[.val (.int p1), .val (.int p2), .val (.int p3), .val (.int p4), .val (.int p5), .val (.int p6)] [(.ref b37)])) t → Steps p.tables e below (s₁.setTop (entryFrame m #[(.int p1), (.int p2), (.int p3), (.int p4), (.int p5), (.int p6)] 6)) t := fun t k => pre46 t (st47 _ k)
            obtain ⟨fs, hr, hrun, hended, hW, hsame⟩ := X47.leave (v := some (.ref b37)) (fun h => by rw [Bd.returns] at h; cases h)
            refine ⟨_, _, pre47 _ ?_, hrun, hended, _, _, rfl, ?_, ⟨_, rfl⟩, hW, hsame.mono (by decide) (by decide)⟩
            · show Steps p.tables e below (T47.setTop (mkF m 110 #[.val (.int p1), .val (.int p2), .val (.int p3), .val (.int p4), .val (.int p5), .val (.int p6)] [(.ref b37)])) _
              exact own_retR X47 hx Bd.returns rfl rfl (hb hby d1_110) hr
            · show Q1 Z p1 p2 p3 p4 p5 p6 h0 n0 _ T47.heap _
              rw [e47]
              subst hf109 hf104 hf99 hf95 hf91
              have q : (5 : Int32) = p1 := (own_five hp hc1 hc10 hc23 hc40 hc61).symm
              refine ⟨b37, rfl, N47, K47, gg37, ?_⟩
              rw [← q]
              refine own_AI.congr F47_0 fun i hi => ?_
              have hi' : i < 5 := hi
              exact own_small5 hi'
theorem d2_11 : decode prog_69_method_10_code 11 = .ok (.iload 5, 2) := by decide +kernel
theorem d2_13 : decode prog_69_method_10_code 13 = .ok (.iload 4, 2) := by decide +kernel
theorem d2_15 : decode prog_69_method_10_code 15 = .ok (.if_icmp .ge 21, 3) := by decide +kernel
theorem d2_18 : decode prog_69_method_10_code 18 = .ok (.aload_n 3, 1) := by decide +kernel
theorem d2_19 : decode prog_69_method_10_code 19 = .ok (.iload 5, 2) := by decide +kernel
theorem d2_21 : decode prog_69_method_10_code 21 = .ok (.iaload, 1) := by decide +kernel
theorem d2_22 : decode prog_69_method_10_code 22 = .ok (.istore 6, 2) := by decide +kernel
theorem d2_24 : decode prog_69_method_10_code 24 = .ok (.lload_n 1, 1) := by decide +kernel
theorem d2_25 : decode prog_69_method_10_code 25 = .ok (.iload 6, 2) := by decide +kernel
theorem d2_27 : decode prog_69_method_10_code 27 = .ok (.i2l, 1) := by decide +kernel
theorem d2_28 : decode prog_69_method_10_code 28 = .ok (.ladd, 1) := by decide +kernel
theorem d2_29 : decode prog_69_method_10_code 29 = .ok (.lstore_n 1, 1) := by decide +kernel
theorem d2_30 : decode prog_69_method_10_code 30 = .ok (.iinc 5 1, 3) := by decide +kernel
theorem d2_33 : decode prog_69_method_10_code 33 = .ok (.goto (-22), 3) := by decide +kernel
theorem own_os2_22 {z0 : Value} {z1 : Value} {z3 : Value} {z4 : Value} {z5 : Value} {s6 : Slot} {v : Int32} (h : One s6) : storeLocals #[.val z0, .val z1, .second, .val z3, .val z4, .val z5, s6] 6 (.int v) = some #[.val z0, .val z1, .second, .val z3, .val z4, .val z5, .val (.int v)] := by
  rcases h with rfl | ⟨w, rfl, hw⟩
  · rfl
  · cases w <;> first | rfl | (simp [Value.category] at hw)
set_option maxRecDepth 65536 in
set_option maxHeartbeats 40000000 in
theorem own_turn {p : Program} {l : Launch} {e : Env} {R : Room} {s : State} {m : MethodId} {args : Array Value} {below : List Frame} {meth : Method} {c : Code} {T0 : State} {locs : List Loc} {cells slots : Nat} {Z : State} {a0 : Array Value} {h0 : Heap} (o0 : Addr) (i4 i5 : Int32) (S : Int64) (s6 : Slot) (f : Nat → Int32)
    (X0 : Stand p l e R s m args below meth c T0 locs cells slots) (hx : p.tables.exec = Jvm.exec) (hZ : Z.Warmed39 s.vm) (hw : ∀ d ∈ tables_1, d.before a0 Z = true) (hby : c.code = prog_69_method_10_code) (hml : c.maxLocals = 7) (hown : s.vm.findClass "com/example/ballast/ballast/model/Loads" = some m.cls) (e0 : T0.heap = h0) (A0 : own_AI Z h0 o0 .int i4 f) (hs6 : One s6) (hb0 : ¬ i5 < 0) (hc15 : i5 < i4) :
      ∀ t, Steps p.tables e below (T0.setTop (mkF m 11 #[.val (.ref o0), .val (.long (S + ((f i5.toNatClampNeg).toInt64))), .second, .val (.ref o0), .val (.int i4), .val (.int (i5 + (1 : Int32))), .val (.int (f i5.toNatClampNeg))] [])) t → Steps p.tables e below (T0.setTop (mkF m 11 #[.val (.ref o0), .val (.long S), .second, .val (.ref o0), .val (.int i4), .val (.int i5), s6] [])) t := by
  have pre0 : ∀ t, Steps p.tables e below (T0.setTop (mkF m 11 #[.val (.ref o0), .val (.long S), .second, .val (.ref o0), .val (.int i4), .val (.int i5), s6] [])) t → Steps p.tables e below (T0.setTop (mkF m 11 #[.val (.ref o0), .val (.long S), .second, .val (.ref o0), .val (.int i4), .val (.int i5), s6] [])) t := fun t k => k
  obtain ⟨v22, hv22⟩ : ∃ z : Int32, z = (f i5.toNatClampNeg) := ⟨_, rfl⟩
  have pre1 : ∀ t, Steps p.tables e below (T0.setTop (mkF m 24 #[.val (.ref o0), .val (.long S), .second, .val (.ref o0), .val (.int i4), .val (.int i5), .val (.int v22)] [])) t → Steps p.tables e below (T0.setTop (mkF m 11 #[.val (.ref o0), .val (.long S), .second, .val (.ref o0), .val (.int i4), .val (.int i5), s6] [])) t := by
    intro t k
    subst hv22
    refine pre0 t ?_
    show Steps p.tables e below (T0.setTop (mkF m 11 #[.val (.ref o0), .val (.long S), .second, .val (.ref o0), .val (.int i4), .val (.int i5), s6] [])) _
    refine XS.iload X0.here hx rfl (hb hby d2_11) rfl ?_
    show Steps p.tables e below (T0.setTop (mkF m 13 #[.val (.ref o0), .val (.long S), .second, .val (.ref o0), .val (.int i4), .val (.int i5), s6] [(.int i5)])) _
    refine XS.iload X0.here hx rfl (hb hby d2_13) rfl ?_
    show Steps p.tables e below (T0.setTop (mkF m 15 #[.val (.ref o0), .val (.long S), .second, .val (.ref o0), .val (.int i4), .val (.int i5), s6] [(.int i4), (.int i5)])) _
    refine XS.icmpNo X0.here hx rfl (hb hby d2_15) rfl (tlt hc15).2.1 ?_
    show Steps p.tables e below (T0.setTop (mkF m 18 #[.val (.ref o0), .val (.long S), .second, .val (.ref o0), .val (.int i4), .val (.int i5), s6] [])) _
    refine XS.aloadN X0.here hx rfl (hb hby d2_18) rfl rfl ?_
    show Steps p.tables e below (T0.setTop (mkF m 19 #[.val (.ref o0), .val (.long S), .second, .val (.ref o0), .val (.int i4), .val (.int i5), s6] [(.ref o0)])) _
    refine XS.iload X0.here hx rfl (hb hby d2_19) rfl ?_
    show Steps p.tables e below (T0.setTop (mkF m 21 #[.val (.ref o0), .val (.long S), .second, .val (.ref o0), .val (.int i4), .val (.int i5), s6] [(.int i5), (.ref o0)])) _
    refine own_ldI X0 hx hZ e0 A0 hb0 hc15 (g := (mkF m 21 #[.val (.ref o0), .val (.long S), .second, .val (.ref o0), .val (.int i4), .val (.int i5), s6] [(.int i5), (.ref o0)])) rfl rfl (hb hby d2_21) _ ?_
    show Steps p.tables e below (T0.setTop (mkF m 22 #[.val (.ref o0), .val (.long S), .second, .val (.ref o0), .val (.int i4), .val (.int i5), s6] [(.int (f i5.toNatClampNeg))])) _
    refine XS.istore X0.here hx rfl (hb hby d2_22) rfl (l' := #[.val (.ref o0), .val (.long S), .second, .val (.ref o0), .val (.int i4), .val (.int i5), .val (.int (f i5.toNatClampNeg))]) (own_os2_22 hs6) ?_
    show Steps p.tables e below (T0.setTop (mkF m 24 #[.val (.ref o0), .val (.long S), .second, .val (.ref o0), .val (.int i4), .val (.int i5), .val (.int (f i5.toNatClampNeg))] [])) _
    exact k
  obtain ⟨v29, hv29⟩ : ∃ z : Int64, z = (S + (v22.toInt64)) := ⟨_, rfl⟩
  have pre2 : ∀ t, Steps p.tables e below (T0.setTop (mkF m 30 #[.val (.ref o0), .val (.long v29), .second, .val (.ref o0), .val (.int i4), .val (.int i5), .val (.int v22)] [])) t → Steps p.tables e below (T0.setTop (mkF m 11 #[.val (.ref o0), .val (.long S), .second, .val (.ref o0), .val (.int i4), .val (.int i5), s6] [])) t := by
    intro t k
    subst hv29
    refine pre1 t ?_
    refine XS.lloadN X0.here hx rfl (hb hby d2_24) rfl ?_
    show Steps p.tables e below (T0.setTop (mkF m 25 #[.val (.ref o0), .val (.long S), .second, .val (.ref o0), .val (.int i4), .val (.int i5), .val (.int v22)] [(.long S)])) _
    refine XS.iload X0.here hx rfl (hb hby d2_25) rfl ?_
    show Steps p.tables e below (T0.setTop (mkF m 27 #[.val (.ref o0), .val (.long S), .second, .val (.ref o0), .val (.int i4), .val (.int i5), .val (.int v22)] [(.int v22), (.long S)])) _
    refine XS.i2l X0.here hx rfl (hb hby d2_27) rfl ?_
    show Steps p.tables e below (T0.setTop (mkF m 28 #[.val (.ref o0), .val (.long S), .second, .val (.ref o0), .val (.int i4), .val (.int i5), .val (.int v22)] [(.long (v22.toInt64)), (.long S)])) _
    refine XS.ladd X0.here hx rfl (hb hby d2_28) rfl ?_
    show Steps p.tables e below (T0.setTop (mkF m 29 #[.val (.ref o0), .val (.long S), .second, .val (.ref o0), .val (.int i4), .val (.int i5), .val (.int v22)] [(.long (S + (v22.toInt64)))])) _
    refine XS.lstoreN X0.here hx rfl (hb hby d2_29) rfl (l' := #[.val (.ref o0), .val (.long (S + (v22.toInt64))), .second, .val (.ref o0), .val (.int i4), .val (.int i5), .val (.int v22)]) rfl ?_
    show Steps p.tables e below (T0.setTop (mkF m 30 #[.val (.ref o0), .val (.long (S + (v22.toInt64))), .second, .val (.ref o0), .val (.int i4), .val (.int i5), .val (.int v22)] [])) _
    exact k
  obtain ⟨v30, hv30⟩ : ∃ z : Int32, z = (i5 + (1 : Int32)) := ⟨_, rfl⟩
  have pre3 : ∀ t, Steps p.tables e below (T0.setTop (mkF m 33 #[.val (.ref o0), .val (.long v29), .second, .val (.ref o0), .val (.int i4), .val (.int v30), .val (.int v22)] [])) t → Steps p.tables e below (T0.setTop (mkF m 11 #[.val (.ref o0), .val (.long S), .second, .val (.ref o0), .val (.int i4), .val (.int i5), s6] [])) t := by
    intro t k
    subst hv30
    refine pre2 t ?_
    refine XS.iinc X0.here hx rfl (hb hby d2_30) rfl (l' := #[.val (.ref o0), .val (.long v29), .second, .val (.ref o0), .val (.int i4), .val (.int (i5 + (1 : Int32))), .val (.int v22)]) rfl ?_
    show Steps p.tables e below (T0.setTop (mkF m 33 #[.val (.ref o0), .val (.long v29), .second, .val (.ref o0), .val (.int i4), .val (.int (i5 + (1 : Int32))), .val (.int v22)] [])) _
    exact k
  have pre4 : ∀ t, Steps p.tables e below (T0.setTop (mkF m 11 #[.val (.ref o0), .val (.long v29), .second, .val (.ref o0), .val (.int i4), .val (.int v30), .val (.int v22)] [])) t → Steps p.tables e below (T0.setTop (mkF m 11 #[.val (.ref o0), .val (.long S), .second, .val (.ref o0), .val (.int i4), .val (.int i5), s6] [])) t := by
    intro t k
    refine pre3 t ?_
    refine XS.goto X0.here hx rfl (pc0 := 33) (pc' := 11) rfl (hb hby d2_33) (by decide) (by decide) ?_
    show Steps p.tables e below (T0.setTop (mkF m 11 #[.val (.ref o0), .val (.long v29), .second, .val (.ref o0), .val (.int i4), .val (.int v30), .val (.int v22)] [])) _
    exact k
  subst hv30 hv29 hv22
  exact pre4
set_option maxRecDepth 65536 in
set_option maxHeartbeats 40000000 in
theorem own_leave {p : Program} {l : Launch} {e : Env} {R : Room} {s : State} {m : MethodId} {args : Array Value} {below : List Frame} {meth : Method} {c : Code} {T0 : State} {locs : List Loc} {cells slots : Nat} {Z : State} {a0 : Array Value} {h0 : Heap} (o0 : Addr) (i4 i5 : Int32) (S : Int64) (s6 : Slot) (f : Nat → Int32)
    (X0 : Stand p l e R s m args below meth c T0 locs cells slots) (hx : p.tables.exec = Jvm.exec) (hZ : Z.Warmed39 s.vm) (hw : ∀ d ∈ tables_1, d.before a0 Z = true) (hby : c.code = prog_69_method_10_code) (hml : c.maxLocals = 7) (hown : s.vm.findClass "com/example/ballast/ballast/model/Loads" = some m.cls) (e0 : T0.heap = h0) (hc15 : ¬ i5 < i4) :
      ∀ t, Steps p.tables e below (T0.setTop (mkF m 36 #[.val (.ref o0), .val (.long S), .second, .val (.ref o0), .val (.int i4), .val (.int i5), s6] [])) t → Steps p.tables e below (T0.setTop (mkF m 11 #[.val (.ref o0), .val (.long S), .second, .val (.ref o0), .val (.int i4), .val (.int i5), s6] [])) t := by
  have pre0 : ∀ t, Steps p.tables e below (T0.setTop (mkF m 11 #[.val (.ref o0), .val (.long S), .second, .val (.ref o0), .val (.int i4), .val (.int i5), s6] [])) t → Steps p.tables e below (T0.setTop (mkF m 11 #[.val (.ref o0), .val (.long S), .second, .val (.ref o0), .val (.int i4), .val (.int i5), s6] [])) t := fun t k => k
  have pre1 : ∀ t, Steps p.tables e below (T0.setTop (mkF m 36 #[.val (.ref o0), .val (.long S), .second, .val (.ref o0), .val (.int i4), .val (.int i5), s6] [])) t → Steps p.tables e below (T0.setTop (mkF m 11 #[.val (.ref o0), .val (.long S), .second, .val (.ref o0), .val (.int i4), .val (.int i5), s6] [])) t := by
    intro t k
    refine pre0 t ?_
    show Steps p.tables e below (T0.setTop (mkF m 11 #[.val (.ref o0), .val (.long S), .second, .val (.ref o0), .val (.int i4), .val (.int i5), s6] [])) _
    refine XS.iload X0.here hx rfl (hb hby d2_11) rfl ?_
    show Steps p.tables e below (T0.setTop (mkF m 13 #[.val (.ref o0), .val (.long S), .second, .val (.ref o0), .val (.int i4), .val (.int i5), s6] [(.int i5)])) _
    refine XS.iload X0.here hx rfl (hb hby d2_13) rfl ?_
    show Steps p.tables e below (T0.setTop (mkF m 15 #[.val (.ref o0), .val (.long S), .second, .val (.ref o0), .val (.int i4), .val (.int i5), s6] [(.int i4), (.int i5)])) _
    refine XS.icmpYes X0.here hx rfl (pc0 := 15) (pc' := 36) rfl (hb hby d2_15) rfl (flt hc15).2.1 (by decide) (by decide) ?_
    show Steps p.tables e below (T0.setTop (mkF m 36 #[.val (.ref o0), .val (.long S), .second, .val (.ref o0), .val (.int i4), .val (.int i5), s6] [])) _
    exact k
  exact pre1
set_option maxRecDepth 65536 in
theorem own_loop {p : Program} {l : Launch} {e : Env} {R : Room} {s : State} {m : MethodId} {args : Array Value} {below : List Frame} {meth : Method} {c : Code} {T0 : State} {locs : List Loc} {cells slots : Nat} {Z : State} {a0 : Array Value} {h0 : Heap} (o0 : Addr) (f : Nat → Int32) (n : Nat) (hn : n < 2147483647)
    (X0 : Stand p l e R s m args below meth c T0 locs cells slots) (hx : p.tables.exec = Jvm.exec) (hZ : Z.Warmed39 s.vm) (hw : ∀ d ∈ tables_1, d.before a0 Z = true) (hby : c.code = prog_69_method_10_code) (hml : c.maxLocals = 7) (hown : s.vm.findClass "com/example/ballast/ballast/model/Loads" = some m.cls) (e0 : T0.heap = h0) (A0 : own_AI Z h0 o0 .int (Int32.ofNat n) f) :
    ∀ (k i : Nat) (S : Int64) (s6 : Slot), i + k = n → One s6 → ∃ s6' : Slot, ∀ t, Steps p.tables e below (T0.setTop (mkF m 36 #[.val (.ref o0), .val (.long (own_tot f k i S)), .second, .val (.ref o0), .val (.int (Int32.ofNat n)), .val (.int (Int32.ofNat n)), s6'] [])) t → Steps p.tables e below (T0.setTop (mkF m 11 #[.val (.ref o0), .val (.long S), .second, .val (.ref o0), .val (.int (Int32.ofNat n)), .val (.int (Int32.ofNat i)), s6] [])) t := by
  intro k
  induction k with
  | zero =>
    intro i S s6 hi h6
    have hi' : i = n := by omega
    subst hi'
    exact ⟨s6, own_leave o0 (Int32.ofNat i) (Int32.ofNat i) S s6 f X0 hx hZ hw hby hml hown e0 Int32.lt_irrefl⟩
  | succ k ih =>
    intro i S s6 hi h6
    obtain ⟨s6', st⟩ := ih (i + 1) (S + (f i).toInt64) (.val (.int (f i))) (by omega) (One.val rfl)
    refine ⟨s6', fun t q => ?_⟩
    have tn := own_turn o0 (Int32.ofNat n) (Int32.ofNat i) S s6 f X0 hx hZ hw hby hml hown e0 A0 h6 (own_nn (by omega)) (own_ltN (by omega) (by omega)) t
    rw [own_clamp (by omega), own_succ] at tn
    exact tn (st t q)
/-! body 2: total -/
theorem d2_0 : decode prog_69_method_10_code 0 = .ok (.lconst 0, 1) := by decide +kernel
theorem d2_1 : decode prog_69_method_10_code 1 = .ok (.lstore_n 1, 1) := by decide +kernel
theorem d2_2 : decode prog_69_method_10_code 2 = .ok (.aload_n 0, 1) := by decide +kernel
theorem d2_3 : decode prog_69_method_10_code 3 = .ok (.astore_n 3, 1) := by decide +kernel
theorem d2_4 : decode prog_69_method_10_code 4 = .ok (.aload_n 3, 1) := by decide +kernel
theorem d2_5 : decode prog_69_method_10_code 5 = .ok (.arraylength, 1) := by decide +kernel
theorem d2_6 : decode prog_69_method_10_code 6 = .ok (.istore 4, 2) := by decide +kernel
theorem d2_8 : decode prog_69_method_10_code 8 = .ok (.iconst 0, 1) := by decide +kernel
theorem d2_9 : decode prog_69_method_10_code 9 = .ok (.istore 5, 2) := by decide +kernel
theorem d2_36 : decode prog_69_method_10_code 36 = .ok (.lload_n 1, 1) := by decide +kernel
theorem d2_37 : decode prog_69_method_10_code 37 = .ok (.lreturn, 1) := by decide +kernel
theorem pn2 : plainName "com/example/ballast/ballast/model/Loads" = true := by first | (simp [plainName, overriddenIn]; done) | decide +kernel
theorem ef2 (m : MethodId) (a1 : Addr) : entryFrame m #[(.ref a1)] 7 = mkF m 0 #[.val (.ref a1), .unset, .unset, .unset, .unset, .unset, .unset] [] := by first | (simp [entryFrame, mkF, argsToLocals, Value.category]; done) | rfl
def fn2 (f : Nat → Int32) (n : Nat) : Int64 :=
  (own_tot f n 0 (0 : Int64))
def Q2 (Z : State) (a1 : Addr) (f : Nat → Int32) (n : Nat) (h0 : Heap) (n0 : Nat) (v : Option Value) (h : Heap) (L : List Loc) : Prop := v = some (.long (fn2 f n)) ∧ Fr n0 L ∧ h = h0
set_option maxRecDepth 65536 in
set_option maxHeartbeats 40000000 in
theorem rm2 (l : Launch) (Z : State) (a0 : Array Value) (hw : ∀ d ∈ tables_1, d.before a0 Z = true) (ws : List Jvm.Cond) (a1 : Addr) (f : Nat → Int32) (n : Nat) (h0 : Heap) (n0 : Nat) (Z0 : n0 ≤ h0.size) (hn : n < 2147483647) (A0 : own_AI Z h0 a1 .int (Int32.ofNat n) f) :
    MetFree l (⟨"com/example/ballast/ballast/model/Loads", "total", "([I)J"⟩ : MethodName) (head1 (Jvm.Cond.code (⟨"com/example/ballast/ballast/model/Loads", "total", "([I)J"⟩ : MethodName) prog_69_method_10_code 7 (some .long) :: ws) ({ frames := 0, cells := 0, slots := 0, locals := 0 } : Room)) (fun a U => a = #[(.ref a1)] ∧ Z.Warmed39 U.vm ∧ U.heap = h0) (fun _ _ _ _ _ => True) (fun _ U o U' => ∃ v L, o = .returned v ∧ Q2 Z a1 f n h0 n0 v U'.heap L ∧ FrameEnd U o U' L ({ frames := 0, cells := 0, slots := 0, locals := 0 } : Room).cells ({ frames := 0, cells := 0, slots := 0, locals := 0 } : Room).slots) := by
  refine MetFree.of_bodySF (plainFor_of_name pn2) hisR ?_
  intro p e s m args below meth c s₁ Bd hml0 hP hK
  obtain ⟨rfl, hZ, hh⟩ := hP
  have hx := Bd.exec
  have hby := Bd.bytes
  have hml : c.maxLocals = 7 := hml0
  have hown : s.vm.findClass "com/example/ballast/ballast/model/Loads" = some m.cls := findClass_of_methodNamed Bd.named
  have hnm := (name_of_methodNamed Bd.named Bd.method).1
  have X0 : Stand p l e ({ frames := 0, cells := 0, slots := 0, locals := 0 } : Room) s m #[(.ref a1)] below meth c s₁ [] 0 0 := Stand.of_body Bd
  have e0 : s₁.heap = h0 := by rw [← hh, Bd.state]; rfl
  have N0 := Fr.nil n0
  have pre0 : ∀ t, Steps p.tables e below (s₁.setTop (mkF m 0 #[.val (.ref a1), .unset, .unset, .unset, .unset, .unset, .unset] [])) t → Steps p.tables e below (s₁.setTop (entryFrame m #[(.ref a1)] 7)) t := fun t k => castTop (ef2 m a1) k
  have pre1 : ∀ t, Steps p.tables e below (s₁.setTop (mkF m 11 #[.val (.ref a1), .val (.long (0 : Int64)), .second, .val (.ref a1), .val (.int (Int32.ofNat n)), .val (.int (0 : Int32)), .unset] [])) t → Steps p.tables e below (s₁.setTop (entryFrame m #[(.ref a1)] 7)) t := by
    intro t k
    refine pre0 t ?_
    show Steps p.tables e below (s₁.setTop (mkF m 0 #[.val (.ref a1), .unset, .unset, .unset, .unset, .unset, .unset] [])) _
    refine XS.lconst X0.here hx rfl (hb hby d2_0) ?_
    show Steps p.tables e below (s₁.setTop (mkF m 1 #[.val (.ref a1), .unset, .unset, .unset, .unset, .unset, .unset] [(.long (0 : Int64))])) _
    refine XS.lstoreN X0.here hx rfl (hb hby d2_1) rfl (l' := #[.val (.ref a1), .val (.long (0 : Int64)), .second, .unset, .unset, .unset, .unset]) rfl ?_
    show Steps p.tables e below (s₁.setTop (mkF m 2 #[.val (.ref a1), .val (.long (0 : Int64)), .second, .unset, .unset, .unset, .unset] [])) _
    refine XS.aloadN X0.here hx rfl (hb hby d2_2) rfl rfl ?_
    show Steps p.tables e below (s₁.setTop (mkF m 3 #[.val (.ref a1), .val (.long (0 : Int64)), .second, .unset, .unset, .unset, .unset] [(.ref a1)])) _
    refine XS.astoreN X0.here hx rfl (hb hby d2_3) rfl rfl (l' := #[.val (.ref a1), .val (.long (0 : Int64)), .second, .val (.ref a1), .unset, .unset, .unset]) rfl ?_
    show Steps p.tables e below (s₁.setTop (mkF m 4 #[.val (.ref a1), .val (.long (0 : Int64)), .second, .val (.ref a1), .unset, .unset, .unset] [])) _
    refine XS.aloadN X0.here hx rfl (hb hby d2_4) rfl rfl ?_
    show Steps p.tables e below (s₁.setTop (mkF m 5 #[.val (.ref a1), .val (.long (0 : Int64)), .second, .val (.ref a1), .unset, .unset, .unset] [(.ref a1)])) _
    refine own_lenI X0 hx hZ e0 A0 (g := (mkF m 5 #[.val (.ref a1), .val (.long (0 : Int64)), .second, .val (.ref a1), .unset, .unset, .unset] [(.ref a1)])) rfl rfl (hb hby d2_5) _ ?_
    show Steps p.tables e below (s₁.setTop (mkF m 6 #[.val (.ref a1), .val (.long (0 : Int64)), .second, .val (.ref a1), .unset, .unset, .unset] [(.int (Int32.ofNat n))])) _
    refine XS.istore X0.here hx rfl (hb hby d2_6) rfl (l' := #[.val (.ref a1), .val (.long (0 : Int64)), .second, .val (.ref a1), .val (.int (Int32.ofNat n)), .unset, .unset]) rfl ?_
    show Steps p.tables e below (s₁.setTop (mkF m 8 #[.val (.ref a1), .val (.long (0 : Int64)), .second, .val (.ref a1), .val (.int (Int32.ofNat n)), .unset, .unset] [])) _
    refine XS.iconst X0.here hx rfl (hb hby d2_8) ?_
    show Steps p.tables e below (s₁.setTop (mkF m 9 #[.val (.ref a1), .val (.long (0 : Int64)), .second, .val (.ref a1), .val (.int (Int32.ofNat n)), .unset, .unset] [(.int (0 : Int32))])) _
    refine XS.istore X0.here hx rfl (hb hby d2_9) rfl (l' := #[.val (.ref a1), .val (.long (0 : Int64)), .second, .val (.ref a1), .val (.int (Int32.ofNat n)), .val (.int (0 : Int32)), .unset]) rfl ?_
    show Steps p.tables e below (s₁.setTop (mkF m 11 #[.val (.ref a1), .val (.long (0 : Int64)), .second, .val (.ref a1), .val (.int (Int32.ofNat n)), .val (.int (0 : Int32)), .unset] [])) _
    exact k
  obtain ⟨s6', lp⟩ := own_loop a1 f n hn X0 hx hZ hw hby hml hown e0 A0 n 0 (0 : Int64) .unset (by omega) One.u
  have pre2 : ∀ t, Steps p.tables e below (s₁.setTop (mkF m 36 #[.val (.ref a1), .val (.long (own_tot f n 0 (0 : Int64))), .second, .val (.ref a1), .val (.int (Int32.ofNat n)), .val (.int (Int32.ofNat n)), s6'] [])) t → Steps p.tables e below (s₁.setTop (entryFrame m #[(.ref a1)] 7)) t := fun t k => pre1 t (lp t k)
  have pre3 : ∀ t, Steps p.tables e below (s₁.setTop (mkF m 37 #[.val (.ref a1), .val (.long (own_tot f n 0 (0 : Int64))), .second, .val (.ref a1), .val (.int (Int32.ofNat n)), .val (.int (Int32.ofNat n)), s6'] [(.long (own_tot f n 0 (0 : Int64)))])) t → Steps p.tables e below (s₁.setTop (entryFrame m #[(.ref a1)] 7)) t := by
    intro t k
    refine pre2 t ?_
    refine XS.lloadN X0.here hx rfl (hb hby d2_36) rfl ?_
    show Steps p.tables e below (s₁.setTop (mkF m 37 #[.val (.ref a1), .val (.long (own_tot f n 0 (0 : Int64))), .second, .val (.ref a1), .val (.int (Int32.ofNat n)), .val (.int (Int32.ofNat n)), s6'] [(.long (own_tot f n 0 (0 : Int64)))])) _
    exact k
  obtain ⟨fs, hr, hrun, hended, hW, hsame⟩ := X0.leave (v := some (.long (own_tot f n 0 (0 : Int64)))) (fun h => by rw [Bd.returns] at h; cases h)
  refine ⟨_, _, pre3 _ ?_, hrun, hended, _, _, rfl, ?_, ⟨_, rfl⟩, hW, hsame.mono (by decide) (by decide)⟩
  · show Steps p.tables e below (s₁.setTop (mkF m 37 #[.val (.ref a1), .val (.long (own_tot f n 0 (0 : Int64))), .second, .val (.ref a1), .val (.int (Int32.ofNat n)), .val (.int (Int32.ofNat n)), s6'] [(.long (own_tot f n 0 (0 : Int64)))])) _
    exact own_retJ X0 hx Bd.returns (hb hby d2_37) hr
  · show Q2 Z a1 f n h0 n0 _ s₁.heap _
    rw [e0]
    refine ⟨?_, N0, rfl⟩
    simp only [fn2]
/-! body 0: law -/
theorem pd0_0 : parseMethodDescriptor "(IIIIII)[I" = some ⟨[.int, .int, .int, .int, .int, .int], some (.array .int)⟩ := by decide +kernel
theorem pd0_1 : parseMethodDescriptor "([I)J" = some ⟨[(.array .int)], some .long⟩ := by decide +kernel
theorem pn0 : plainName "com/example/ballast/ballast/model/LoadsTotalPinLaw" = true := by first | (simp [plainName, overriddenIn]; done) | decide +kernel
theorem ef0 (m : MethodId) (p1 : Int32) (p2 : Int32) (p3 : Int32) (p4 : Int32) (p5 : Int32) (p6 : Int32) : entryFrame m #[(.int p1), (.int p2), (.int p3), (.int p4), (.int p5), (.int p6)] maxLocals = mkF m 0 #[.val (.int p1), .val (.int p2), .val (.int p3), .val (.int p4), .val (.int p5), .val (.int p6), .unset, .unset, .unset, .unset, .unset, .unset] [] := by first | (simp [entryFrame, mkF, argsToLocals, Value.category, maxLocals]; done) | rfl
def fn0 (p1 : Int32) (p2 : Int32) (p3 : Int32) (p4 : Int32) (p5 : Int32) (p6 : Int32) : Int32 :=
  let v7 : Int32 := ((p1 &&& (2147483647 : Int32)) % (6 : Int32))
  let u398 : Int64 := (if v7 < (1 : Int32) then (0 : Int64) else ((0 : Int64) + (p2.toInt64)))
  let u528 : Int64 := (if v7 < (2 : Int32) then u398 else (u398 + (p3.toInt64)))
  let u658 : Int64 := (if v7 < (3 : Int32) then u528 else (u528 + (p4.toInt64)))
  let u798 : Int64 := (if v7 < (4 : Int32) then u658 else (u658 + (p5.toInt64)))
  let u938 : Int64 := (if v7 < (5 : Int32) then u798 else (u798 + (p6.toInt64)))
  let v98 : Int64 := (fn2 (own_b5 p2 p3 p4 p5 p6) v7.toNatClampNeg)
  let u113s0 : Int32 := (if v98 = u938 then (1 : Int32) else (0 : Int32))
  (nar .boolean u113s0)
/-! the plain law -/
theorem own_six {v p : Int32} (h : v = ((p &&& (2147483647 : Int32)) % (6 : Int32))) : 0 ≤ v.toInt ∧ v.toInt ≤ 5 := by
  have e6 : (6 : Int32).toInt = 6 := by decide
  have hm := Jvm.Kit.i32_mask p 2147483647 (k := 31) (by decide) (by decide)
  rw [h, Jvm.Kit.i32_rem_nonneg (by omega), e6]; omega
theorem own_mb {v p : Int32} (h : v = ((p &&& (2147483647 : Int32)) % (6 : Int32))) : v.toNatClampNeg < 2147483647 := by
  have := own_six h
  show v.toInt.toNat < _
  omega
theorem own_back {v : Int32} (h : 0 ≤ v.toInt) : Int32.ofNat v.toNatClampNeg = v := by
  have hl := v.toInt_lt
  have q : v.toNatClampNeg < 2147483648 := by show v.toInt.toNat < _; omega
  apply Int32.toInt_inj.mp
  rw [own_ofNat q]
  show (v.toInt.toNat : Int) = _
  omega
theorem own_cast {Z : State} {h : Heap} {b : Addr} {f : Nat → Int32} {v p : Int32} (hv : v = ((p &&& (2147483647 : Int32)) % (6 : Int32))) (A : own_AI Z h b .int v f) : own_AI Z h b .int (Int32.ofNat v.toNatClampNeg) f := by
  rw [own_back (own_six hv).1]; exact A
theorem own_range {v : Int32} (h : 0 ≤ v.toInt ∧ v.toInt ≤ 5) : v = 0 ∨ v = 1 ∨ v = 2 ∨ v = 3 ∨ v = 4 ∨ v = 5 := by
  have e : ∀ k : Int32, v = k ↔ v.toInt = k.toInt := fun k => Int32.toInt_inj.symm
  simp only [e]
  have z0 : (0 : Int32).toInt = 0 := by decide
  have z1 : (1 : Int32).toInt = 1 := by decide
  have z2 : (2 : Int32).toInt = 2 := by decide
  have z3 : (3 : Int32).toInt = 3 := by decide
  have z4 : (4 : Int32).toInt = 4 := by decide
  have z5 : (5 : Int32).toInt = 5 := by decide
  omega
def own_exp (v a b c d e : Int32) : Int64 :=
  let u1 : Int64 := (if v < (1 : Int32) then (0 : Int64) else ((0 : Int64) + (a.toInt64)))
  let u2 : Int64 := (if v < (2 : Int32) then u1 else (u1 + (b.toInt64)))
  let u3 : Int64 := (if v < (3 : Int32) then u2 else (u2 + (c.toInt64)))
  let u4 : Int64 := (if v < (4 : Int32) then u3 else (u3 + (d.toInt64)))
  (if v < (5 : Int32) then u4 else (u4 + (e.toInt64)))
theorem own_sum (v a b c d e : Int32) (h : 0 ≤ v.toInt ∧ v.toInt ≤ 5) : fn2 (own_b5 a b c d e) v.toNatClampNeg = own_exp v a b c d e := by
  rcases own_range h with rfl | rfl | rfl | rfl | rfl | rfl <;> rfl
theorem own_law (p1 p2 p3 p4 p5 p6 : Int32) : fn0 p1 p2 p3 p4 p5 p6 = 1 := by
  have h := own_sum ((p1 &&& (2147483647 : Int32)) % (6 : Int32)) p2 p3 p4 p5 p6 (own_six rfl)
  simp only [own_exp] at h
  simp only [fn0]
  rw [if_pos h]
  rfl
def Q0 (Z : State) (p1 : Int32) (p2 : Int32) (p3 : Int32) (p4 : Int32) (p5 : Int32) (p6 : Int32) (h0 : Heap) (n0 : Nat) (v : Option Value) (h : Heap) (L : List Loc) : Prop := v = some (.int (fn0 p1 p2 p3 p4 p5 p6)) ∧ Fr n0 L
set_option maxRecDepth 65536 in
set_option maxHeartbeats 40000000 in
theorem rm0 (l : Launch) (Z : State) (a0 : Array Value) (hw : ∀ d ∈ tables_1, d.before a0 Z = true) (ws : List Jvm.Cond) (p1 : Int32) (p2 : Int32) (p3 : Int32) (p4 : Int32) (p5 : Int32) (p6 : Int32) (h0 : Heap) (n0 : Nat) (Z0 : n0 ≤ h0.size) :
    MetFree l x (head1 (Jvm.Cond.code x code maxLocals ret :: ws) room_1) (fun a U => a = #[(.int p1), (.int p2), (.int p3), (.int p4), (.int p5), (.int p6)] ∧ Z.Warmed39 U.vm ∧ U.heap = h0) (fun _ _ _ _ _ => True) (fun _ U o U' => ∃ v L, o = .returned v ∧ Q0 Z p1 p2 p3 p4 p5 p6 h0 n0 v U'.heap L ∧ FrameEnd U o U' L room_1.cells room_1.slots) := by
  refine MetFree.of_bodySF (plainFor_of_name pn0) hisR ?_
  intro p e s m args below meth c s₁ Bd hml0 hP hK
  obtain ⟨rfl, hZ, hh⟩ := hP
  have hx := Bd.exec
  have hby := Bd.bytes
  have hml : c.maxLocals = 12 := hml0
  have hown : s.vm.findClass "com/example/ballast/ballast/model/LoadsTotalPinLaw" = some m.cls := findClass_of_methodNamed Bd.named
  have hnm := (name_of_methodNamed Bd.named Bd.method).1
  have X0 : Stand p l e room_1 s m #[(.int p1), (.int p2), (.int p3), (.int p4), (.int p5), (.int p6)] below meth c s₁ [] 0 0 := Stand.of_body Bd
  have e0 : s₁.heap = h0 := by rw [← hh, Bd.state]; rfl
  have N0 := Fr.nil n0
  have pre0 : ∀ t, Steps p.tables e below (s₁.setTop (mkF m 0 #[.val (.int p1), .val (.int p2), .val (.int p3), .val (.int p4), .val (.int p5), .val (.int p6), .unset, .unset, .unset, .unset, .unset, .unset] [])) t → Steps p.tables e below (s₁.setTop (entryFrame m #[(.int p1), (.int p2), (.int p3), (.int p4), (.int p5), (.int p6)] maxLocals)) t := fun t k => castTop (ef0 m p1 p2 p3 p4 p5 p6) k
  obtain ⟨v7, hv7⟩ : ∃ z : Int32, z = ((p1 &&& (2147483647 : Int32)) % (6 : Int32)) := ⟨_, rfl⟩
  have pre1 : ∀ t, Steps p.tables e below (s₁.setTop (mkF m 9 #[.val (.int p1), .val (.int p2), .val (.int p3), .val (.int p4), .val (.int p5), .val (.int p6), .val (.int v7), .unset, .unset, .unset, .unset, .unset] [])) t → Steps p.tables e below (s₁.setTop (entryFrame m #[(.int p1), (.int p2), (.int p3), (.int p4), (.int p5), (.int p6)] maxLocals)) t := by
    intro t k
    subst hv7
    refine pre0 t ?_
    show Steps p.tables e below (s₁.setTop (mkF m 0 #[.val (.int p1), .val (.int p2), .val (.int p3), .val (.int p4), .val (.int p5), .val (.int p6), .unset, .unset, .unset, .unset, .unset, .unset] [])) _
    refine XS.iloadN X0.here hx rfl (hb hby at_0) rfl ?_
    show Steps p.tables e below (s₁.setTop (mkF m 1 #[.val (.int p1), .val (.int p2), .val (.int p3), .val (.int p4), .val (.int p5), .val (.int p6), .unset, .unset, .unset, .unset, .unset, .unset] [(.int p1)])) _
    refine X0.ldcInt hx hown (mvT hZ (hw _ (List.mem_of_getElem? (i := 0) rfl))) (g := (mkF m 1 #[.val (.int p1), .val (.int p2), .val (.int p3), .val (.int p4), .val (.int p5), .val (.int p6), .unset, .unset, .unset, .unset, .unset, .unset] [(.int p1)])) rfl (hb hby at_1) _ ?_
    show Steps p.tables e below (s₁.setTop (mkF m 3 #[.val (.int p1), .val (.int p2), .val (.int p3), .val (.int p4), .val (.int p5), .val (.int p6), .unset, .unset, .unset, .unset, .unset, .unset] [(.int (2147483647 : Int32)), (.int p1)])) _
    refine XS.iand X0.here hx rfl (hb hby at_3) rfl ?_
    show Steps p.tables e below (s₁.setTop (mkF m 4 #[.val (.int p1), .val (.int p2), .val (.int p3), .val (.int p4), .val (.int p5), .val (.int p6), .unset, .unset, .unset, .unset, .unset, .unset] [(.int (p1 &&& (2147483647 : Int32)))])) _
    refine XS.bipush X0.here hx rfl (hb hby at_4) ?_
    show Steps p.tables e below (s₁.setTop (mkF m 6 #[.val (.int p1), .val (.int p2), .val (.int p3), .val (.int p4), .val (.int p5), .val (.int p6), .unset, .unset, .unset, .unset, .unset, .unset] [(.int (6 : Int32)), (.int (p1 &&& (2147483647 : Int32)))])) _
    refine iremM X0 hx rfl (hb hby at_6) rfl (by decide) ?_
    show Steps p.tables e below (s₁.setTop (mkF m 7 #[.val (.int p1), .val (.int p2), .val (.int p3), .val (.int p4), .val (.int p5), .val (.int p6), .unset, .unset, .unset, .unset, .unset, .unset] [(.int ((p1 &&& (2147483647 : Int32)) % (6 : Int32)))])) _
    refine XS.istore X0.here hx rfl (hb hby at_7) rfl (l' := #[.val (.int p1), .val (.int p2), .val (.int p3), .val (.int p4), .val (.int p5), .val (.int p6), .val (.int ((p1 &&& (2147483647 : Int32)) % (6 : Int32))), .unset, .unset, .unset, .unset, .unset]) rfl ?_
    show Steps p.tables e below (s₁.setTop (mkF m 9 #[.val (.int p1), .val (.int p2), .val (.int p3), .val (.int p4), .val (.int p5), .val (.int p6), .val (.int ((p1 &&& (2147483647 : Int32)) % (6 : Int32))), .unset, .unset, .unset, .unset, .unset] [])) _
    exact k
  have pre2 : ∀ t, Steps p.tables e below (s₁.setTop (mkF m 18 #[.val (.int p1), .val (.int p2), .val (.int p3), .val (.int p4), .val (.int p5), .val (.int p6), .val (.int v7), .unset, .unset, .unset, .unset, .unset] [(.int p6), (.int p5), (.int p4), (.int p3), (.int p2), (.int v7)])) t → Steps p.tables e below (s₁.setTop (entryFrame m #[(.int p1), (.int p2), (.int p3), (.int p4), (.int p5), (.int p6)] maxLocals)) t := by
    intro t k
    refine pre1 t ?_
    refine XS.iload X0.here hx rfl (hb hby at_9) rfl ?_
    show Steps p.tables e below (s₁.setTop (mkF m 11 #[.val (.int p1), .val (.int p2), .val (.int p3), .val (.int p4), .val (.int p5), .val (.int p6), .val (.int v7), .unset, .unset, .unset, .unset, .unset] [(.int v7)])) _
    refine XS.iloadN X0.here hx rfl (hb hby at_11) rfl ?_
    show Steps p.tables e below (s₁.setTop (mkF m 12 #[.val (.int p1), .val (.int p2), .val (.int p3), .val (.int p4), .val (.int p5), .val (.int p6), .val (.int v7), .unset, .unset, .unset, .unset, .unset] [(.int p2), (.int v7)])) _
    refine XS.iloadN X0.here hx rfl (hb hby at_12) rfl ?_
    show Steps p.tables e below (s₁.setTop (mkF m 13 #[.val (.int p1), .val (.int p2), .val (.int p3), .val (.int p4), .val (.int p5), .val (.int p6), .val (.int v7), .unset, .unset, .unset, .unset, .unset] [(.int p3), (.int p2), (.int v7)])) _
    refine XS.iloadN X0.here hx rfl (hb hby at_13) rfl ?_
    show Steps p.tables e below (s₁.setTop (mkF m 14 #[.val (.int p1), .val (.int p2), .val (.int p3), .val (.int p4), .val (.int p5), .val (.int p6), .val (.int v7), .unset, .unset, .unset, .unset, .unset] [(.int p4), (.int p3), (.int p2), (.int v7)])) _
    refine XS.iload X0.here hx rfl (hb hby at_14) rfl ?_
    show Steps p.tables e below (s₁.setTop (mkF m 16 #[.val (.int p1), .val (.int p2), .val (.int p3), .val (.int p4), .val (.int p5), .val (.int p6), .val (.int v7), .unset, .unset, .unset, .unset, .unset] [(.int p5), (.int p4), (.int p3), (.int p2), (.int v7)])) _
    refine XS.iload X0.here hx rfl (hb hby at_16) rfl ?_
    show Steps p.tables e below (s₁.setTop (mkF m 18 #[.val (.int p1), .val (.int p2), .val (.int p3), .val (.int p4), .val (.int p5), .val (.int p6), .val (.int v7), .unset, .unset, .unset, .unset, .unset] [(.int p6), (.int p5), (.int p4), (.int p3), (.int p2), (.int v7)])) _
    exact k
  obtain ⟨_, _, ⟨T3, L3, k3, n3⟩, -, X3, ⟨Lc3, hQ3, l3, y3, z3⟩, st3⟩ := Jvm.LawKit.callS X0 hx (y := (⟨"com/example/ballast/ballast/model/LoadsTotalPinLaw", "build", "(IIIIII)[I"⟩ : MethodName)) hown (mvT hZ (hw _ (List.mem_of_getElem? (i := 1) rfl))) (mvT hZ (hw _ (List.mem_of_getElem? (i := 2) rfl))) (mvT hZ (hw _ (List.mem_of_getElem? (i := 3) rfl))) (mvT hZ (hw _ (List.mem_of_getElem? (i := 4) rfl))) (by decide) (backOf (W := 0) (rm1 l Z a0 hw [] v7 p2 p3 p4 p5 p6 h0 n0 Z0 (own_six hv7)) hZ (hw _ (List.mem_of_getElem? (i := 4) rfl)) (hw _ (List.mem_of_getElem? (i := 3) rfl)) (by decide) (by decide)) (g := (mkF m 18 #[.val (.int p1), .val (.int p2), .val (.int p3), .val (.int p4), .val (.int p5), .val (.int p6), .val (.int v7), .unset, .unset, .unset, .unset, .unset] [(.int p6), (.int p5), (.int p4), (.int p3), (.int p2), (.int v7)])) rfl (by rw [hml]; rfl) (argsL := [(.int v7), (.int p2), (.int p3), (.int p4), (.int p5), (.int p6)]) (rest := []) (lenOf pd0_0 rfl) rfl (by show 2 * 0 + _ ≤ _; exact Nat.le_of_eq rfl) (hb hby at_18) (fun _ _ => ⟨rfl, e0, (by decide : 0 + 1 ≤ _), (by decide : 0 + 5 ≤ _)⟩)
  dsimp only [Pt.U, Pt.locs, Pt.cells, Pt.slots] at X3 l3 y3 z3 st3 hQ3
  subst l3 y3 z3
  obtain ⟨b3, rfl, Nq3, Kc3, gg3, V3⟩ := hQ3
  have Z3 : n0 ≤ T3.heap.size := Nat.le_trans Z0 Kc3.1
  have N3 := Fr.app N0 Nq3
  have pre3 : ∀ t, Steps p.tables e below (T3.setTop (mkF m 21 #[.val (.int p1), .val (.int p2), .val (.int p3), .val (.int p4), .val (.int p5), .val (.int p6), .val (.int v7), .unset, .unset, .unset, .unset, .unset] [(.ref b3)])) t → Steps p.tables e below (s₁.setTop (entryFrame m #[(.int p1), (.int p2), (.int p3), (.int p4), (.int p5), (.int p6)] maxLocals)) t := fun t k => pre2 t (st3 _ k)
  obtain ⟨u398, hu398⟩ : ∃ z : Int64, z = (if v7 < (1 : Int32) then (0 : Int64) else ((0 : Int64) + (p2.toInt64))) := ⟨_, rfl⟩
  have pre4 : ∀ t, Steps p.tables e below (T3.setTop (mkF m 39 #[.val (.int p1), .val (.int p2), .val (.int p3), .val (.int p4), .val (.int p5), .val (.int p6), .val (.int v7), .val (.ref b3), .val (.long u398), .second, .unset, .unset] [])) t → Steps p.tables e below (s₁.setTop (entryFrame m #[(.int p1), (.int p2), (.int p3), (.int p4), (.int p5), (.int p6)] maxLocals)) t := by
    intro t k
    subst hu398
    refine pre3 t ?_
    refine XS.astore X3.here hx rfl (hb hby at_21) rfl rfl (l' := #[.val (.int p1), .val (.int p2), .val (.int p3), .val (.int p4), .val (.int p5), .val (.int p6), .val (.int v7), .val (.ref b3), .unset, .unset, .unset, .unset]) rfl ?_
    show Steps p.tables e below (T3.setTop (mkF m 23 #[.val (.int p1), .val (.int p2), .val (.int p3), .val (.int p4), .val (.int p5), .val (.int p6), .val (.int v7), .val (.ref b3), .unset, .unset, .unset, .unset] [])) _
    refine XS.lconst X3.here hx rfl (hb hby at_23) ?_
    show Steps p.tables e below (T3.setTop (mkF m 24 #[.val (.int p1), .val (.int p2), .val (.int p3), .val (.int p4), .val (.int p5), .val (.int p6), .val (.int v7), .val (.ref b3), .unset, .unset, .unset, .unset] [(.long (0 : Int64))])) _
    refine XS.lstore X3.here hx rfl (hb hby at_24) rfl (l' := #[.val (.int p1), .val (.int p2), .val (.int p3), .val (.int p4), .val (.int p5), .val (.int p6), .val (.int v7), .val (.ref b3), .val (.long (0 : Int64)), .second, .unset, .unset]) rfl ?_
    show Steps p.tables e below (T3.setTop (mkF m 26 #[.val (.int p1), .val (.int p2), .val (.int p3), .val (.int p4), .val (.int p5), .val (.int p6), .val (.int v7), .val (.ref b3), .val (.long (0 : Int64)), .second, .unset, .unset] [])) _
    refine XS.iload X3.here hx rfl (hb hby at_26) rfl ?_
    show Steps p.tables e below (T3.setTop (mkF m 28 #[.val (.int p1), .val (.int p2), .val (.int p3), .val (.int p4), .val (.int p5), .val (.int p6), .val (.int v7), .val (.ref b3), .val (.long (0 : Int64)), .second, .unset, .unset] [(.int v7)])) _
    refine XS.iconst X3.here hx rfl (hb hby at_28) ?_
    show Steps p.tables e below (T3.setTop (mkF m 29 #[.val (.int p1), .val (.int p2), .val (.int p3), .val (.int p4), .val (.int p5), .val (.int p6), .val (.int v7), .val (.ref b3), .val (.long (0 : Int64)), .second, .unset, .unset] [(.int (1 : Int32)), (.int v7)])) _
    by_cases hb29 : v7 < (1 : Int32)
    · simp only [if_pos hb29] at k
      refine XS.icmpYes X3.here hx rfl (pc0 := 29) (pc' := 39) rfl (hb hby at_29) rfl (tlt hb29).1 (by decide) (by decide) ?_
      show Steps p.tables e below (T3.setTop (mkF m 39 #[.val (.int p1), .val (.int p2), .val (.int p3), .val (.int p4), .val (.int p5), .val (.int p6), .val (.int v7), .val (.ref b3), .val (.long (0 : Int64)), .second, .unset, .unset] [])) _
      exact k
    · simp only [if_neg hb29] at k
      refine XS.icmpNo X3.here hx rfl (hb hby at_29) rfl (flt hb29).1 ?_
      show Steps p.tables e below (T3.setTop (mkF m 32 #[.val (.int p1), .val (.int p2), .val (.int p3), .val (.int p4), .val (.int p5), .val (.int p6), .val (.int v7), .val (.ref b3), .val (.long (0 : Int64)), .second, .unset, .unset] [])) _
      refine XS.lload X3.here hx rfl (hb hby at_32) rfl ?_
      show Steps p.tables e below (T3.setTop (mkF m 34 #[.val (.int p1), .val (.int p2), .val (.int p3), .val (.int p4), .val (.int p5), .val (.int p6), .val (.int v7), .val (.ref b3), .val (.long (0 : Int64)), .second, .unset, .unset] [(.long (0 : Int64))])) _
      refine XS.iloadN X3.here hx rfl (hb hby at_34) rfl ?_
      show Steps p.tables e below (T3.setTop (mkF m 35 #[.val (.int p1), .val (.int p2), .val (.int p3), .val (.int p4), .val (.int p5), .val (.int p6), .val (.int v7), .val (.ref b3), .val (.long (0 : Int64)), .second, .unset, .unset] [(.int p2), (.long (0 : Int64))])) _
      refine XS.i2l X3.here hx rfl (hb hby at_35) rfl ?_
      show Steps p.tables e below (T3.setTop (mkF m 36 #[.val (.int p1), .val (.int p2), .val (.int p3), .val (.int p4), .val (.int p5), .val (.int p6), .val (.int v7), .val (.ref b3), .val (.long (0 : Int64)), .second, .unset, .unset] [(.long (p2.toInt64)), (.long (0 : Int64))])) _
      refine XS.ladd X3.here hx rfl (hb hby at_36) rfl ?_
      show Steps p.tables e below (T3.setTop (mkF m 37 #[.val (.int p1), .val (.int p2), .val (.int p3), .val (.int p4), .val (.int p5), .val (.int p6), .val (.int v7), .val (.ref b3), .val (.long (0 : Int64)), .second, .unset, .unset] [(.long ((0 : Int64) + (p2.toInt64)))])) _
      refine XS.lstore X3.here hx rfl (hb hby at_37) rfl (l' := #[.val (.int p1), .val (.int p2), .val (.int p3), .val (.int p4), .val (.int p5), .val (.int p6), .val (.int v7), .val (.ref b3), .val (.long ((0 : Int64) + (p2.toInt64))), .second, .unset, .unset]) rfl ?_
      show Steps p.tables e below (T3.setTop (mkF m 39 #[.val (.int p1), .val (.int p2), .val (.int p3), .val (.int p4), .val (.int p5), .val (.int p6), .val (.int v7), .val (.ref b3), .val (.long ((0 : Int64) + (p2.toInt64))), .second, .unset, .unset] [])) _
      exact k
  obtain ⟨u528, hu528⟩ : ∃ z : Int64, z = (if v7 < (2 : Int32) then u398 else (u398 + (p3.toInt64))) := ⟨_, rfl⟩
  have pre5 : ∀ t, Steps p.tables e below (T3.setTop (mkF m 52 #[.val (.int p1), .val (.int p2), .val (.int p3), .val (.int p4), .val (.int p5), .val (.int p6), .val (.int v7), .val (.ref b3), .val (.long u528), .second, .unset, .unset] [])) t → Steps p.tables e below (s₁.setTop (entryFrame m #[(.int p1), (.int p2), (.int p3), (.int p4), (.int p5), (.int p6)] maxLocals)) t := by
    intro t k
    subst hu528
    refine pre4 t ?_
    refine XS.iload X3.here hx rfl (hb hby at_39) rfl ?_
    show Steps p.tables e below (T3.setTop (mkF m 41 #[.val (.int p1), .val (.int p2), .val (.int p3), .val (.int p4), .val (.int p5), .val (.int p6), .val (.int v7), .val (.ref b3), .val (.long u398), .second, .unset, .unset] [(.int v7)])) _
    refine XS.iconst X3.here hx rfl (hb hby at_41) ?_
    show Steps p.tables e below (T3.setTop (mkF m 42 #[.val (.int p1), .val (.int p2), .val (.int p3), .val (.int p4), .val (.int p5), .val (.int p6), .val (.int v7), .val (.ref b3), .val (.long u398), .second, .unset, .unset] [(.int (2 : Int32)), (.int v7)])) _
    by_cases hb42 : v7 < (2 : Int32)
    · simp only [if_pos hb42] at k
      refine XS.icmpYes X3.here hx rfl (pc0 := 42) (pc' := 52) rfl (hb hby at_42) rfl (tlt hb42).1 (by decide) (by decide) ?_
      show Steps p.tables e below (T3.setTop (mkF m 52 #[.val (.int p1), .val (.int p2), .val (.int p3), .val (.int p4), .val (.int p5), .val (.int p6), .val (.int v7), .val (.ref b3), .val (.long u398), .second, .unset, .unset] [])) _
      exact k
    · simp only [if_neg hb42] at k
      refine XS.icmpNo X3.here hx rfl (hb hby at_42) rfl (flt hb42).1 ?_
      show Steps p.tables e below (T3.setTop (mkF m 45 #[.val (.int p1), .val (.int p2), .val (.int p3), .val (.int p4), .val (.int p5), .val (.int p6), .val (.int v7), .val (.ref b3), .val (.long u398), .second, .unset, .unset] [])) _
      refine XS.lload X3.here hx rfl (hb hby at_45) rfl ?_
      show Steps p.tables e below (T3.setTop (mkF m 47 #[.val (.int p1), .val (.int p2), .val (.int p3), .val (.int p4), .val (.int p5), .val (.int p6), .val (.int v7), .val (.ref b3), .val (.long u398), .second, .unset, .unset] [(.long u398)])) _
      refine XS.iloadN X3.here hx rfl (hb hby at_47) rfl ?_
      show Steps p.tables e below (T3.setTop (mkF m 48 #[.val (.int p1), .val (.int p2), .val (.int p3), .val (.int p4), .val (.int p5), .val (.int p6), .val (.int v7), .val (.ref b3), .val (.long u398), .second, .unset, .unset] [(.int p3), (.long u398)])) _
      refine XS.i2l X3.here hx rfl (hb hby at_48) rfl ?_
      show Steps p.tables e below (T3.setTop (mkF m 49 #[.val (.int p1), .val (.int p2), .val (.int p3), .val (.int p4), .val (.int p5), .val (.int p6), .val (.int v7), .val (.ref b3), .val (.long u398), .second, .unset, .unset] [(.long (p3.toInt64)), (.long u398)])) _
      refine XS.ladd X3.here hx rfl (hb hby at_49) rfl ?_
      show Steps p.tables e below (T3.setTop (mkF m 50 #[.val (.int p1), .val (.int p2), .val (.int p3), .val (.int p4), .val (.int p5), .val (.int p6), .val (.int v7), .val (.ref b3), .val (.long u398), .second, .unset, .unset] [(.long (u398 + (p3.toInt64)))])) _
      refine XS.lstore X3.here hx rfl (hb hby at_50) rfl (l' := #[.val (.int p1), .val (.int p2), .val (.int p3), .val (.int p4), .val (.int p5), .val (.int p6), .val (.int v7), .val (.ref b3), .val (.long (u398 + (p3.toInt64))), .second, .unset, .unset]) rfl ?_
      show Steps p.tables e below (T3.setTop (mkF m 52 #[.val (.int p1), .val (.int p2), .val (.int p3), .val (.int p4), .val (.int p5), .val (.int p6), .val (.int v7), .val (.ref b3), .val (.long (u398 + (p3.toInt64))), .second, .unset, .unset] [])) _
      exact k
  obtain ⟨u658, hu658⟩ : ∃ z : Int64, z = (if v7 < (3 : Int32) then u528 else (u528 + (p4.toInt64))) := ⟨_, rfl⟩
  have pre6 : ∀ t, Steps p.tables e below (T3.setTop (mkF m 65 #[.val (.int p1), .val (.int p2), .val (.int p3), .val (.int p4), .val (.int p5), .val (.int p6), .val (.int v7), .val (.ref b3), .val (.long u658), .second, .unset, .unset] [])) t → Steps p.tables e below (s₁.setTop (entryFrame m #[(.int p1), (.int p2), (.int p3), (.int p4), (.int p5), (.int p6)] maxLocals)) t := by
    intro t k
    subst hu658
    refine pre5 t ?_
    refine XS.iload X3.here hx rfl (hb hby at_52) rfl ?_
    show Steps p.tables e below (T3.setTop (mkF m 54 #[.val (.int p1), .val (.int p2), .val (.int p3), .val (.int p4), .val (.int p5), .val (.int p6), .val (.int v7), .val (.ref b3), .val (.long u528), .second, .unset, .unset] [(.int v7)])) _
    refine XS.iconst X3.here hx rfl (hb hby at_54) ?_
    show Steps p.tables e below (T3.setTop (mkF m 55 #[.val (.int p1), .val (.int p2), .val (.int p3), .val (.int p4), .val (.int p5), .val (.int p6), .val (.int v7), .val (.ref b3), .val (.long u528), .second, .unset, .unset] [(.int (3 : Int32)), (.int v7)])) _
    by_cases hb55 : v7 < (3 : Int32)
    · simp only [if_pos hb55] at k
      refine XS.icmpYes X3.here hx rfl (pc0 := 55) (pc' := 65) rfl (hb hby at_55) rfl (tlt hb55).1 (by decide) (by decide) ?_
      show Steps p.tables e below (T3.setTop (mkF m 65 #[.val (.int p1), .val (.int p2), .val (.int p3), .val (.int p4), .val (.int p5), .val (.int p6), .val (.int v7), .val (.ref b3), .val (.long u528), .second, .unset, .unset] [])) _
      exact k
    · simp only [if_neg hb55] at k
      refine XS.icmpNo X3.here hx rfl (hb hby at_55) rfl (flt hb55).1 ?_
      show Steps p.tables e below (T3.setTop (mkF m 58 #[.val (.int p1), .val (.int p2), .val (.int p3), .val (.int p4), .val (.int p5), .val (.int p6), .val (.int v7), .val (.ref b3), .val (.long u528), .second, .unset, .unset] [])) _
      refine XS.lload X3.here hx rfl (hb hby at_58) rfl ?_
      show Steps p.tables e below (T3.setTop (mkF m 60 #[.val (.int p1), .val (.int p2), .val (.int p3), .val (.int p4), .val (.int p5), .val (.int p6), .val (.int v7), .val (.ref b3), .val (.long u528), .second, .unset, .unset] [(.long u528)])) _
      refine XS.iloadN X3.here hx rfl (hb hby at_60) rfl ?_
      show Steps p.tables e below (T3.setTop (mkF m 61 #[.val (.int p1), .val (.int p2), .val (.int p3), .val (.int p4), .val (.int p5), .val (.int p6), .val (.int v7), .val (.ref b3), .val (.long u528), .second, .unset, .unset] [(.int p4), (.long u528)])) _
      refine XS.i2l X3.here hx rfl (hb hby at_61) rfl ?_
      show Steps p.tables e below (T3.setTop (mkF m 62 #[.val (.int p1), .val (.int p2), .val (.int p3), .val (.int p4), .val (.int p5), .val (.int p6), .val (.int v7), .val (.ref b3), .val (.long u528), .second, .unset, .unset] [(.long (p4.toInt64)), (.long u528)])) _
      refine XS.ladd X3.here hx rfl (hb hby at_62) rfl ?_
      show Steps p.tables e below (T3.setTop (mkF m 63 #[.val (.int p1), .val (.int p2), .val (.int p3), .val (.int p4), .val (.int p5), .val (.int p6), .val (.int v7), .val (.ref b3), .val (.long u528), .second, .unset, .unset] [(.long (u528 + (p4.toInt64)))])) _
      refine XS.lstore X3.here hx rfl (hb hby at_63) rfl (l' := #[.val (.int p1), .val (.int p2), .val (.int p3), .val (.int p4), .val (.int p5), .val (.int p6), .val (.int v7), .val (.ref b3), .val (.long (u528 + (p4.toInt64))), .second, .unset, .unset]) rfl ?_
      show Steps p.tables e below (T3.setTop (mkF m 65 #[.val (.int p1), .val (.int p2), .val (.int p3), .val (.int p4), .val (.int p5), .val (.int p6), .val (.int v7), .val (.ref b3), .val (.long (u528 + (p4.toInt64))), .second, .unset, .unset] [])) _
      exact k
  obtain ⟨u798, hu798⟩ : ∃ z : Int64, z = (if v7 < (4 : Int32) then u658 else (u658 + (p5.toInt64))) := ⟨_, rfl⟩
  have pre7 : ∀ t, Steps p.tables e below (T3.setTop (mkF m 79 #[.val (.int p1), .val (.int p2), .val (.int p3), .val (.int p4), .val (.int p5), .val (.int p6), .val (.int v7), .val (.ref b3), .val (.long u798), .second, .unset, .unset] [])) t → Steps p.tables e below (s₁.setTop (entryFrame m #[(.int p1), (.int p2), (.int p3), (.int p4), (.int p5), (.int p6)] maxLocals)) t := by
    intro t k
    subst hu798
    refine pre6 t ?_
    refine XS.iload X3.here hx rfl (hb hby at_65) rfl ?_
    show Steps p.tables e below (T3.setTop (mkF m 67 #[.val (.int p1), .val (.int p2), .val (.int p3), .val (.int p4), .val (.int p5), .val (.int p6), .val (.int v7), .val (.ref b3), .val (.long u658), .second, .unset, .unset] [(.int v7)])) _
    refine XS.iconst X3.here hx rfl (hb hby at_67) ?_
    show Steps p.tables e below (T3.setTop (mkF m 68 #[.val (.int p1), .val (.int p2), .val (.int p3), .val (.int p4), .val (.int p5), .val (.int p6), .val (.int v7), .val (.ref b3), .val (.long u658), .second, .unset, .unset] [(.int (4 : Int32)), (.int v7)])) _
    by_cases hb68 : v7 < (4 : Int32)
    · simp only [if_pos hb68] at k
      refine XS.icmpYes X3.here hx rfl (pc0 := 68) (pc' := 79) rfl (hb hby at_68) rfl (tlt hb68).1 (by decide) (by decide) ?_
      show Steps p.tables e below (T3.setTop (mkF m 79 #[.val (.int p1), .val (.int p2), .val (.int p3), .val (.int p4), .val (.int p5), .val (.int p6), .val (.int v7), .val (.ref b3), .val (.long u658), .second, .unset, .unset] [])) _
      exact k
    · simp only [if_neg hb68] at k
      refine XS.icmpNo X3.here hx rfl (hb hby at_68) rfl (flt hb68).1 ?_
      show Steps p.tables e below (T3.setTop (mkF m 71 #[.val (.int p1), .val (.int p2), .val (.int p3), .val (.int p4), .val (.int p5), .val (.int p6), .val (.int v7), .val (.ref b3), .val (.long u658), .second, .unset, .unset] [])) _
      refine XS.lload X3.here hx rfl (hb hby at_71) rfl ?_
      show Steps p.tables e below (T3.setTop (mkF m 73 #[.val (.int p1), .val (.int p2), .val (.int p3), .val (.int p4), .val (.int p5), .val (.int p6), .val (.int v7), .val (.ref b3), .val (.long u658), .second, .unset, .unset] [(.long u658)])) _
      refine XS.iload X3.here hx rfl (hb hby at_73) rfl ?_
      show Steps p.tables e below (T3.setTop (mkF m 75 #[.val (.int p1), .val (.int p2), .val (.int p3), .val (.int p4), .val (.int p5), .val (.int p6), .val (.int v7), .val (.ref b3), .val (.long u658), .second, .unset, .unset] [(.int p5), (.long u658)])) _
      refine XS.i2l X3.here hx rfl (hb hby at_75) rfl ?_
      show Steps p.tables e below (T3.setTop (mkF m 76 #[.val (.int p1), .val (.int p2), .val (.int p3), .val (.int p4), .val (.int p5), .val (.int p6), .val (.int v7), .val (.ref b3), .val (.long u658), .second, .unset, .unset] [(.long (p5.toInt64)), (.long u658)])) _
      refine XS.ladd X3.here hx rfl (hb hby at_76) rfl ?_
      show Steps p.tables e below (T3.setTop (mkF m 77 #[.val (.int p1), .val (.int p2), .val (.int p3), .val (.int p4), .val (.int p5), .val (.int p6), .val (.int v7), .val (.ref b3), .val (.long u658), .second, .unset, .unset] [(.long (u658 + (p5.toInt64)))])) _
      refine XS.lstore X3.here hx rfl (hb hby at_77) rfl (l' := #[.val (.int p1), .val (.int p2), .val (.int p3), .val (.int p4), .val (.int p5), .val (.int p6), .val (.int v7), .val (.ref b3), .val (.long (u658 + (p5.toInt64))), .second, .unset, .unset]) rfl ?_
      show Steps p.tables e below (T3.setTop (mkF m 79 #[.val (.int p1), .val (.int p2), .val (.int p3), .val (.int p4), .val (.int p5), .val (.int p6), .val (.int v7), .val (.ref b3), .val (.long (u658 + (p5.toInt64))), .second, .unset, .unset] [])) _
      exact k
  obtain ⟨u938, hu938⟩ : ∃ z : Int64, z = (if v7 < (5 : Int32) then u798 else (u798 + (p6.toInt64))) := ⟨_, rfl⟩
  have pre8 : ∀ t, Steps p.tables e below (T3.setTop (mkF m 93 #[.val (.int p1), .val (.int p2), .val (.int p3), .val (.int p4), .val (.int p5), .val (.int p6), .val (.int v7), .val (.ref b3), .val (.long u938), .second, .unset, .unset] [])) t → Steps p.tables e below (s₁.setTop (entryFrame m #[(.int p1), (.int p2), (.int p3), (.int p4), (.int p5), (.int p6)] maxLocals)) t := by
    intro t k
    subst hu938
    refine pre7 t ?_
    refine XS.iload X3.here hx rfl (hb hby at_79) rfl ?_
    show Steps p.tables e below (T3.setTop (mkF m 81 #[.val (.int p1), .val (.int p2), .val (.int p3), .val (.int p4), .val (.int p5), .val (.int p6), .val (.int v7), .val (.ref b3), .val (.long u798), .second, .unset, .unset] [(.int v7)])) _
    refine XS.iconst X3.here hx rfl (hb hby at_81) ?_
    show Steps p.tables e below (T3.setTop (mkF m 82 #[.val (.int p1), .val (.int p2), .val (.int p3), .val (.int p4), .val (.int p5), .val (.int p6), .val (.int v7), .val (.ref b3), .val (.long u798), .second, .unset, .unset] [(.int (5 : Int32)), (.int v7)])) _
    by_cases hb82 : v7 < (5 : Int32)
    · simp only [if_pos hb82] at k
      refine XS.icmpYes X3.here hx rfl (pc0 := 82) (pc' := 93) rfl (hb hby at_82) rfl (tlt hb82).1 (by decide) (by decide) ?_
      show Steps p.tables e below (T3.setTop (mkF m 93 #[.val (.int p1), .val (.int p2), .val (.int p3), .val (.int p4), .val (.int p5), .val (.int p6), .val (.int v7), .val (.ref b3), .val (.long u798), .second, .unset, .unset] [])) _
      exact k
    · simp only [if_neg hb82] at k
      refine XS.icmpNo X3.here hx rfl (hb hby at_82) rfl (flt hb82).1 ?_
      show Steps p.tables e below (T3.setTop (mkF m 85 #[.val (.int p1), .val (.int p2), .val (.int p3), .val (.int p4), .val (.int p5), .val (.int p6), .val (.int v7), .val (.ref b3), .val (.long u798), .second, .unset, .unset] [])) _
      refine XS.lload X3.here hx rfl (hb hby at_85) rfl ?_
      show Steps p.tables e below (T3.setTop (mkF m 87 #[.val (.int p1), .val (.int p2), .val (.int p3), .val (.int p4), .val (.int p5), .val (.int p6), .val (.int v7), .val (.ref b3), .val (.long u798), .second, .unset, .unset] [(.long u798)])) _
      refine XS.iload X3.here hx rfl (hb hby at_87) rfl ?_
      show Steps p.tables e below (T3.setTop (mkF m 89 #[.val (.int p1), .val (.int p2), .val (.int p3), .val (.int p4), .val (.int p5), .val (.int p6), .val (.int v7), .val (.ref b3), .val (.long u798), .second, .unset, .unset] [(.int p6), (.long u798)])) _
      refine XS.i2l X3.here hx rfl (hb hby at_89) rfl ?_
      show Steps p.tables e below (T3.setTop (mkF m 90 #[.val (.int p1), .val (.int p2), .val (.int p3), .val (.int p4), .val (.int p5), .val (.int p6), .val (.int v7), .val (.ref b3), .val (.long u798), .second, .unset, .unset] [(.long (p6.toInt64)), (.long u798)])) _
      refine XS.ladd X3.here hx rfl (hb hby at_90) rfl ?_
      show Steps p.tables e below (T3.setTop (mkF m 91 #[.val (.int p1), .val (.int p2), .val (.int p3), .val (.int p4), .val (.int p5), .val (.int p6), .val (.int v7), .val (.ref b3), .val (.long u798), .second, .unset, .unset] [(.long (u798 + (p6.toInt64)))])) _
      refine XS.lstore X3.here hx rfl (hb hby at_91) rfl (l' := #[.val (.int p1), .val (.int p2), .val (.int p3), .val (.int p4), .val (.int p5), .val (.int p6), .val (.int v7), .val (.ref b3), .val (.long (u798 + (p6.toInt64))), .second, .unset, .unset]) rfl ?_
      show Steps p.tables e below (T3.setTop (mkF m 93 #[.val (.int p1), .val (.int p2), .val (.int p3), .val (.int p4), .val (.int p5), .val (.int p6), .val (.int v7), .val (.ref b3), .val (.long (u798 + (p6.toInt64))), .second, .unset, .unset] [])) _
      exact k
  have pre9 : ∀ t, Steps p.tables e below (T3.setTop (mkF m 95 #[.val (.int p1), .val (.int p2), .val (.int p3), .val (.int p4), .val (.int p5), .val (.int p6), .val (.int v7), .val (.ref b3), .val (.long u938), .second, .unset, .unset] [(.ref b3)])) t → Steps p.tables e below (s₁.setTop (entryFrame m #[(.int p1), (.int p2), (.int p3), (.int p4), (.int p5), (.int p6)] maxLocals)) t := by
    intro t k
    refine pre8 t ?_
    refine XS.aload X3.here hx rfl (hb hby at_93) rfl rfl ?_
    show Steps p.tables e below (T3.setTop (mkF m 95 #[.val (.int p1), .val (.int p2), .val (.int p3), .val (.int p4), .val (.int p5), .val (.int p6), .val (.int v7), .val (.ref b3), .val (.long u938), .second, .unset, .unset] [(.ref b3)])) _
    exact k
  obtain ⟨_, _, ⟨T10, L10, k10, n10⟩, -, X10, ⟨Lc10, hQ10, l10, y10, z10⟩, st10⟩ := Jvm.LawKit.callS X3 hx (y := (⟨"com/example/ballast/ballast/model/Loads", "total", "([I)J"⟩ : MethodName)) hown (mvT hZ (hw _ (List.mem_of_getElem? (i := 6) rfl))) (mvT hZ (hw _ (List.mem_of_getElem? (i := 7) rfl))) (mvT hZ (hw _ (List.mem_of_getElem? (i := 8) rfl))) (mvT hZ (hw _ (List.mem_of_getElem? (i := 9) rfl))) (by decide) (backOf (W := 0) (rm2 l Z a0 hw [] b3 (own_b5 p2 p3 p4 p5 p6) v7.toNatClampNeg T3.heap n0 Z3 (own_mb hv7) (own_cast hv7 V3)) hZ (hw _ (List.mem_of_getElem? (i := 9) rfl)) (hw _ (List.mem_of_getElem? (i := 8) rfl)) (by decide) (by decide)) (g := (mkF m 95 #[.val (.int p1), .val (.int p2), .val (.int p3), .val (.int p4), .val (.int p5), .val (.int p6), .val (.int v7), .val (.ref b3), .val (.long u938), .second, .unset, .unset] [(.ref b3)])) rfl (by rw [hml]; rfl) (argsL := [(.ref b3)]) (rest := []) (lenOf pd0_1 rfl) rfl (by show 2 * 0 + _ ≤ _; exact Nat.le_of_eq rfl) (hb hby at_95) (fun _ _ => ⟨rfl, rfl, (by decide : 1 + 0 ≤ _), (by decide : 5 + 0 ≤ _)⟩)
  dsimp only [Pt.U, Pt.locs, Pt.cells, Pt.slots] at X10 l10 y10 z10 st10 hQ10
  subst l10 y10 z10
  obtain ⟨rfl, Nq10, e10⟩ := hQ10
  have N10 := Fr.app N3 Nq10
  have pre10 : ∀ t, Steps p.tables e below (T10.setTop (mkF m 98 #[.val (.int p1), .val (.int p2), .val (.int p3), .val (.int p4), .val (.int p5), .val (.int p6), .val (.int v7), .val (.ref b3), .val (.long u938), .second, .unset, .unset] [(.long (fn2 (own_b5 p2 p3 p4 p5 p6) v7.toNatClampNeg))])) t → Steps p.tables e below (s₁.setTop (entryFrame m #[(.int p1), (.int p2), (.int p3), (.int p4), (.int p5), (.int p6)] maxLocals)) t := fun t k => pre9 t (st10 _ k)
  obtain ⟨v98, hv98⟩ : ∃ z : Int64, z = (fn2 (own_b5 p2 p3 p4 p5 p6) v7.toNatClampNeg) := ⟨_, rfl⟩
  have pre11 : ∀ t, Steps p.tables e below (T10.setTop (mkF m 100 #[.val (.int p1), .val (.int p2), .val (.int p3), .val (.int p4), .val (.int p5), .val (.int p6), .val (.int v7), .val (.ref b3), .val (.long u938), .second, .val (.long v98), .second] [])) t → Steps p.tables e below (s₁.setTop (entryFrame m #[(.int p1), (.int p2), (.int p3), (.int p4), (.int p5), (.int p6)] maxLocals)) t := by
    intro t k
    subst hv98
    refine pre10 t ?_
    refine XS.lstore X10.here hx rfl (hb hby at_98) rfl (l' := #[.val (.int p1), .val (.int p2), .val (.int p3), .val (.int p4), .val (.int p5), .val (.int p6), .val (.int v7), .val (.ref b3), .val (.long u938), .second, .val (.long (fn2 (own_b5 p2 p3 p4 p5 p6) v7.toNatClampNeg)), .second]) rfl ?_
    show Steps p.tables e below (T10.setTop (mkF m 100 #[.val (.int p1), .val (.int p2), .val (.int p3), .val (.int p4), .val (.int p5), .val (.int p6), .val (.int v7), .val (.ref b3), .val (.long u938), .second, .val (.long (fn2 (own_b5 p2 p3 p4 p5 p6) v7.toNatClampNeg)), .second] [])) _
    exact k
  obtain ⟨u113s0, hu113s0⟩ : ∃ z : Int32, z = (if v98 = u938 then (1 : Int32) else (0 : Int32)) := ⟨_, rfl⟩
  have pre12 : ∀ t, Steps p.tables e below (T10.setTop (mkF m 113 #[.val (.int p1), .val (.int p2), .val (.int p3), .val (.int p4), .val (.int p5), .val (.int p6), .val (.int v7), .val (.ref b3), .val (.long u938), .second, .val (.long v98), .second] [(.int u113s0)])) t → Steps p.tables e below (s₁.setTop (entryFrame m #[(.int p1), (.int p2), (.int p3), (.int p4), (.int p5), (.int p6)] maxLocals)) t := by
    intro t k
    subst hu113s0
    refine pre11 t ?_
    refine XS.lload X10.here hx rfl (hb hby at_100) rfl ?_
    show Steps p.tables e below (T10.setTop (mkF m 102 #[.val (.int p1), .val (.int p2), .val (.int p3), .val (.int p4), .val (.int p5), .val (.int p6), .val (.int v7), .val (.ref b3), .val (.long u938), .second, .val (.long v98), .second] [(.long v98)])) _
    refine XS.lload X10.here hx rfl (hb hby at_102) rfl ?_
    show Steps p.tables e below (T10.setTop (mkF m 104 #[.val (.int p1), .val (.int p2), .val (.int p3), .val (.int p4), .val (.int p5), .val (.int p6), .val (.int v7), .val (.ref b3), .val (.long u938), .second, .val (.long v98), .second] [(.long u938), (.long v98)])) _
    refine XS.lcmp X10.here hx rfl (hb hby at_104) rfl ?_
    show Steps p.tables e below (T10.setTop (mkF m 105 #[.val (.int p1), .val (.int p2), .val (.int p3), .val (.int p4), .val (.int p5), .val (.int p6), .val (.int v7), .val (.ref b3), .val (.long u938), .second, .val (.long v98), .second] [(.int (lcmpW v98 u938))])) _
    by_cases hb105 : v98 = u938
    · simp only [if_pos hb105] at k
      refine XS.ifNo X10.here hx rfl (hb hby at_105) rfl (own_Teq hb105).2 ?_
      show Steps p.tables e below (T10.setTop (mkF m 108 #[.val (.int p1), .val (.int p2), .val (.int p3), .val (.int p4), .val (.int p5), .val (.int p6), .val (.int v7), .val (.ref b3), .val (.long u938), .second, .val (.long v98), .second] [])) _
      refine XS.iconst X10.here hx rfl (hb hby at_108) ?_
      show Steps p.tables e below (T10.setTop (mkF m 109 #[.val (.int p1), .val (.int p2), .val (.int p3), .val (.int p4), .val (.int p5), .val (.int p6), .val (.int v7), .val (.ref b3), .val (.long u938), .second, .val (.long v98), .second] [(.int (1 : Int32))])) _
      refine XS.goto X10.here hx rfl (pc0 := 109) (pc' := 113) rfl (hb hby at_109) (by decide) (by decide) ?_
      show Steps p.tables e below (T10.setTop (mkF m 113 #[.val (.int p1), .val (.int p2), .val (.int p3), .val (.int p4), .val (.int p5), .val (.int p6), .val (.int v7), .val (.ref b3), .val (.long u938), .second, .val (.long v98), .second] [(.int (1 : Int32))])) _
      exact k
    · simp only [if_neg hb105] at k
      refine XS.ifYes X10.here hx rfl (pc0 := 105) (pc' := 112) rfl (hb hby at_105) rfl (own_Feq hb105).2 (by decide) (by decide) ?_
      show Steps p.tables e below (T10.setTop (mkF m 112 #[.val (.int p1), .val (.int p2), .val (.int p3), .val (.int p4), .val (.int p5), .val (.int p6), .val (.int v7), .val (.ref b3), .val (.long u938), .second, .val (.long v98), .second] [])) _
      refine XS.iconst X10.here hx rfl (hb hby at_112) ?_
      show Steps p.tables e below (T10.setTop (mkF m 113 #[.val (.int p1), .val (.int p2), .val (.int p3), .val (.int p4), .val (.int p5), .val (.int p6), .val (.int v7), .val (.ref b3), .val (.long u938), .second, .val (.long v98), .second] [(.int (0 : Int32))])) _
      exact k
  obtain ⟨fs, hr, hrun, hended, hW, hsame⟩ := X10.leave (v := some (.int (nar .boolean u113s0))) (fun h => by rw [Bd.returns] at h; cases h)
  refine ⟨_, _, pre12 _ ?_, hrun, hended, _, _, rfl, ?_, ⟨_, rfl⟩, hW, hsame.mono (by decide) (by decide)⟩
  · show Steps p.tables e below (T10.setTop (mkF m 113 #[.val (.int p1), .val (.int p2), .val (.int p3), .val (.int p4), .val (.int p5), .val (.int p6), .val (.int v7), .val (.ref b3), .val (.long u938), .second, .val (.long v98), .second] [(.int u113s0)])) _
    exact retN X10 hx (t := .boolean) Bd.returns (by simp) (hb hby at_113) hr
  · show Q0 Z p1 p2 p3 p4 p5 p6 h0 n0 _ T10.heap _
    rw [e10]
    refine ⟨?_, N10⟩
    subst hu113s0 hv98 hu938 hu798 hu658 hu528 hu398 hv7
    simp only [fn0]
set_option maxRecDepth 65536 in
set_option maxHeartbeats 40000000 in
theorem comes_1 {Post : Tables → Env → Array Value → State → Outcome → State → Prop} (hpost : ∀ tb e args s v u, (limb_1_1.after args s (.returned v) u = true ∧ limb_1_2.after args s (.returned v) u = true ∧ True) → FrameEnd s (.returned v) u (Jvm.fieldLocs frame_1_writes args s ++ Jvm.arrayLocs frame_1_arrays args s ++ Jvm.staticLocs frame_1_statics s) 16 128 → Post tb e args s (.returned v) u) :
    ArmFor flags0 classFile x code maxLocals ret World_1 tables_1 room_1 Calls_1 rest_1 Pre_1 Post := by
  intro l hfl _ _ p e ha hc hk s m args below hf hA hF happ hP
  obtain ⟨hcalls, hrest, hpre⟩ := hP
  obtain ⟨-, -, -, hnamed, -, -, -, hat⟩ := (Spec.applies_iff hf).mp happ
  obtain ⟨hg, hn⟩ := and_e (Cond.before_iff.mp (show (Jvm.Cond.and given_1 narrow_1).before args s = true from hpre))
  obtain ⟨hcount, g0⟩ := and_e hg
  obtain ⟨a0, g1⟩ := and_e g0
  obtain ⟨a1, g2⟩ := and_e g1
  obtain ⟨a2, g3⟩ := and_e g2
  obtain ⟨a3, g4⟩ := and_e g3
  obtain ⟨a4, g5⟩ := and_e g4
  have a5 := g5
  obtain ⟨w0, w1, w2, w3, w4, w5, rfl⟩ : ∃ w0 w1 w2 w3 w4 w5 : Value, args = #[w0, w1, w2, w3, w4, w5] := by
    have hs : args.size = 6 := by simpa [Cond.value, given_1] using hcount
    obtain ⟨L⟩ := args
    match L, hs with
    | [w0, w1, w2, w3, w4, w5], _ => exact ⟨w0, w1, w2, w3, w4, w5, rfl⟩
  have hw := fun d (hd : d ∈ tables_1) => atoms_spec (ws := Jvm.Cond.code x code maxLocals ret :: tables_1) hat d (List.mem_cons_of_mem _ hd)
  obtain ⟨i0, ei0⟩ := is_v a0
  obtain rfl : w0 = (.int i0) := Option.some.inj ei0
  obtain ⟨i1, ei1⟩ := is_v a1
  obtain rfl : w1 = (.int i1) := Option.some.inj ei1
  obtain ⟨i2, ei2⟩ := is_v a2
  obtain rfl : w2 = (.int i2) := Option.some.inj ei2
  obtain ⟨i3, ei3⟩ := is_v a3
  obtain rfl : w3 = (.int i3) := Option.some.inj ei3
  obtain ⟨i4, ei4⟩ := is_v a4
  obtain rfl : w4 = (.int i4) := Option.some.inj ei4
  obtain ⟨i5, ei5⟩ := is_v a5
  obtain rfl : w5 = (.int i5) := Option.some.inj ei5
  obtain ⟨n, o, h1, h2, h3, v, L, rfl, ⟨hv, N⟩, hq⟩ := rm0 l s _ hw tables_1 i0 i1 i2 i3 i4 i5 s.heap s.heap.size (Nat.le_refl _) p e ha hc hk s m _ below hf ((Spec.applies_iff_loose hf).mp happ).1 ⟨rfl, State.Warmed39.refl s, rfl⟩ trivial
  rw [own_law] at hv
  subst hv
  refine ⟨n, _, h1, h2, h3, hpost _ _ _ _ _ _ ⟨Cond.after_iff.mpr rfl, Cond.after_iff.mpr (eq_i res_at (Term.int_eval (1)) rfl), trivial⟩ ⟨hq.1, hq.2.1, (hq.2.2.sift fun y hy => Or.inr (N y hy)).mono (by decide) (by decide)⟩⟩
theorem main_1_1 : Claimed_1_1 := comes_1 fun _ _ _ _ _ _ h hF => ⟨h.1, hF⟩
theorem main_1_2 : Claimed_1_2 := comes_1 fun _ _ _ _ _ _ h hF => ⟨h.2.1, hF⟩
end Jvm.Pilot.@@N@@
namespace Jvm.Pilot.@@N@@
open Jvm Jvm.ClassFile Sem Op Lib Jvm.Free Jvm.Stand Jvm.Pilot.@@N@@.Jvm.D
/-! MADE BY PROGRAM (witnessworld.py) out of the Statement's table words and the real class files: 9 classes; the members and pool entries that the words name. The judged class is class 1, her method 1. -/
namespace start1
open Jvm.ClassFile
def u (s : String) : CpInfo := .utf8 (stringToUtf16 s)
/-- a pool by its gaps: so many unusable entries, then the entry; so many at the end -/
def gap : Nat → List CpInfo → List CpInfo
  | 0, r => r
  | n + 1, r => .unusable :: gap n r
def poolList (es : List (Nat × CpInfo)) (last : Nat) : List CpInfo := es.foldr (fun e r => gap e.1 (e.2 :: r)) (gap last [])
def pool (es : List (Nat × CpInfo)) (last : Nat) : Array CpInfo := ⟨poolList es last⟩
def fileOf (pool : Array CpInfo) (this : Nat) (attrs : Array Attribute := #[]) (ms : Array MethodInfo := #[]) (fl : Nat := 33) (sup : Nat := 0) (ifs : Array Nat := #[]) (fds : Array FieldInfo := #[]) : ClassFile where
  minorVersion := 0
  majorVersion := 65
  constantPool := pool
  accessFlags := fl
  thisClass := this
  superClass := sup
  interfaces := ifs
  fields := fds
  methods := ms
  attributes := attrs
def plain (name : String) (sup : Option ClassId) : Class where
  name := name
  kind := .ordinary
  loader := none
  accessFlags := 33
  super := sup
  interfaces := #[]
  cf := none
  fields := #[]
  methods := #[]
  instanceTypes := #[]
  staticTypes := #[]
  resolved := #[]
  callSites := []
  init := .initialized
  statics := none
  mirror := none

def pool0 : Array CpInfo := pool [(5, u "<init>"), (0, u "()V"), (1, .class_ 10), (1, u "java/lang/Object")] 113

def k0m0 : Method := { name := "<init>", desc := "()V", sig := { parameters := [], returnType := none }, accessFlags := 1, code := none }
/-- java/lang/Object -/
def k0 : Class := { plain "java/lang/Object" none with
  accessFlags := 33
  interfaces := #[]
  cf := some (fileOf pool0 8 #[] #[{ accessFlags := 1, nameIndex := 5, descriptorIndex := 6, attributes := #[] }] 33 0 #[] #[])
  fields := #[]
  methods := #[k0m0]
  instanceTypes := #[]
  staticTypes := #[]
  resolved := Array.replicate 124 none
  statics := none }

def pool1 : Array CpInfo := pool [(2, .class_ 4), (1, u "java/lang/Object"), (0, u "<init>"), (0, u "()V"), (0, .integer 2147483647), (0, .methodref 9 10), (0, .class_ 11), (0, .nameAndType 12 13), (0, u "com/example/ballast/ballast/model/LoadsTotalPinLaw"), (0, u "build"), (0, u "(IIIIII)[I"), (0, .methodref 15 16), (0, .class_ 17), (0, .nameAndType 18 19), (0, u "com/example/ballast/ballast/model/Loads"), (0, u "total"), (0, u "([I)J"), (2, u "law"), (0, u "(IIIIII)Z")] 5

def k1m0 : Method := { name := "<init>", desc := "()V", sig := { parameters := [], returnType := none }, accessFlags := 2, code := none }
def k1c1 : Code := { maxStack := 6, maxLocals := 12, code := code, exceptionTable := #[], attributes := #[] }
def k1m1 : Method := { name := "law", desc := "(IIIIII)Z", sig := { parameters := [.int, .int, .int, .int, .int, .int], returnType := some .boolean }, accessFlags := 9, code := some k1c1 }
def k1c2 : Code := { maxStack := 4, maxLocals := 6, code := method_3_code, exceptionTable := #[], attributes := #[] }
def k1m2 : Method := { name := "build", desc := "(IIIIII)[I", sig := { parameters := [.int, .int, .int, .int, .int, .int], returnType := some (.array .int) }, accessFlags := 10, code := some k1c2 }
/-- com/example/ballast/ballast/model/LoadsTotalPinLaw -/
def k1 : Class := { plain "com/example/ballast/ballast/model/LoadsTotalPinLaw" (some 0) with
  accessFlags := 49
  interfaces := #[]
  cf := some (fileOf pool1 9 #[] #[{ accessFlags := 2, nameIndex := 5, descriptorIndex := 6, attributes := #[] }, { accessFlags := 9, nameIndex := 22, descriptorIndex := 23, attributes := #[] }, { accessFlags := 10, nameIndex := 12, descriptorIndex := 13, attributes := #[] }] 49 2 #[] #[])
  fields := #[]
  methods := #[k1m0, k1m1, k1m2]
  instanceTypes := #[]
  staticTypes := #[]
  resolved := Array.replicate 29 none
  statics := none }

def pool2 : Array CpInfo := pool [(2, .class_ 4), (1, u "java/lang/Object"), (0, u "<init>"), (0, u "()V"), (5, .class_ 14), (1, u "com/example/ballast/ballast/model/Loads"), (40, .class_ 56), (0, u "com/example/ballast/ballast/model/Loads$Sequence"), (134, .class_ 193), (1, u "com/example/ballast/ballast/model/Loads$FieldAction"), (20, .class_ 216), (1, u "com/example/ballast/ballast/model/Loads$LoadAction"), (3, u "NONE"), (0, u "Lcom/example/ballast/ballast/model/Decimal;"), (2, u "MOST"), (11, u "MAX_LOAD"), (0, u "I"), (2, u "FIRST_CAPACITY"), (17, u "total"), (0, u "([I)J")] 80

def k2m0 : Method := { name := "<init>", desc := "()V", sig := { parameters := [], returnType := none }, accessFlags := 2, code := none }
def k2c1 : Code := { maxStack := 4, maxLocals := 7, code := prog_69_method_10_code, exceptionTable := #[], attributes := #[] }
def k2m1 : Method := { name := "total", desc := "([I)J", sig := { parameters := [(.array .int)], returnType := some .long }, accessFlags := 9, code := some k2c1 }
/-- com/example/ballast/ballast/model/Loads -/
def k2 : Class := { plain "com/example/ballast/ballast/model/Loads" (some 0) with
  accessFlags := 49
  interfaces := #[]
  cf := some (fileOf pool2 12 #[.nestMembers #[55, 191, 214]] #[{ accessFlags := 2, nameIndex := 5, descriptorIndex := 6, attributes := #[] }, { accessFlags := 9, nameIndex := 258, descriptorIndex := 259, attributes := #[] }] 49 2 #[] #[{ accessFlags := 25, nameIndex := 236, descriptorIndex := 237, attributes := #[] }, { accessFlags := 26, nameIndex := 240, descriptorIndex := 237, attributes := #[] }, { accessFlags := 26, nameIndex := 220, descriptorIndex := 221, attributes := #[] }, { accessFlags := 26, nameIndex := 224, descriptorIndex := 221, attributes := #[] }])
  fields := #[{ name := "MAX_LOAD", type := .int, accessFlags := 25, slot := 0, constantValue := 0 }, { name := "FIRST_CAPACITY", type := .int, accessFlags := 26, slot := 1, constantValue := 0 }, { name := "NONE", type := (.object "com/example/ballast/ballast/model/Decimal"), accessFlags := 26, slot := 2, constantValue := 0 }, { name := "MOST", type := (.object "com/example/ballast/ballast/model/Decimal"), accessFlags := 26, slot := 3, constantValue := 0 }]
  methods := #[k2m0, k2m1]
  instanceTypes := #[]
  staticTypes := #[.int, .int, (.object "com/example/ballast/ballast/model/Decimal"), (.object "com/example/ballast/ballast/model/Decimal")]
  resolved := Array.replicate 340 none
  statics := none }

def pool3 : Array CpInfo := pool [(1, u "java/lang/Cloneable"), (0, .class_ 1), (0, u "java/lang/Object"), (0, .class_ 3)] 3

/-- java/lang/Cloneable -/
def k3 : Class := { plain "java/lang/Cloneable" (some 0) with
  accessFlags := 1537
  interfaces := #[]
  cf := some (fileOf pool3 2 #[] #[] 1537 4 #[] #[])
  fields := #[]
  methods := #[]
  instanceTypes := #[]
  staticTypes := #[]
  resolved := Array.replicate 8 none
  statics := none }

def pool4 : Array CpInfo := pool [(1, u "java/io/Serializable"), (0, .class_ 1), (0, u "java/lang/Object"), (0, .class_ 3)] 3

/-- java/io/Serializable -/
def k4 : Class := { plain "java/io/Serializable" (some 0) with
  accessFlags := 1537
  interfaces := #[]
  cf := some (fileOf pool4 2 #[] #[] 1537 4 #[] #[])
  fields := #[]
  methods := #[]
  instanceTypes := #[]
  staticTypes := #[]
  resolved := Array.replicate 8 none
  statics := none }

/-- the primitive byte -/
def k5 : Class := { plain "byte" none with kind := .primitive 'B', accessFlags := 0x411 }
/-- [B -/
def k6 : Class := { plain "[B" (some 0) with kind := .array 5 .byte, interfaces := #[3, 4], accessFlags := 1041 }

/-- the primitive int -/
def k7 : Class := { plain "int" none with kind := .primitive 'I', accessFlags := 0x411 }
/-- [I -/
def k8 : Class := { plain "[I" (some 0) with kind := .array 7 .int, interfaces := #[3, 4], accessFlags := 1041 }

def heap : Heap := #[]
def classes : Array Class := #[k0, k1, k2, k3, k4, k5, k6, k7, k8]
def interned : List (Array UInt16 × Addr) := []
def slotsUsed : Nat := 0
def theMethod : MethodId := ⟨1, 1⟩
def args0 : Array Value := #[.int 3, .int 1, .int 2, .int 3, .int 4, .int 5]
def aboutOver (below : List Frame) : State where
  vm := { classes := classes, interned := interned.toArray }
  heap := heap
  slotsUsed := slotsUsed
  threads := #[{ frames := .invoking theMethod args0 :: below }]
def below0 : List Frame := [.native { method := ⟨0, 0⟩, args := #[] }]
def about1 : State := aboutOver below0
def p0 : Program := .bare "" "" ""
def e0 : Env := launch0.env 0 0 0
theorem w_frames : about1.frames = Frame.invoking theMethod args0 :: below0 := rfl
set_option maxRecDepth 65536 in
theorem w_args : argsFit about1.vm theMethod args0 = true := by decide +kernel
set_option maxRecDepth 65536 in
theorem w_heap : heapFits about1 = true := by decide +kernel
set_option maxRecDepth 65536 in
theorem w_runnable : about1.curStatus? = some .runnable := by decide +kernel
set_option maxRecDepth 65536 in
theorem w_alone : about1.alone = true := by decide +kernel
set_option maxRecDepth 65536 in
theorem w_named : about1.methodNamed? x = some theMethod := by decide +kernel
set_option maxRecDepth 65536 in
theorem w_hears : about1.hears theMethod below0 = true := by decide +kernel
set_option maxRecDepth 65536 in
theorem w_ripe : about1.ripe theMethod args0 below0 = true := by decide +kernel
theorem w_running : about1.status = .running := rfl
set_option maxRecDepth 65536 in
theorem w_room : about1.hasRoom e0.platform room_1 = true :=
  launch0.hasRoom_least _ room_1 (by decide +kernel) (by decide +kernel) (by decide +kernel) (by decide +kernel) (by decide +kernel) (by decide +kernel)
theorem allAtoms_all (ts : List Jvm.Cond) (a : Array Jvm.Value) (st : Jvm.State) : (allAtoms ts).before a st = ts.all (fun c => c.before a st) := by
  induction ts with
  | nil => rfl
  | cons c t ih =>
    show (Jvm.Cond.and c (allAtoms t)).before a st = _
    rw [Jvm.Cond.before_and, ih, List.all_cons]
def words1 : List Jvm.Cond := Jvm.Cond.code x code maxLocals ret :: tables_1
/-- a 'code' word, met by the world's own term for the bytes: nothing is compared byte by byte -/
theorem code_word {y : MethodName} {bytes : ByteArray} {mx : Nat} {rt : Option FieldType} {a : Array Value} {s : State} {m : MethodId} {meth : Method} {c : Code} (h1 : s.methodNamed? y = some m) (h2 : s.vm.method? m = some meth) (h3 : meth.code = some c) (h4 : c.code = bytes)
    (h5 : (c.maxLocals == mx && c.exceptionTable.isEmpty && decide (c.maxStack ≤ mostOperands) && decide (meth.sig.returnType = rt) && !meth.locks && decide (parseMethodDescriptor y.desc = some meth.sig)) = true) : (Jvm.Cond.code y bytes mx rt).before a s = true := by
  simp only [Bool.and_eq_true, beq_iff_eq, Bool.not_eq_true', decide_eq_true_eq] at h5
  obtain ⟨⟨⟨⟨⟨g1, g2⟩, g3⟩, g4⟩, g5⟩, g6⟩ := h5
  simp [Cond.before, Cond.holds, Cond.value, h1, h2, h3, h4, g1, g2, g3, g4, g5, g6]
def isCode : Jvm.Cond → Bool
  | .code _ _ _ _ => true
  | _ => false
theorem all_split {L : List Jvm.Cond} {P : Jvm.Cond → Bool} (h1 : L.all (fun c => isCode c || P c) = true) (h2 : ∀ c ∈ L.filter isCode, P c = true) : L.all P = true := by
  refine List.all_eq_true.mpr fun c hc => ?_
  have h := List.all_eq_true.mp h1 c hc
  rcases Bool.eq_false_or_eq_true (isCode c) with hi | hi
  · exact h2 c (List.mem_filter.mpr ⟨hc, hi⟩)
  · simpa [hi] using h
set_option maxRecDepth 65536 in
theorem w_c0 : (Jvm.Cond.code x code maxLocals ret).before args0 about1 = true := code_word (m := ⟨1, 1⟩) (meth := k1m1) (c := k1c1) (by decide +kernel) rfl rfl rfl (by decide +kernel)
set_option maxRecDepth 65536 in
theorem w_c1 : (Jvm.Cond.code ({ cls := "com/example/ballast/ballast/model/LoadsTotalPinLaw", name := "build", desc := "(IIIIII)[I" } : Jvm.MethodName) method_3_code (6 : Nat) (Option.some (Jvm.ClassFile.FieldType.array Jvm.ClassFile.FieldType.int))).before args0 about1 = true := code_word (m := ⟨1, 2⟩) (meth := k1m2) (c := k1c2) (by decide +kernel) rfl rfl rfl (by decide +kernel)
set_option maxRecDepth 65536 in
theorem w_c2 : (Jvm.Cond.code ({ cls := "com/example/ballast/ballast/model/Loads", name := "total", desc := "([I)J" } : Jvm.MethodName) prog_69_method_10_code (7 : Nat) (Option.some Jvm.ClassFile.FieldType.long)).before args0 about1 = true := code_word (m := ⟨2, 1⟩) (meth := k2m1) (c := k2c1) (by decide +kernel) rfl rfl rfl (by decide +kernel)
def codes1 : List Jvm.Cond := [Jvm.Cond.code x code maxLocals ret, Jvm.Cond.code ({ cls := "com/example/ballast/ballast/model/LoadsTotalPinLaw", name := "build", desc := "(IIIIII)[I" } : Jvm.MethodName) method_3_code (6 : Nat) (Option.some (Jvm.ClassFile.FieldType.array Jvm.ClassFile.FieldType.int)), Jvm.Cond.code ({ cls := "com/example/ballast/ballast/model/Loads", name := "total", desc := "([I)J" } : Jvm.MethodName) prog_69_method_10_code (7 : Nat) (Option.some Jvm.ClassFile.FieldType.long)]
set_option maxRecDepth 65536 in
theorem codes_eq : words1.filter isCode = codes1 := rfl
theorem w_codes : ∀ c ∈ words1.filter isCode, c.before args0 about1 = true := by
  rw [codes_eq]
  intro c hc
  simp only [codes1, List.mem_cons, List.not_mem_nil, or_false] at hc
  rcases hc with rfl | rfl | rfl
  · exact w_c0
  · exact w_c1
  · exact w_c2
set_option maxRecDepth 65536 in
theorem w_t1 : words1.all (fun c => isCode c || c.before args0 about1) = true := by decide +kernel
theorem w_tables : (allAtoms (Jvm.Cond.code x code maxLocals ret :: tables_1)).before args0 about1 = true := by
  rw [allAtoms_all]
  show words1.all (fun c => c.before args0 about1) = true
  refine all_split ?_ w_codes
  rw [w_t1]
set_option maxRecDepth 65536 in
theorem w_case : (Jvm.Cond.and given_1 narrow_1).before args0 about1 = true := by decide +kernel
theorem w_applies : (headSpec (Jvm.Cond.code x code maxLocals ret :: tables_1) room_1).applies x e0.platform about1 = true :=
  (Spec.applies_iff w_frames).mpr ⟨w_running, w_runnable, w_alone, w_named, w_hears, w_ripe, w_room, w_tables⟩
theorem atStart : AtStart classFile x code maxLocals ret World_1 tables_1 room_1 Calls_1 rest_1 Pre_1 launch0 p0 e0 about1 theMethod args0 below0 :=
  ⟨lists_1, trivial, launch0.admits_env _ _ _, launch0.least_env, fairChoices_fair.cas, fairChoices_fair.clock, w_frames, w_args, w_heap, w_applies, trivial, trivial, w_case⟩
end start1
theorem witness_1 : WitnessClaimed_1 := ⟨start1.p0, start1.e0, start1.about1, start1.theMethod, start1.args0, start1.below0, start1.atStart⟩
end Jvm.Pilot.@@N@@
