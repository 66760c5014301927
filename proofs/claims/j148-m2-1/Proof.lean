import JvmDerived
import JvmDerived.Pilot.@@N@@Statement
import JvmDerived.Pilot.@@N@@Code
set_option linter.unusedVariables false
set_option linter.unusedSimpArgs false
@@BLOCK:NumsL.lean.txt@@
namespace Jvm.Pilot.@@N@@
open Jvm Jvm.ClassFile Sem Op Lib Jvm.Free Jvm.Stand Jvm.LawKit Jvm.RoadKit Bundle Jvm.Pilot.@@N@@.Jvm.D
/-! small laws of this text's own: returns, lrem as %, lcmp and the branch behind it -/
section Own
variable {p : Program} {l : Launch} {e : Env} {R : Room} {s : State} {m : MethodId} {args : Array Value} {below : List Frame} {meth : Method} {c : Code} {T : State} {locs : List Loc} {cells slots : Nat}
theorem own_retI (X : Stand p l e R s m args below meth c T locs cells slots) (hx : p.tables.exec = Jvm.exec) {pc : Nat} {Ls : Array Slot} {z : Int32} {rest : List Value} (hret : meth.sig.returnType = some .int) (hd : decode c.code pc = .ok (.ireturn, 1)) {fs : List Frame}
    (hl : ∀ (f : JFrame) (acts : List Action), f.method = m → f.locked = none → f.entered = [] → (doReturn e (T.setTop f) acts (some (.int z))).1 = T.setFrames fs) : Steps p.tables e below (T.setTop (mkF m pc Ls (.int z :: rest))) (T.setFrames fs) :=
  retOut X hx hret rfl (Or.inl ⟨rfl, Or.inl rfl, z, rfl⟩) hd hl
theorem own_retJ (X : Stand p l e R s m args below meth c T locs cells slots) (hx : p.tables.exec = Jvm.exec) {pc : Nat} {Ls : Array Slot} {z : Int64} {rest : List Value} (hret : meth.sig.returnType = some .long) (hd : decode c.code pc = .ok (.lreturn, 1)) {fs : List Frame}
    (hl : ∀ (f : JFrame) (acts : List Action), f.method = m → f.locked = none → f.entered = [] → (doReturn e (T.setTop f) acts (some (.long z))).1 = T.setFrames fs) : Steps p.tables e below (T.setTop (mkF m pc Ls (.long z :: rest))) (T.setFrames fs) :=
  retOut X hx hret rfl (Or.inr (Or.inl ⟨rfl, rfl, z, rfl⟩)) hd hl
theorem own_retR (X : Stand p l e R s m args below meth c T locs cells slots) (hx : p.tables.exec = Jvm.exec) {pc : Nat} {Ls : Array Slot} {b : Addr} {rest : List Value} {t : FieldType} (hret : meth.sig.returnType = some t) (ht : t.isReference = true) (hn : narrow t (.ref b) = .ref b) (hd : decode c.code pc = .ok (.areturn, 1)) {fs : List Frame}
    (hl : ∀ (f : JFrame) (acts : List Action), f.method = m → f.locked = none → f.entered = [] → (doReturn e (T.setTop f) acts (some (.ref b))).1 = T.setFrames fs) : Steps p.tables e below (T.setTop (mkF m pc Ls (.ref b :: rest))) (T.setFrames fs) :=
  retOut X hx hret hn (Or.inr (Or.inr (Or.inr (Or.inr ⟨rfl, ht, rfl⟩)))) hd hl
theorem own_lrem_mod (x y : Int64) : x - (x / y) * y = x % y := by
  apply Int64.toInt_inj.mp
  have h1 := Int64.le_toInt (x % y)
  have h2 := Int64.toInt_lt (x % y)
  rw [Int64.toInt_sub, Int64.toInt_mul, Int64.toInt_div, Int.bmod_mul_bmod, Int.sub_bmod_bmod, Int.mul_comm (x.toInt.tdiv y.toInt), ← Int.tmod_def, ← Int64.toInt_mod]
  exact Int.bmod_eq_of_le_mul_two (by omega) (by omega)
theorem own_lremM {tb : Tables} [Ours tb] {e : Env} {below : List Frame} {T target : State} {m : MethodId} {c : Code} {g : JFrame} (h : At T m c below) (hx : tb.exec = Jvm.exec) (hg : g.method = m) {x y : Int64} {rest : List Value} (hd : decode c.code g.pc = .ok (.lrem, 1)) (hs : g.stack = .long y :: .long x :: rest) (hy : y ≠ 0)
    (hr : Steps tb e below (T.setTop { g with pc := g.pc + 1, stack := .long (x % y) :: rest }) target) : Steps tb e below (T.setTop g) target :=
  XS.lrem h hx hg hd hs hy (by rw [own_lrem_mod]; exact hr)
end Own
theorem own_hgt (z : Int32) : ifCond.holds .gt z = decide (z > 0) := rfl
theorem own_hlt (z : Int32) : ifCond.holds .lt z = decide (z < 0) := rfl
theorem own_heq (z : Int32) : ifCond.holds .eq z = (z == 0) := rfl
theorem own_hge (z : Int32) : ifCond.holds .ge z = decide (z ≥ 0) := rfl
theorem own_hle (z : Int32) : ifCond.holds .le z = decide (z ≤ 0) := rfl
theorem own_hne (z : Int32) : ifCond.holds .ne z = (z != 0) := rfl
theorem own_lc1 {x y : Int64} (h : y < x) : lcmpW x y = 1 := if_pos h
theorem own_lc0 {x y : Int64} (h : x = y) : lcmpW x y = 0 := by
  have h1 : ¬ y < x := by rw [h, Int64.lt_iff_toInt_lt]; omega
  exact (if_neg h1).trans (if_pos h)
theorem own_lcm {x y : Int64} (h : x < y) : lcmpW x y = -1 := by
  have h1 : ¬ y < x := by rw [Int64.lt_iff_toInt_lt] at *; omega
  have h2 : ¬ x = y := fun q => by rw [q, Int64.lt_iff_toInt_lt] at h; omega
  exact (if_neg h1).trans (if_neg h2)
theorem own_tri (x y : Int64) : x < y ∨ x = y ∨ y < x := by
  rw [Int64.lt_iff_toInt_lt, Int64.lt_iff_toInt_lt, ← Int64.toInt_inj]; omega
theorem own_nlt {x y : Int64} (h : x < y) : ¬ y < x ∧ ¬ x = y := by
  rw [Int64.lt_iff_toInt_lt] at *
  exact ⟨by omega, fun q => by rw [q] at h; omega⟩
theorem own_Tlt {x y : Int64} (h : x < y) : ifCond.holds .lt (lcmpW x y) = true ∧ ifCond.holds .ge (lcmpW x y) = false := by rw [own_lcm h]; decide
theorem own_Flt {x y : Int64} (h : ¬ x < y) : ifCond.holds .lt (lcmpW x y) = false ∧ ifCond.holds .ge (lcmpW x y) = true := by
  rcases own_tri x y with q | q | q
  · exact absurd q h
  · rw [own_lc0 q]; decide
  · rw [own_lc1 q]; decide
theorem own_Tgt {x y : Int64} (h : y < x) : ifCond.holds .gt (lcmpW x y) = true ∧ ifCond.holds .le (lcmpW x y) = false := by rw [own_lc1 h]; decide
theorem own_Fgt {x y : Int64} (h : ¬ y < x) : ifCond.holds .gt (lcmpW x y) = false ∧ ifCond.holds .le (lcmpW x y) = true := by
  rcases own_tri x y with q | q | q
  · rw [own_lcm q]; decide
  · rw [own_lc0 q]; decide
  · exact absurd q h
theorem own_Teq {x y : Int64} (h : x = y) : ifCond.holds .eq (lcmpW x y) = true ∧ ifCond.holds .ne (lcmpW x y) = false := by rw [own_lc0 h]; decide
theorem own_Feq {x y : Int64} (h : ¬ x = y) : ifCond.holds .eq (lcmpW x y) = false ∧ ifCond.holds .ne (lcmpW x y) = true := by
  rcases own_tri x y with q | q | q
  · rw [own_lcm q]; decide
  · exact absurd q h
  · rw [own_lc1 q]; decide
/-! arrays as functions: what place i of the array holds -/
section OwnH
variable {p : Program} {l : Launch} {e : Env} {R : Room} {s : State} {m : MethodId} {args : Array Value} {below : List Frame} {meth : Method} {c : Code} {T : State} {locs : List Loc} {cells slots : Nat} {Z : State} {h h' : Heap} {a b : Addr} {z j : Int32} {ty : FieldType} {ws : List Addr} {sl : Nat} {w : Value}
def own_AI (Z : State) (h : Heap) (a : Addr) (ty : FieldType) (z : Int32) (f : Nat → Int32) : Prop := ∃ c : Cell, Arr Z h a c ty ∧ c.slots.size = z.toNatClampNeg ∧ ¬ z < 0 ∧ ∀ i, i < c.slots.size → c.slots[i]? = some (.int (f i))
def own_AJ (Z : State) (h : Heap) (a : Addr) (z : Int32) (f : Nat → Int64) : Prop := ∃ c : Cell, Arr Z h a c .long ∧ c.slots.size = z.toNatClampNeg ∧ ¬ z < 0 ∧ ∀ i, i < c.slots.size → c.slots[i]? = some (.long (f i))
def own_upd {α : Type} (f : Nat → α) (k : Nat) (v : α) : Nat → α := fun i => if i = k then v else f i
theorem own_slots (c : Cell) (k : Nat) (v : Value) : (c.setSlot k v).slots = c.slots.setIfInBounds k v := rfl
theorem own_AI.ext {f : Nat → Int32} (A : own_AI Z h a ty z f) (E : Ext h h') : own_AI Z h' a ty z f := by obtain ⟨c, A1, r⟩ := A; exact ⟨c, A1.ext E, r⟩
theorem own_AI.other {f : Nat → Int32} (A : own_AI Z h a ty z f) (W : Wr h h' b sl w) (q : a ≠ b) : own_AI Z h' a ty z f := by obtain ⟨c, A1, r⟩ := A; exact ⟨c, A1.other W q, r⟩
theorem own_AI.keep {f : Nat → Int32} (A : own_AI Z h a ty z f) (K : Keep h h' ws) (q : a ∉ ws) : own_AI Z h' a ty z f := by obtain ⟨c, A1, r⟩ := A; exact ⟨c, ⟨K.2.1 a c A1.1 q, A1.2⟩, r⟩
theorem own_AI.lt {f : Nat → Int32} (A : own_AI Z h a ty z f) : a < h.size := by obtain ⟨c, A1, -⟩ := A; exact A1.lt
theorem own_AI.set {f : Nat → Int32} {k : Nat} {v : Int32} (A : own_AI Z h a ty z f) (W : Wr h h' a k (.int v)) : own_AI Z h' a ty z (own_upd f k v) := by
  obtain ⟨c, A1, S, M, H⟩ := A
  refine ⟨_, A1.same W, by rw [sz_set]; exact S, M, fun i hi => ?_⟩
  rw [sz_set] at hi
  rw [own_slots]
  by_cases q : i = k
  · subst q
    rw [Array.getElem?_setIfInBounds_self_of_lt hi]
    exact congrArg (fun u => some (Value.int u)) (if_pos rfl).symm
  · rw [Array.getElem?_setIfInBounds_ne (fun u => q u.symm), H i hi]
    exact congrArg (fun u => some (Value.int u)) (if_neg q).symm
theorem own_AI.new {k : ClassId} (A : Arr Z h a (newA k ty z) ty) (q : ¬ z < 0) (hd : defaultValue ty = .int 0) : own_AI Z h a ty z (fun _ => 0) := by
  obtain ⟨c, A1, -, S, M, H, -⟩ := Arv.new A q
  refine ⟨c, A1, S, M, fun i hi => ?_⟩
  rw [H i hi, ← hd]; rfl
theorem own_AI.congr {f f' : Nat → Int32} (A : own_AI Z h a ty z f) (q : ∀ i, i < z.toNatClampNeg → f i = f' i) : own_AI Z h a ty z f' := by
  obtain ⟨c, A1, S, M, H⟩ := A
  exact ⟨c, A1, S, M, fun i hi => by rw [H i hi, q i (S ▸ hi)]⟩
theorem own_AJ.ext {f : Nat → Int64} (A : own_AJ Z h a z f) (E : Ext h h') : own_AJ Z h' a z f := by obtain ⟨c, A1, r⟩ := A; exact ⟨c, A1.ext E, r⟩
theorem own_AJ.other {f : Nat → Int64} (A : own_AJ Z h a z f) (W : Wr h h' b sl w) (q : a ≠ b) : own_AJ Z h' a z f := by obtain ⟨c, A1, r⟩ := A; exact ⟨c, A1.other W q, r⟩
theorem own_AJ.keep {f : Nat → Int64} (A : own_AJ Z h a z f) (K : Keep h h' ws) (q : a ∉ ws) : own_AJ Z h' a z f := by obtain ⟨c, A1, r⟩ := A; exact ⟨c, ⟨K.2.1 a c A1.1 q, A1.2⟩, r⟩
theorem own_AJ.lt {f : Nat → Int64} (A : own_AJ Z h a z f) : a < h.size := by obtain ⟨c, A1, -⟩ := A; exact A1.lt
theorem own_AJ.set {f : Nat → Int64} {k : Nat} {v : Int64} (A : own_AJ Z h a z f) (W : Wr h h' a k (.long v)) : own_AJ Z h' a z (own_upd f k v) := by
  obtain ⟨c, A1, S, M, H⟩ := A
  refine ⟨_, A1.same W, by rw [sz_set]; exact S, M, fun i hi => ?_⟩
  rw [sz_set] at hi
  rw [own_slots]
  by_cases q : i = k
  · subst q
    rw [Array.getElem?_setIfInBounds_self_of_lt hi]
    exact congrArg (fun u => some (Value.long u)) (if_pos rfl).symm
  · rw [Array.getElem?_setIfInBounds_ne (fun u => q u.symm), H i hi]
    exact congrArg (fun u => some (Value.long u)) (if_neg q).symm
theorem own_AJ.new {k : ClassId} (A : Arr Z h a (newA k .long z) .long) (q : ¬ z < 0) : own_AJ Z h a z (fun _ => 0) := by
  obtain ⟨c, A1, -, S, M, H, -⟩ := Arv.new A q
  refine ⟨c, A1, S, M, fun i hi => ?_⟩
  rw [H i hi]; rfl
theorem own_ldI {f : Nat → Int32} (X : Stand p l e R s m args below meth c T locs cells slots) (hx : p.tables.exec = Jvm.exec) (hZ : Z.Warmed39 s.vm) (eT : T.heap = h) (A : own_AI Z h a .int z f) (h0 : ¬ j < 0) (h1 : j < z) {g : JFrame} (hg : g.method = m) {rest : List Value} (hs : g.stack = .int j :: .ref a :: rest) (hd : decode c.code g.pc = .ok (.iaload, 1)) :
    ∀ t, Steps p.tables e below (T.setTop { g with pc := g.pc + 1, stack := .int (f j.toNatClampNeg) :: rest }) t → Steps p.tables e below (T.setTop g) t := by
  obtain ⟨c, A1, S, M, H⟩ := A
  have hin := inb_of S ⟨h0, h1⟩
  exact fun t k => X.iaload hx (by rw [eT]; exact A1.1) (State.isArrayOf_alike hZ.alike A1.2.1) A1.2.2 hin (H _ (Nat.lt_of_not_le fun q => hin (Or.inr q))) hg hs hd t k
theorem own_ldB {f : Nat → Int32} (X : Stand p l e R s m args below meth c T locs cells slots) (hx : p.tables.exec = Jvm.exec) (hZ : Z.Warmed39 s.vm) (eT : T.heap = h) (A : own_AI Z h a .byte z f) (h0 : ¬ j < 0) (h1 : j < z) {g : JFrame} (hg : g.method = m) {rest : List Value} (hs : g.stack = .int j :: .ref a :: rest) (hd : decode c.code g.pc = .ok (.baload, 1)) :
    ∀ t, Steps p.tables e below (T.setTop { g with pc := g.pc + 1, stack := .int (f j.toNatClampNeg) :: rest }) t → Steps p.tables e below (T.setTop g) t := by
  obtain ⟨c, A1, S, M, H⟩ := A
  have hin := inb_of S ⟨h0, h1⟩
  exact fun t k => X.baloadBytes hx (by rw [eT]; exact A1.1) (State.isArrayOf_alike hZ.alike A1.2.1) A1.2.2 hin (H _ (Nat.lt_of_not_le fun q => hin (Or.inr q))) hg hs hd t k
theorem own_ldJ {f : Nat → Int64} (X : Stand p l e R s m args below meth c T locs cells slots) (hx : p.tables.exec = Jvm.exec) (hZ : Z.Warmed39 s.vm) (eT : T.heap = h) (A : own_AJ Z h a z f) (h0 : ¬ j < 0) (h1 : j < z) {g : JFrame} (hg : g.method = m) {rest : List Value} (hs : g.stack = .int j :: .ref a :: rest) (hd : decode c.code g.pc = .ok (.laload, 1)) :
    ∀ t, Steps p.tables e below (T.setTop { g with pc := g.pc + 1, stack := .long (f j.toNatClampNeg) :: rest }) t → Steps p.tables e below (T.setTop g) t := by
  obtain ⟨c, A1, S, M, H⟩ := A
  have hin := inb_of S ⟨h0, h1⟩
  exact fun t k => X.laload hx (by rw [eT]; exact A1.1) (State.isArrayOf_alike hZ.alike A1.2.1) A1.2.2 hin (H _ (Nat.lt_of_not_le fun q => hin (Or.inr q))) hg hs hd t k
theorem own_lenI {f : Nat → Int32} (X : Stand p l e R s m args below meth c T locs cells slots) (hx : p.tables.exec = Jvm.exec) (hZ : Z.Warmed39 s.vm) (eT : T.heap = h) (A : own_AI Z h a ty z f) {g : JFrame} (hg : g.method = m) {rest : List Value} (hs : g.stack = .ref a :: rest) (hd : decode c.code g.pc = .ok (.arraylength, 1)) :
    ∀ t, Steps p.tables e below (T.setTop { g with pc := g.pc + 1, stack := .int z :: rest }) t → Steps p.tables e below (T.setTop g) t := by
  obtain ⟨c, A1, S, M, H⟩ := A
  exact fun t k => X.arraylength hx (by rw [eT]; exact A1.1) (State.isArrayOf_alike hZ.alike A1.2.1) hg hs hd t (by rw [len_of S M]; exact k)
theorem own_lenJ {f : Nat → Int64} (X : Stand p l e R s m args below meth c T locs cells slots) (hx : p.tables.exec = Jvm.exec) (hZ : Z.Warmed39 s.vm) (eT : T.heap = h) (A : own_AJ Z h a z f) {g : JFrame} (hg : g.method = m) {rest : List Value} (hs : g.stack = .ref a :: rest) (hd : decode c.code g.pc = .ok (.arraylength, 1)) :
    ∀ t, Steps p.tables e below (T.setTop { g with pc := g.pc + 1, stack := .int z :: rest }) t → Steps p.tables e below (T.setTop g) t := by
  obtain ⟨c, A1, S, M, H⟩ := A
  exact fun t k => X.arraylength hx (by rw [eT]; exact A1.1) (State.isArrayOf_alike hZ.alike A1.2.1) hg hs hd t (by rw [len_of S M]; exact k)
theorem own_stI {f : Nat → Int32} {x : Int32} (X : Stand p l e R s m args below meth c T locs cells slots) (hx : p.tables.exec = Jvm.exec) (hZ : Z.Warmed39 s.vm) (eT : T.heap = h) (A : own_AI Z h a .int z f) (h0 : ¬ j < 0) (h1 : j < z) {g : JFrame} (hg : g.method = m) {rest : List Value} (hs : g.stack = .int x :: .int j :: .ref a :: rest) (hd : decode c.code g.pc = .ok (.iastore, 1)) :
    ∃ T' h', Stand p l e R s m args below meth c T' (locs ++ [⟨a, j.toNatClampNeg⟩]) cells slots ∧ T'.heap = h' ∧ Wr h h' a j.toNatClampNeg (.int x) ∧ own_AI Z h' a .int z (own_upd f j.toNatClampNeg x) ∧ ∀ t, Steps p.tables e below (T'.setTop { g with pc := g.pc + 1, stack := rest }) t → Steps p.tables e below (T.setTop g) t := by
  obtain ⟨c, A1, S, M, H⟩ := A
  obtain ⟨T', h', X', e', W, st⟩ := stI X hx hZ eT A1 (inb_of S ⟨h0, h1⟩) hg hs hd
  exact ⟨T', h', X', e', W, own_AI.set ⟨c, A1, S, M, H⟩ W, st⟩
theorem own_stB {f : Nat → Int32} {x : Int32} (X : Stand p l e R s m args below meth c T locs cells slots) (hx : p.tables.exec = Jvm.exec) (hZ : Z.Warmed39 s.vm) (eT : T.heap = h) (A : own_AI Z h a .byte z f) (h0 : ¬ j < 0) (h1 : j < z) {g : JFrame} (hg : g.method = m) {rest : List Value} (hs : g.stack = .int x :: .int j :: .ref a :: rest) (hd : decode c.code g.pc = .ok (.bastore, 1)) :
    ∃ T' h', Stand p l e R s m args below meth c T' (locs ++ [⟨a, j.toNatClampNeg⟩]) cells slots ∧ T'.heap = h' ∧ Wr h h' a j.toNatClampNeg (.int (nar .byte x)) ∧ own_AI Z h' a .byte z (own_upd f j.toNatClampNeg (nar .byte x)) ∧ ∀ t, Steps p.tables e below (T'.setTop { g with pc := g.pc + 1, stack := rest }) t → Steps p.tables e below (T.setTop g) t := by
  obtain ⟨c, A1, S, M, H⟩ := A
  obtain ⟨T', h', X', e', W, st⟩ := stB X hx hZ eT A1 (inb_of S ⟨h0, h1⟩) hg hs hd
  exact ⟨T', h', X', e', W, own_AI.set ⟨c, A1, S, M, H⟩ W, st⟩
theorem own_stJ {f : Nat → Int64} {x : Int64} (X : Stand p l e R s m args below meth c T locs cells slots) (hx : p.tables.exec = Jvm.exec) (hZ : Z.Warmed39 s.vm) (eT : T.heap = h) (A : own_AJ Z h a z f) (h0 : ¬ j < 0) (h1 : j < z) {g : JFrame} (hg : g.method = m) {rest : List Value} (hs : g.stack = .long x :: .int j :: .ref a :: rest) (hd : decode c.code g.pc = .ok (.lastore, 1)) :
    ∃ T' h', Stand p l e R s m args below meth c T' (locs ++ [⟨a, j.toNatClampNeg⟩]) cells slots ∧ T'.heap = h' ∧ Wr h h' a j.toNatClampNeg (.long x) ∧ own_AJ Z h' a z (own_upd f j.toNatClampNeg x) ∧ ∀ t, Steps p.tables e below (T'.setTop { g with pc := g.pc + 1, stack := rest }) t → Steps p.tables e below (T.setTop g) t := by
  obtain ⟨c, A1, S, M, H⟩ := A
  obtain ⟨T', h', X', e', W, st⟩ := stJ X hx hZ eT A1 (inb_of S ⟨h0, h1⟩) hg hs hd
  exact ⟨T', h', X', e', W, own_AJ.set ⟨c, A1, S, M, H⟩ W, st⟩
end OwnH
theorem own_clamp {n : Nat} (h : n < 2147483648) : (Int32.ofNat n).toNatClampNeg = n := by
  have e : (Int32.ofNat n).toInt = n := Int32.toInt_ofNat_of_lt (by omega)
  show (Int32.ofNat n).toInt.toNat = n
  rw [e]; rfl
theorem own_ofNat {n : Nat} (h : n < 2147483648) : (Int32.ofNat n).toInt = n := Int32.toInt_ofNat_of_lt (by omega)
theorem own_nn {n : Nat} (h : n < 2147483648) : ¬ Int32.ofNat n < 0 := by
  have e0 : (0 : Int32).toInt = 0 := by decide
  rw [Int32.lt_iff_toInt_lt, own_ofNat h, e0]; omega
theorem own_ltN {i n : Nat} (h : i < n) (hn : n < 2147483648) : Int32.ofNat i < Int32.ofNat n := by
  rw [Int32.lt_iff_toInt_lt, own_ofNat (by omega), own_ofNat hn]; omega
theorem own_succ (i : Nat) : Int32.ofNat i + (1 : Int32) = Int32.ofNat (i + 1) := (Int32.ofNat_add i 1).symm
/-! body 4: toUnsignedInt -/
theorem d4_0 : decode jdk_2056_method_24_code 0 = .ok (.iload_n 0, 1) := by decide +kernel
theorem d4_1 : decode jdk_2056_method_24_code 1 = .ok (.sipush 255, 3) := by decide +kernel
theorem d4_4 : decode jdk_2056_method_24_code 4 = .ok (.iand, 1) := by decide +kernel
theorem d4_5 : decode jdk_2056_method_24_code 5 = .ok (.ireturn, 1) := by decide +kernel
theorem pn4 : plainName "java/lang/Byte" = true := by first | (simp [plainName, overriddenIn]; done) | decide +kernel
theorem ef4 (m : MethodId) (p1 : Int32) : entryFrame m #[(.int p1)] 1 = mkF m 0 #[.val (.int p1)] [] := by first | (simp [entryFrame, mkF, argsToLocals, Value.category]; done) | rfl
def fn4 (p1 : Int32) : Int32 :=
  (p1 &&& (255 : Int32))
def Q4 (Z : State) (p1 : Int32) (h0 : Heap) (n0 : Nat) (v : Option Value) (h : Heap) (L : List Loc) : Prop := v = some (.int (fn4 p1)) ∧ Fr n0 L ∧ h = h0
set_option maxRecDepth 65536 in
set_option maxHeartbeats 40000000 in
theorem rm4 (l : Launch) (Z : State) (a0 : Array Value) (hw : ∀ d ∈ tables_1, d.before a0 Z = true) (ws : List Jvm.Cond) (p1 : Int32) (h0 : Heap) (n0 : Nat) (Z0 : n0 ≤ h0.size) :
    MetFree l (⟨"java/lang/Byte", "toUnsignedInt", "(B)I"⟩ : MethodName) (head1 (Jvm.Cond.code (⟨"java/lang/Byte", "toUnsignedInt", "(B)I"⟩ : MethodName) jdk_2056_method_24_code 1 (some .int) :: ws) ({ frames := 0, cells := 0, slots := 0, locals := 0 } : Room)) (fun a U => a = #[(.int p1)] ∧ Z.Warmed39 U.vm ∧ U.heap = h0) (fun _ _ _ _ _ => True) (fun _ U o U' => ∃ v L, o = .returned v ∧ Q4 Z p1 h0 n0 v U'.heap L ∧ FrameEnd U o U' L ({ frames := 0, cells := 0, slots := 0, locals := 0 } : Room).cells ({ frames := 0, cells := 0, slots := 0, locals := 0 } : Room).slots) := by
  refine MetFree.of_bodySF (plainFor_of_name pn4) hisR ?_
  intro p e s m args below meth c s₁ Bd hml0 hP hK
  obtain ⟨rfl, hZ, hh⟩ := hP
  have hx := Bd.exec
  have hby := Bd.bytes
  have hml : c.maxLocals = 1 := hml0
  have hown : s.vm.findClass "java/lang/Byte" = some m.cls := findClass_of_methodNamed Bd.named
  have hnm := (name_of_methodNamed Bd.named Bd.method).1
  have X0 : Stand p l e ({ frames := 0, cells := 0, slots := 0, locals := 0 } : Room) s m #[(.int p1)] below meth c s₁ [] 0 0 := Stand.of_body Bd
  have e0 : s₁.heap = h0 := by rw [← hh, Bd.state]; rfl
  have N0 := Fr.nil n0
  have pre0 : ∀ t, Steps p.tables e below (s₁.setTop (mkF m 0 #[.val (.int p1)] [])) t → Steps p.tables e below (s₁.setTop (entryFrame m #[(.int p1)] 1)) t := fun t k => castTop (ef4 m p1) k
  have pre1 : ∀ t, Steps p.tables e below (s₁.setTop (mkF m 5 #[.val (.int p1)] [(.int (p1 &&& (255 : Int32)))])) t → Steps p.tables e below (s₁.setTop (entryFrame m #[(.int p1)] 1)) t := by
    intro t k
    refine pre0 t ?_
    show Steps p.tables e below (s₁.setTop (mkF m 0 #[.val (.int p1)] [])) _
    refine XS.iloadN X0.here hx rfl (hb hby d4_0) rfl ?_
    show Steps p.tables e below (s₁.setTop (mkF m 1 #[.val (.int p1)] [(.int p1)])) _
    refine XS.sipush X0.here hx rfl (hb hby d4_1) ?_
    show Steps p.tables e below (s₁.setTop (mkF m 4 #[.val (.int p1)] [(.int (255 : Int32)), (.int p1)])) _
    refine XS.iand X0.here hx rfl (hb hby d4_4) rfl ?_
    show Steps p.tables e below (s₁.setTop (mkF m 5 #[.val (.int p1)] [(.int (p1 &&& (255 : Int32)))])) _
    exact k
  obtain ⟨fs, hr, hrun, hended, hW, hsame⟩ := X0.leave (v := some (.int (p1 &&& (255 : Int32)))) (fun h => by rw [Bd.returns] at h; cases h)
  refine ⟨_, _, pre1 _ ?_, hrun, hended, _, _, rfl, ?_, ⟨_, rfl⟩, hW, hsame.mono (by decide) (by decide)⟩
  · show Steps p.tables e below (s₁.setTop (mkF m 5 #[.val (.int p1)] [(.int (p1 &&& (255 : Int32)))])) _
    exact own_retI X0 hx Bd.returns (hb hby d4_5) hr
  · show Q4 Z p1 h0 n0 _ s₁.heap _
    rw [e0]
    refine ⟨?_, N0, rfl⟩
    simp only [fn4]
/-! body 1: init -/
theorem d1_0 : decode prog_73_method_1_code 0 = .ok (.aload_n 0, 1) := by decide +kernel
theorem d1_1 : decode prog_73_method_1_code 1 = .ok (.invokespecial 1, 3) := by decide +kernel
theorem d1_4 : decode prog_73_method_1_code 4 = .ok (.aload_n 0, 1) := by decide +kernel
theorem d1_5 : decode prog_73_method_1_code 5 = .ok (.iload_n 2, 1) := by decide +kernel
theorem d1_6 : decode prog_73_method_1_code 6 = .ok (.sipush 256, 3) := by decide +kernel
theorem d1_9 : decode prog_73_method_1_code 9 = .ok (.if_icmp .gt 9, 3) := by decide +kernel
theorem d1_12 : decode prog_73_method_1_code 12 = .ok (.iload_n 1, 1) := by decide +kernel
theorem d1_13 : decode prog_73_method_1_code 13 = .ok (.newarray .byte, 2) := by decide +kernel
theorem d1_15 : decode prog_73_method_1_code 15 = .ok (.goto 4, 3) := by decide +kernel
theorem d1_19 : decode prog_73_method_1_code 19 = .ok (.putfield 9, 3) := by decide +kernel
theorem d1_22 : decode prog_73_method_1_code 22 = .ok (.aload_n 0, 1) := by decide +kernel
theorem d1_23 : decode prog_73_method_1_code 23 = .ok (.aload_n 0, 1) := by decide +kernel
theorem d1_24 : decode prog_73_method_1_code 24 = .ok (.getfield 9, 3) := by decide +kernel
theorem d1_27 : decode prog_73_method_1_code 27 = .ok (.ifnonnull 9, 3) := by decide +kernel
theorem d1_36 : decode prog_73_method_1_code 36 = .ok (.aconst_null, 1) := by decide +kernel
theorem d1_37 : decode prog_73_method_1_code 37 = .ok (.putfield 13, 3) := by decide +kernel
theorem d1_40 : decode prog_73_method_1_code 40 = .ok (.return_, 1) := by decide +kernel
theorem pn1s : plainName "com/example/ballast/ballast/model/Ports" = true := by first | (simp [plainName, overriddenIn]; done) | decide +kernel
theorem ef1s (m : MethodId) (a1 : Addr) (p2 : Int32) (p3 : Int32) : entryFrame m #[(.ref a1), (.int p2), (.int p3)] 3 = mkF m 0 #[.val (.ref a1), .val (.int p2), .val (.int p3)] [] := by first | (simp [entryFrame, mkF, argsToLocals, Value.category]; done) | rfl
def Q1s (Z : State) (a1 : Addr) (p2 : Int32) (p3 : Int32) (h0 : Heap) (n0 : Nat) (v : Option Value) (h : Heap) (L : List Loc) : Prop := ∃ b : Addr, v = none ∧ Fr n0 L ∧ Keep h0 h [a1] ∧ n0 ≤ b ∧ a1 ≠ b ∧ Exa Z h a1 "com/example/ballast/ballast/model/Ports" ∧ Fld Z h a1 "com/example/ballast/ballast/model/Ports" "small" "[B" (.ref b) ∧ Fld Z h a1 "com/example/ballast/ballast/model/Ports" "large" "[I" .null ∧ own_AI Z h b .byte p2 (fun _ => 0)
set_option maxRecDepth 65536 in
set_option maxHeartbeats 40000000 in
theorem rm1s (l : Launch) (Z : State) (a0 : Array Value) (hw : ∀ d ∈ tables_1, d.before a0 Z = true) (ws : List Jvm.Cond) (a1 : Addr) (p2 : Int32) (p3 : Int32) (h0 : Heap) (n0 : Nat) (Z0 : n0 ≤ h0.size) (E_a1 : Exa Z h0 a1 "com/example/ballast/ballast/model/Ports") (F1 : Fld Z h0 a1 "com/example/ballast/ballast/model/Ports" "small" "[B" .null) (F2 : Fld Z h0 a1 "com/example/ballast/ballast/model/Ports" "large" "[I" .null) (g_a1 : n0 ≤ a1) (hp2 : ¬ p2 < 0) (hcap : p2.toNatClampNeg ≤ 8) (hc9 : ¬ (256 : Int32) < p3) :
    MetFree l (⟨"com/example/ballast/ballast/model/Ports", "<init>", "(II)V"⟩ : MethodName) (head1 (Jvm.Cond.code (⟨"com/example/ballast/ballast/model/Ports", "<init>", "(II)V"⟩ : MethodName) prog_73_method_1_code 3 none :: ws) ({ frames := 1, cells := 1, slots := 8, locals := 12 } : Room)) (fun a U => a = #[(.ref a1), (.int p2), (.int p3)] ∧ Z.Warmed39 U.vm ∧ U.heap = h0) (fun _ _ _ _ _ => True) (fun _ U o U' => ∃ v L, o = .returned v ∧ Q1s Z a1 p2 p3 h0 n0 v U'.heap L ∧ FrameEnd U o U' L ({ frames := 1, cells := 1, slots := 8, locals := 12 } : Room).cells ({ frames := 1, cells := 1, slots := 8, locals := 12 } : Room).slots) := by
  refine MetFree.of_bodySF (plainFor_of_name pn1s) hisR ?_
  intro p e s m args below meth c s₁ Bd hml0 hP hK
  obtain ⟨rfl, hZ, hh⟩ := hP
  have hx := Bd.exec
  have hby := Bd.bytes
  have hml : c.maxLocals = 3 := hml0
  have hown : s.vm.findClass "com/example/ballast/ballast/model/Ports" = some m.cls := findClass_of_methodNamed Bd.named
  have hnm := (name_of_methodNamed Bd.named Bd.method).1
  have X0 : Stand p l e ({ frames := 1, cells := 1, slots := 8, locals := 12 } : Room) s m #[(.ref a1), (.int p2), (.int p3)] below meth c s₁ [] 0 0 := Stand.of_body Bd
  have e0 : s₁.heap = h0 := by rw [← hh, Bd.state]; rfl
  have N0 := Fr.nil n0
  have pre0 : ∀ t, Steps p.tables e below (s₁.setTop (mkF m 0 #[.val (.ref a1), .val (.int p2), .val (.int p3)] [])) t → Steps p.tables e below (s₁.setTop (entryFrame m #[(.ref a1), (.int p2), (.int p3)] 3)) t := fun t k => castTop (ef1s m a1 p2 p3) k
  have K0 := Keep.refl h0 [a1]
  have pre1 : ∀ t, Steps p.tables e below (s₁.setTop (mkF m 1 #[.val (.ref a1), .val (.int p2), .val (.int p3)] [(.ref a1)])) t → Steps p.tables e below (s₁.setTop (entryFrame m #[(.ref a1), (.int p2), (.int p3)] 3)) t := by
    intro t k
    refine pre0 t ?_
    show Steps p.tables e below (s₁.setTop (mkF m 0 #[.val (.ref a1), .val (.int p2), .val (.int p3)] [])) _
    refine XS.aloadN X0.here hx rfl (hb hby d1_0) rfl rfl ?_
    show Steps p.tables e below (s₁.setTop (mkF m 1 #[.val (.ref a1), .val (.int p2), .val (.int p3)] [(.ref a1)])) _
    exact k
  obtain ⟨T2, X2, e2, st2⟩ := initO X0 hx hZ hown (hw _ (List.mem_of_getElem? (i := 7) rfl)) (hw _ (List.mem_of_getElem? (i := 8) rfl)) (hw _ (List.mem_of_getElem? (i := 9) rfl)) e0 (g := (mkF m 1 #[.val (.ref a1), .val (.int p2), .val (.int p3)] [(.ref a1)])) rfl (by rw [hml]; rfl) rfl (hb hby d1_1) (by decide) (W := 0) (by show 2 * 0 + _ ≤ _; exact Nat.le_of_eq rfl) (by decide)
  have pre2 : ∀ t, Steps p.tables e below (T2.setTop (mkF m 4 #[.val (.ref a1), .val (.int p2), .val (.int p3)] [])) t → Steps p.tables e below (s₁.setTop (entryFrame m #[(.ref a1), (.int p2), (.int p3)] 3)) t := fun t k => pre1 t (st2 _ k)
  have pre3 : ∀ t, Steps p.tables e below (T2.setTop (mkF m 13 #[.val (.ref a1), .val (.int p2), .val (.int p3)] [(.int p2), (.ref a1)])) t → Steps p.tables e below (s₁.setTop (entryFrame m #[(.ref a1), (.int p2), (.int p3)] 3)) t := by
    intro t k
    refine pre2 t ?_
    refine XS.aloadN X2.here hx rfl (hb hby d1_4) rfl rfl ?_
    show Steps p.tables e below (T2.setTop (mkF m 5 #[.val (.ref a1), .val (.int p2), .val (.int p3)] [(.ref a1)])) _
    refine XS.iloadN X2.here hx rfl (hb hby d1_5) rfl ?_
    show Steps p.tables e below (T2.setTop (mkF m 6 #[.val (.ref a1), .val (.int p2), .val (.int p3)] [(.int p3), (.ref a1)])) _
    refine XS.sipush X2.here hx rfl (hb hby d1_6) ?_
    show Steps p.tables e below (T2.setTop (mkF m 9 #[.val (.ref a1), .val (.int p2), .val (.int p3)] [(.int (256 : Int32)), (.int p3), (.ref a1)])) _
    refine XS.icmpNo X2.here hx rfl (hb hby d1_9) rfl (flt hc9).2.2.1 ?_
    show Steps p.tables e below (T2.setTop (mkF m 12 #[.val (.ref a1), .val (.int p2), .val (.int p3)] [(.ref a1)])) _
    refine XS.iloadN X2.here hx rfl (hb hby d1_12) rfl ?_
    show Steps p.tables e below (T2.setTop (mkF m 13 #[.val (.ref a1), .val (.int p2), .val (.int p3)] [(.int p2), (.ref a1)])) _
    exact k
  obtain ⟨T4, h4, k4, X4, e4, E4, A4, st4⟩ := newP X2 hx hZ (hw _ (List.mem_of_getElem? (i := 10) rfl)) e2 (g := (mkF m 13 #[.val (.ref a1), .val (.int p2), .val (.int p3)] [(.int p2), (.ref a1)])) rfl (hb hby d1_13) rfl hp2 (cap := 8) hcap (by decide) (by decide) (by decide)
  obtain ⟨b4, g4⟩ : ∃ z, z = h0.size := ⟨_, rfl⟩
  rw [← g4] at A4 st4
  have ne4_a1 : a1 ≠ b4 := Nat.ne_of_lt (Nat.lt_of_lt_of_le F1.lt (Nat.le_of_eq g4.symm))
  have gg4 : n0 ≤ b4 := Nat.le_trans Z0 (Nat.le_of_eq g4.symm)
  have sz4 : h0.size ≤ b4 := Nat.le_trans K0.1 (Nat.le_of_eq g4.symm)
  have F4_0 := F1.ext E4
  have F4_1 := F2.ext E4
  have F4_2 := E_a1.ext E4
  have Z4 : n0 ≤ h4.size := Nat.le_trans Z0 E4.1
  have K4 := Keep.ext K0 E4
  have V4 : own_AI Z h4 b4 .byte p2 (fun _ => 0) := own_AI.new A4 hp2 rfl
  have pre4 : ∀ t, Steps p.tables e below (T4.setTop (mkF m 15 #[.val (.ref a1), .val (.int p2), .val (.int p3)] [(.ref b4), (.ref a1)])) t → Steps p.tables e below (s₁.setTop (entryFrame m #[(.ref a1), (.int p2), (.int p3)] 3)) t := fun t k => pre3 t (st4 _ k)
  have pre5 : ∀ t, Steps p.tables e below (T4.setTop (mkF m 19 #[.val (.ref a1), .val (.int p2), .val (.int p3)] [(.ref b4), (.ref a1)])) t → Steps p.tables e below (s₁.setTop (entryFrame m #[(.ref a1), (.int p2), (.int p3)] 3)) t := by
    intro t k
    refine pre4 t ?_
    refine XS.goto X4.here hx rfl (pc0 := 15) (pc' := 19) rfl (hb hby d1_15) (by decide) (by decide) ?_
    show Steps p.tables e below (T4.setTop (mkF m 19 #[.val (.ref a1), .val (.int p2), .val (.int p3)] [(.ref b4), (.ref a1)])) _
    exact k
  obtain ⟨T6, h6, X6, e6, W6, st6⟩ := putF X4 hx hZ hown (host := "") (Or.inl (hw _ (List.mem_of_getElem? (i := 11) rfl))) Via.refl e4 F4_0 F4_2 (Or.inr ⟨(hw _ (List.mem_of_getElem? (i := 12) rfl)), rfl, hnm⟩) (hw _ (List.mem_of_getElem? (i := 2) rfl)) (ty := (.array .byte)) (by decide) rfl rfl (g := (mkF m 19 #[.val (.ref a1), .val (.int p2), .val (.int p3)] [(.ref b4), (.ref a1)])) rfl rfl (hb hby d1_19)
  have F6_0 := F4_0.same W6
  have F6_1 := F4_1.other W6 (Or.inr (slot_ne (Or.inr (hw _ (List.mem_of_getElem? (i := 14) rfl))) (Or.inr (hw _ (List.mem_of_getElem? (i := 12) rfl))) (by decide) (t := (.array .int)) (t' := (.array .byte)) (by decide) (by decide)))
  have F6_2 := F4_2.wr W6
  have F6_3 := V4.other W6 (Ne.symm ne4_a1)
  have Z6 : n0 ≤ h6.size := Nat.le_trans Z4 (Keep.of_wr W6).1
  have K6 := Keep.wr K4 W6 (Or.inl (List.mem_of_getElem? (i := 0) rfl))
  have N6 := Fr.snoc X6 N0 g_a1
  have pre6 : ∀ t, Steps p.tables e below (T6.setTop (mkF m 22 #[.val (.ref a1), .val (.int p2), .val (.int p3)] [])) t → Steps p.tables e below (s₁.setTop (entryFrame m #[(.ref a1), (.int p2), (.int p3)] 3)) t := fun t k => pre5 t (st6 _ k)
  have pre7 : ∀ t, Steps p.tables e below (T6.setTop (mkF m 24 #[.val (.ref a1), .val (.int p2), .val (.int p3)] [(.ref a1), (.ref a1)])) t → Steps p.tables e below (s₁.setTop (entryFrame m #[(.ref a1), (.int p2), (.int p3)] 3)) t := by
    intro t k
    refine pre6 t ?_
    refine XS.aloadN X6.here hx rfl (hb hby d1_22) rfl rfl ?_
    show Steps p.tables e below (T6.setTop (mkF m 23 #[.val (.ref a1), .val (.int p2), .val (.int p3)] [(.ref a1)])) _
    refine XS.aloadN X6.here hx rfl (hb hby d1_23) rfl rfl ?_
    show Steps p.tables e below (T6.setTop (mkF m 24 #[.val (.ref a1), .val (.int p2), .val (.int p3)] [(.ref a1), (.ref a1)])) _
    exact k
  obtain ⟨T8, X8, e8, st8⟩ := getF X6 hx hZ hown (host := "") (Or.inl (hw _ (List.mem_of_getElem? (i := 11) rfl))) Via.refl e6 F6_0 (g := (mkF m 24 #[.val (.ref a1), .val (.int p2), .val (.int p3)] [(.ref a1), (.ref a1)])) rfl rfl (hb hby d1_24)
  have pre8 : ∀ t, Steps p.tables e below (T8.setTop (mkF m 27 #[.val (.ref a1), .val (.int p2), .val (.int p3)] [(.ref b4), (.ref a1)])) t → Steps p.tables e below (s₁.setTop (entryFrame m #[(.ref a1), (.int p2), (.int p3)] 3)) t := fun t k => pre7 t (st8 _ k)
  have pre9 : ∀ t, Steps p.tables e below (T8.setTop (mkF m 37 #[.val (.ref a1), .val (.int p2), .val (.int p3)] [.null, (.ref a1)])) t → Steps p.tables e below (s₁.setTop (entryFrame m #[(.ref a1), (.int p2), (.int p3)] 3)) t := by
    intro t k
    refine pre8 t ?_
    refine XS.ifnonnullYes X8.here hx rfl (pc0 := 27) (pc' := 36) rfl (hb hby d1_27) rfl (by decide) (by decide) ?_
    show Steps p.tables e below (T8.setTop (mkF m 36 #[.val (.ref a1), .val (.int p2), .val (.int p3)] [(.ref a1)])) _
    refine XS.aconstNull X8.here hx rfl (hb hby d1_36) ?_
    show Steps p.tables e below (T8.setTop (mkF m 37 #[.val (.ref a1), .val (.int p2), .val (.int p3)] [.null, (.ref a1)])) _
    exact k
  obtain ⟨T10, h10, X10, e10, W10, st10⟩ := putF X8 hx hZ hown (host := "") (Or.inl (hw _ (List.mem_of_getElem? (i := 13) rfl))) Via.refl e8 F6_1 F6_2 (Or.inr ⟨(hw _ (List.mem_of_getElem? (i := 14) rfl)), rfl, hnm⟩) (hw _ (List.mem_of_getElem? (i := 2) rfl)) (ty := (.array .int)) (by decide) rfl rfl (g := (mkF m 37 #[.val (.ref a1), .val (.int p2), .val (.int p3)] [.null, (.ref a1)])) rfl rfl (hb hby d1_37)
  have F10_0 := F6_0.other W10 (Or.inr (slot_ne (Or.inr (hw _ (List.mem_of_getElem? (i := 12) rfl))) (Or.inr (hw _ (List.mem_of_getElem? (i := 14) rfl))) (by decide) (t := (.array .byte)) (t' := (.array .int)) (by decide) (by decide)))
  have F10_1 := F6_1.same W10
  have F10_2 := F6_2.wr W10
  have F10_3 := F6_3.other W10 (Ne.symm ne4_a1)
  have Z10 : n0 ≤ h10.size := Nat.le_trans Z6 (Keep.of_wr W10).1
  have K10 := Keep.wr K6 W10 (Or.inl (List.mem_of_getElem? (i := 0) rfl))
  have N10 := Fr.snoc X10 N6 g_a1
  have pre10 : ∀ t, Steps p.tables e below (T10.setTop (mkF m 40 #[.val (.ref a1), .val (.int p2), .val (.int p3)] [])) t → Steps p.tables e below (s₁.setTop (entryFrame m #[(.ref a1), (.int p2), (.int p3)] 3)) t := fun t k => pre9 t (st10 _ k)
  obtain ⟨fs, hr, hrun, hended, hW, hsame⟩ := X10.leave (v := none) (fun _ => rfl)
  refine ⟨_, _, pre10 _ ?_, hrun, hended, _, _, rfl, ?_, ⟨_, rfl⟩, hW, hsame.mono (by decide) (by decide)⟩
  · show Steps p.tables e below (T10.setTop (mkF m 40 #[.val (.ref a1), .val (.int p2), .val (.int p3)] [])) _
    exact X10.returnOut hx Bd.returns (hb hby d1_40) hr
  · show Q1s Z a1 p2 p3 h0 n0 _ T10.heap _
    rw [e10]
    exact ⟨b4, rfl, N10, K10, gg4, ne4_a1, F10_2, F10_0, F10_1, F10_3⟩
/-! body 3: get -/
theorem d3_0 : decode prog_73_method_3_code 0 = .ok (.aload_n 0, 1) := by decide +kernel
theorem d3_1 : decode prog_73_method_3_code 1 = .ok (.getfield 9, 3) := by decide +kernel
theorem d3_4 : decode prog_73_method_3_code 4 = .ok (.ifnull 17, 3) := by decide +kernel
theorem d3_7 : decode prog_73_method_3_code 7 = .ok (.aload_n 0, 1) := by decide +kernel
theorem d3_8 : decode prog_73_method_3_code 8 = .ok (.getfield 9, 3) := by decide +kernel
theorem d3_11 : decode prog_73_method_3_code 11 = .ok (.iload_n 1, 1) := by decide +kernel
theorem d3_12 : decode prog_73_method_3_code 12 = .ok (.baload, 1) := by decide +kernel
theorem d3_13 : decode prog_73_method_3_code 13 = .ok (.invokestatic 17, 3) := by decide +kernel
theorem d3_16 : decode prog_73_method_3_code 16 = .ok (.iconst 1, 1) := by decide +kernel
theorem d3_17 : decode prog_73_method_3_code 17 = .ok (.iadd, 1) := by decide +kernel
theorem d3_18 : decode prog_73_method_3_code 18 = .ok (.goto 9, 3) := by decide +kernel
theorem d3_27 : decode prog_73_method_3_code 27 = .ok (.ireturn, 1) := by decide +kernel
theorem pd3s_0 : parseMethodDescriptor "(B)I" = some ⟨[.byte], some .int⟩ := by decide +kernel
theorem pn3s : plainName "com/example/ballast/ballast/model/Ports" = true := by first | (simp [plainName, overriddenIn]; done) | decide +kernel
theorem ef3s (m : MethodId) (a1 : Addr) (p2 : Int32) : entryFrame m #[(.ref a1), (.int p2)] 2 = mkF m 0 #[.val (.ref a1), .val (.int p2)] [] := by first | (simp [entryFrame, mkF, argsToLocals, Value.category]; done) | rfl
def fn3s (p2 : Int32) (f : Nat → Int32) : Int32 :=
  ((fn4 (f p2.toNatClampNeg)) + (1 : Int32))
def Q3s (Z : State) (a1 : Addr) (p2 : Int32) (b : Addr) (z : Int32) (f : Nat → Int32) (h0 : Heap) (n0 : Nat) (v : Option Value) (h : Heap) (L : List Loc) : Prop := v = some (.int (fn3s p2 f)) ∧ Fr n0 L ∧ h = h0
set_option maxRecDepth 65536 in
set_option maxHeartbeats 40000000 in
theorem rm3s (l : Launch) (Z : State) (a0 : Array Value) (hw : ∀ d ∈ tables_1, d.before a0 Z = true) (ws : List Jvm.Cond) (a1 : Addr) (p2 : Int32) (b : Addr) (z : Int32) (f : Nat → Int32) (h0 : Heap) (n0 : Nat) (Z0 : n0 ≤ h0.size) (F1 : Fld Z h0 a1 "com/example/ballast/ballast/model/Ports" "small" "[B" (.ref b)) (A0 : own_AI Z h0 b .byte z f) (hb0 : ¬ p2 < 0) (hb1 : p2 < z) :
    MetFree l (⟨"com/example/ballast/ballast/model/Ports", "get", "(I)I"⟩ : MethodName) (head1 (Jvm.Cond.code (⟨"com/example/ballast/ballast/model/Ports", "get", "(I)I"⟩ : MethodName) prog_73_method_3_code 2 (some .int) :: ws) ({ frames := 1, cells := 0, slots := 0, locals := 12 } : Room)) (fun a U => a = #[(.ref a1), (.int p2)] ∧ Z.Warmed39 U.vm ∧ U.heap = h0) (fun _ _ _ _ _ => True) (fun _ U o U' => ∃ v L, o = .returned v ∧ Q3s Z a1 p2 b z f h0 n0 v U'.heap L ∧ FrameEnd U o U' L ({ frames := 1, cells := 0, slots := 0, locals := 12 } : Room).cells ({ frames := 1, cells := 0, slots := 0, locals := 12 } : Room).slots) := by
  refine MetFree.of_bodySF (plainFor_of_name pn3s) hisR ?_
  intro p e s m args below meth c s₁ Bd hml0 hP hK
  obtain ⟨rfl, hZ, hh⟩ := hP
  have hx := Bd.exec
  have hby := Bd.bytes
  have hml : c.maxLocals = 2 := hml0
  have hown : s.vm.findClass "com/example/ballast/ballast/model/Ports" = some m.cls := findClass_of_methodNamed Bd.named
  have hnm := (name_of_methodNamed Bd.named Bd.method).1
  have X0 : Stand p l e ({ frames := 1, cells := 0, slots := 0, locals := 12 } : Room) s m #[(.ref a1), (.int p2)] below meth c s₁ [] 0 0 := Stand.of_body Bd
  have e0 : s₁.heap = h0 := by rw [← hh, Bd.state]; rfl
  have N0 := Fr.nil n0
  have pre0 : ∀ t, Steps p.tables e below (s₁.setTop (mkF m 0 #[.val (.ref a1), .val (.int p2)] [])) t → Steps p.tables e below (s₁.setTop (entryFrame m #[(.ref a1), (.int p2)] 2)) t := fun t k => castTop (ef3s m a1 p2) k
  have pre1 : ∀ t, Steps p.tables e below (s₁.setTop (mkF m 1 #[.val (.ref a1), .val (.int p2)] [(.ref a1)])) t → Steps p.tables e below (s₁.setTop (entryFrame m #[(.ref a1), (.int p2)] 2)) t := by
    intro t k
    refine pre0 t ?_
    show Steps p.tables e below (s₁.setTop (mkF m 0 #[.val (.ref a1), .val (.int p2)] [])) _
    refine XS.aloadN X0.here hx rfl (hb hby d3_0) rfl rfl ?_
    show Steps p.tables e below (s₁.setTop (mkF m 1 #[.val (.ref a1), .val (.int p2)] [(.ref a1)])) _
    exact k
  obtain ⟨T2, X2, e2, st2⟩ := getF X0 hx hZ hown (host := "") (Or.inl (hw _ (List.mem_of_getElem? (i := 11) rfl))) Via.refl e0 F1 (g := (mkF m 1 #[.val (.ref a1), .val (.int p2)] [(.ref a1)])) rfl rfl (hb hby d3_1)
  have pre2 : ∀ t, Steps p.tables e below (T2.setTop (mkF m 4 #[.val (.ref a1), .val (.int p2)] [(.ref b)])) t → Steps p.tables e below (s₁.setTop (entryFrame m #[(.ref a1), (.int p2)] 2)) t := fun t k => pre1 t (st2 _ k)
  have pre3 : ∀ t, Steps p.tables e below (T2.setTop (mkF m 8 #[.val (.ref a1), .val (.int p2)] [(.ref a1)])) t → Steps p.tables e below (s₁.setTop (entryFrame m #[(.ref a1), (.int p2)] 2)) t := by
    intro t k
    refine pre2 t ?_
    refine XS.ifnullNo X2.here hx rfl (hb hby d3_4) rfl ?_
    show Steps p.tables e below (T2.setTop (mkF m 7 #[.val (.ref a1), .val (.int p2)] [])) _
    refine XS.aloadN X2.here hx rfl (hb hby d3_7) rfl rfl ?_
    show Steps p.tables e below (T2.setTop (mkF m 8 #[.val (.ref a1), .val (.int p2)] [(.ref a1)])) _
    exact k
  obtain ⟨T4, X4, e4, st4⟩ := getF X2 hx hZ hown (host := "") (Or.inl (hw _ (List.mem_of_getElem? (i := 11) rfl))) Via.refl e2 F1 (g := (mkF m 8 #[.val (.ref a1), .val (.int p2)] [(.ref a1)])) rfl rfl (hb hby d3_8)
  have pre4 : ∀ t, Steps p.tables e below (T4.setTop (mkF m 11 #[.val (.ref a1), .val (.int p2)] [(.ref b)])) t → Steps p.tables e below (s₁.setTop (entryFrame m #[(.ref a1), (.int p2)] 2)) t := fun t k => pre3 t (st4 _ k)
  have pre5 : ∀ t, Steps p.tables e below (T4.setTop (mkF m 13 #[.val (.ref a1), .val (.int p2)] [(.int (f p2.toNatClampNeg))])) t → Steps p.tables e below (s₁.setTop (entryFrame m #[(.ref a1), (.int p2)] 2)) t := by
    intro t k
    refine pre4 t ?_
    refine XS.iloadN X4.here hx rfl (hb hby d3_11) rfl ?_
    show Steps p.tables e below (T4.setTop (mkF m 12 #[.val (.ref a1), .val (.int p2)] [(.int p2), (.ref b)])) _
    refine own_ldB X4 hx hZ e4 A0 hb0 hb1 (g := (mkF m 12 #[.val (.ref a1), .val (.int p2)] [(.int p2), (.ref b)])) rfl rfl (hb hby d3_12) _ ?_
    show Steps p.tables e below (T4.setTop (mkF m 13 #[.val (.ref a1), .val (.int p2)] [(.int (f p2.toNatClampNeg))])) _
    exact k
  obtain ⟨_, _, ⟨T6, L6, k6, n6⟩, -, X6, ⟨Lc6, hQ6, l6, y6, z6⟩, st6⟩ := Jvm.LawKit.callS X4 hx (y := (⟨"java/lang/Byte", "toUnsignedInt", "(B)I"⟩ : MethodName)) hown (mvT hZ (hw _ (List.mem_of_getElem? (i := 20) rfl))) (mvT hZ (hw _ (List.mem_of_getElem? (i := 21) rfl))) (mvT hZ (hw _ (List.mem_of_getElem? (i := 22) rfl))) (mvT hZ (hw _ (List.mem_of_getElem? (i := 23) rfl))) (by decide) (backOf (W := 0) (rm4 l Z a0 hw [] (f p2.toNatClampNeg) h0 n0 Z0) hZ (hw _ (List.mem_of_getElem? (i := 23) rfl)) (hw _ (List.mem_of_getElem? (i := 22) rfl)) (by decide) (by decide)) (g := (mkF m 13 #[.val (.ref a1), .val (.int p2)] [(.int (f p2.toNatClampNeg))])) rfl (by rw [hml]; rfl) (argsL := [(.int (f p2.toNatClampNeg))]) (rest := []) (lenOf pd3s_0 rfl) rfl (by show 2 * 0 + _ ≤ _; exact Nat.le_of_eq rfl) (hb hby d3_13) (fun _ _ => ⟨rfl, e4, (by decide : 0 + 0 ≤ _), (by decide : 0 + 0 ≤ _)⟩)
  dsimp only [Pt.U, Pt.locs, Pt.cells, Pt.slots] at X6 l6 y6 z6 st6 hQ6
  subst l6 y6 z6
  obtain ⟨rfl, Nq6, e6⟩ := hQ6
  have N6 := Fr.app N0 Nq6
  have pre6 : ∀ t, Steps p.tables e below (T6.setTop (mkF m 16 #[.val (.ref a1), .val (.int p2)] [(.int (fn4 (f p2.toNatClampNeg)))])) t → Steps p.tables e below (s₁.setTop (entryFrame m #[(.ref a1), (.int p2)] 2)) t := fun t k => pre5 t (st6 _ k)
  have pre7 : ∀ t, Steps p.tables e below (T6.setTop (mkF m 27 #[.val (.ref a1), .val (.int p2)] [(.int ((fn4 (f p2.toNatClampNeg)) + (1 : Int32)))])) t → Steps p.tables e below (s₁.setTop (entryFrame m #[(.ref a1), (.int p2)] 2)) t := by
    intro t k
    refine pre6 t ?_
    refine XS.iconst X6.here hx rfl (hb hby d3_16) ?_
    show Steps p.tables e below (T6.setTop (mkF m 17 #[.val (.ref a1), .val (.int p2)] [(.int (1 : Int32)), (.int (fn4 (f p2.toNatClampNeg)))])) _
    refine XS.iadd X6.here hx rfl (hb hby d3_17) rfl ?_
    show Steps p.tables e below (T6.setTop (mkF m 18 #[.val (.ref a1), .val (.int p2)] [(.int ((fn4 (f p2.toNatClampNeg)) + (1 : Int32)))])) _
    refine XS.goto X6.here hx rfl (pc0 := 18) (pc' := 27) rfl (hb hby d3_18) (by decide) (by decide) ?_
    show Steps p.tables e below (T6.setTop (mkF m 27 #[.val (.ref a1), .val (.int p2)] [(.int ((fn4 (f p2.toNatClampNeg)) + (1 : Int32)))])) _
    exact k
  obtain ⟨fs, hr, hrun, hended, hW, hsame⟩ := X6.leave (v := some (.int ((fn4 (f p2.toNatClampNeg)) + (1 : Int32)))) (fun h => by rw [Bd.returns] at h; cases h)
  refine ⟨_, _, pre7 _ ?_, hrun, hended, _, _, rfl, ?_, ⟨_, rfl⟩, hW, hsame.mono (by decide) (by decide)⟩
  · show Steps p.tables e below (T6.setTop (mkF m 27 #[.val (.ref a1), .val (.int p2)] [(.int ((fn4 (f p2.toNatClampNeg)) + (1 : Int32)))])) _
    exact own_retI X6 hx Bd.returns (hb hby d3_27) hr
  · show Q3s Z a1 p2 b z f h0 n0 _ T6.heap _
    rw [e6]
    refine ⟨?_, N6, rfl⟩
    simp only [fn3s]
/-! body 5: set -/
theorem d5_0 : decode prog_73_method_2_code 0 = .ok (.aload_n 0, 1) := by decide +kernel
theorem d5_1 : decode prog_73_method_2_code 1 = .ok (.getfield 9, 3) := by decide +kernel
theorem d5_4 : decode prog_73_method_2_code 4 = .ok (.ifnull 16, 3) := by decide +kernel
theorem d5_7 : decode prog_73_method_2_code 7 = .ok (.aload_n 0, 1) := by decide +kernel
theorem d5_8 : decode prog_73_method_2_code 8 = .ok (.getfield 9, 3) := by decide +kernel
theorem d5_11 : decode prog_73_method_2_code 11 = .ok (.iload_n 1, 1) := by decide +kernel
theorem d5_12 : decode prog_73_method_2_code 12 = .ok (.iload_n 2, 1) := by decide +kernel
theorem d5_13 : decode prog_73_method_2_code 13 = .ok (.iconst 1, 1) := by decide +kernel
theorem d5_14 : decode prog_73_method_2_code 14 = .ok (.isub, 1) := by decide +kernel
theorem d5_15 : decode prog_73_method_2_code 15 = .ok (.i2b, 1) := by decide +kernel
theorem d5_16 : decode prog_73_method_2_code 16 = .ok (.bastore, 1) := by decide +kernel
theorem d5_17 : decode prog_73_method_2_code 17 = .ok (.goto 10, 3) := by decide +kernel
theorem d5_27 : decode prog_73_method_2_code 27 = .ok (.return_, 1) := by decide +kernel
theorem pn2s : plainName "com/example/ballast/ballast/model/Ports" = true := by first | (simp [plainName, overriddenIn]; done) | decide +kernel
theorem ef2s (m : MethodId) (a1 : Addr) (p2 : Int32) (p3 : Int32) : entryFrame m #[(.ref a1), (.int p2), (.int p3)] 3 = mkF m 0 #[.val (.ref a1), .val (.int p2), .val (.int p3)] [] := by first | (simp [entryFrame, mkF, argsToLocals, Value.category]; done) | rfl
def Q2s (Z : State) (a1 : Addr) (p2 : Int32) (p3 : Int32) (b : Addr) (z : Int32) (f : Nat → Int32) (h0 : Heap) (n0 : Nat) (v : Option Value) (h : Heap) (L : List Loc) : Prop := v = none ∧ Fr n0 L ∧ Keep h0 h [b] ∧ own_AI Z h b .byte z (own_upd f p2.toNatClampNeg (nar .byte ((p3 - (1 : Int32)).toInt8.toInt32)))
set_option maxRecDepth 65536 in
set_option maxHeartbeats 40000000 in
theorem rm2s (l : Launch) (Z : State) (a0 : Array Value) (hw : ∀ d ∈ tables_1, d.before a0 Z = true) (ws : List Jvm.Cond) (a1 : Addr) (p2 : Int32) (p3 : Int32) (b : Addr) (z : Int32) (f : Nat → Int32) (h0 : Heap) (n0 : Nat) (Z0 : n0 ≤ h0.size) (F1 : Fld Z h0 a1 "com/example/ballast/ballast/model/Ports" "small" "[B" (.ref b)) (A0 : own_AI Z h0 b .byte z f) (hb0 : ¬ p2 < 0) (hb1 : p2 < z) (g_b : n0 ≤ b) (hab : a1 ≠ b) :
    MetFree l (⟨"com/example/ballast/ballast/model/Ports", "set", "(II)V"⟩ : MethodName) (head1 (Jvm.Cond.code (⟨"com/example/ballast/ballast/model/Ports", "set", "(II)V"⟩ : MethodName) prog_73_method_2_code 3 none :: ws) ({ frames := 0, cells := 0, slots := 0, locals := 0 } : Room)) (fun a U => a = #[(.ref a1), (.int p2), (.int p3)] ∧ Z.Warmed39 U.vm ∧ U.heap = h0) (fun _ _ _ _ _ => True) (fun _ U o U' => ∃ v L, o = .returned v ∧ Q2s Z a1 p2 p3 b z f h0 n0 v U'.heap L ∧ FrameEnd U o U' L ({ frames := 0, cells := 0, slots := 0, locals := 0 } : Room).cells ({ frames := 0, cells := 0, slots := 0, locals := 0 } : Room).slots) := by
  refine MetFree.of_bodySF (plainFor_of_name pn2s) hisR ?_
  intro p e s m args below meth c s₁ Bd hml0 hP hK
  obtain ⟨rfl, hZ, hh⟩ := hP
  have hx := Bd.exec
  have hby := Bd.bytes
  have hml : c.maxLocals = 3 := hml0
  have hown : s.vm.findClass "com/example/ballast/ballast/model/Ports" = some m.cls := findClass_of_methodNamed Bd.named
  have hnm := (name_of_methodNamed Bd.named Bd.method).1
  have X0 : Stand p l e ({ frames := 0, cells := 0, slots := 0, locals := 0 } : Room) s m #[(.ref a1), (.int p2), (.int p3)] below meth c s₁ [] 0 0 := Stand.of_body Bd
  have e0 : s₁.heap = h0 := by rw [← hh, Bd.state]; rfl
  have N0 := Fr.nil n0
  have pre0 : ∀ t, Steps p.tables e below (s₁.setTop (mkF m 0 #[.val (.ref a1), .val (.int p2), .val (.int p3)] [])) t → Steps p.tables e below (s₁.setTop (entryFrame m #[(.ref a1), (.int p2), (.int p3)] 3)) t := fun t k => castTop (ef2s m a1 p2 p3) k
  have K0 := Keep.refl h0 [b]
  have pre1 : ∀ t, Steps p.tables e below (s₁.setTop (mkF m 1 #[.val (.ref a1), .val (.int p2), .val (.int p3)] [(.ref a1)])) t → Steps p.tables e below (s₁.setTop (entryFrame m #[(.ref a1), (.int p2), (.int p3)] 3)) t := by
    intro t k
    refine pre0 t ?_
    show Steps p.tables e below (s₁.setTop (mkF m 0 #[.val (.ref a1), .val (.int p2), .val (.int p3)] [])) _
    refine XS.aloadN X0.here hx rfl (hb hby d5_0) rfl rfl ?_
    show Steps p.tables e below (s₁.setTop (mkF m 1 #[.val (.ref a1), .val (.int p2), .val (.int p3)] [(.ref a1)])) _
    exact k
  obtain ⟨T2, X2, e2, st2⟩ := getF X0 hx hZ hown (host := "") (Or.inl (hw _ (List.mem_of_getElem? (i := 11) rfl))) Via.refl e0 F1 (g := (mkF m 1 #[.val (.ref a1), .val (.int p2), .val (.int p3)] [(.ref a1)])) rfl rfl (hb hby d5_1)
  have pre2 : ∀ t, Steps p.tables e below (T2.setTop (mkF m 4 #[.val (.ref a1), .val (.int p2), .val (.int p3)] [(.ref b)])) t → Steps p.tables e below (s₁.setTop (entryFrame m #[(.ref a1), (.int p2), (.int p3)] 3)) t := fun t k => pre1 t (st2 _ k)
  have pre3 : ∀ t, Steps p.tables e below (T2.setTop (mkF m 8 #[.val (.ref a1), .val (.int p2), .val (.int p3)] [(.ref a1)])) t → Steps p.tables e below (s₁.setTop (entryFrame m #[(.ref a1), (.int p2), (.int p3)] 3)) t := by
    intro t k
    refine pre2 t ?_
    refine XS.ifnullNo X2.here hx rfl (hb hby d5_4) rfl ?_
    show Steps p.tables e below (T2.setTop (mkF m 7 #[.val (.ref a1), .val (.int p2), .val (.int p3)] [])) _
    refine XS.aloadN X2.here hx rfl (hb hby d5_7) rfl rfl ?_
    show Steps p.tables e below (T2.setTop (mkF m 8 #[.val (.ref a1), .val (.int p2), .val (.int p3)] [(.ref a1)])) _
    exact k
  obtain ⟨T4, X4, e4, st4⟩ := getF X2 hx hZ hown (host := "") (Or.inl (hw _ (List.mem_of_getElem? (i := 11) rfl))) Via.refl e2 F1 (g := (mkF m 8 #[.val (.ref a1), .val (.int p2), .val (.int p3)] [(.ref a1)])) rfl rfl (hb hby d5_8)
  have pre4 : ∀ t, Steps p.tables e below (T4.setTop (mkF m 11 #[.val (.ref a1), .val (.int p2), .val (.int p3)] [(.ref b)])) t → Steps p.tables e below (s₁.setTop (entryFrame m #[(.ref a1), (.int p2), (.int p3)] 3)) t := fun t k => pre3 t (st4 _ k)
  have pre5 : ∀ t, Steps p.tables e below (T4.setTop (mkF m 16 #[.val (.ref a1), .val (.int p2), .val (.int p3)] [(.int ((p3 - (1 : Int32)).toInt8.toInt32)), (.int p2), (.ref b)])) t → Steps p.tables e below (s₁.setTop (entryFrame m #[(.ref a1), (.int p2), (.int p3)] 3)) t := by
    intro t k
    refine pre4 t ?_
    refine XS.iloadN X4.here hx rfl (hb hby d5_11) rfl ?_
    show Steps p.tables e below (T4.setTop (mkF m 12 #[.val (.ref a1), .val (.int p2), .val (.int p3)] [(.int p2), (.ref b)])) _
    refine XS.iloadN X4.here hx rfl (hb hby d5_12) rfl ?_
    show Steps p.tables e below (T4.setTop (mkF m 13 #[.val (.ref a1), .val (.int p2), .val (.int p3)] [(.int p3), (.int p2), (.ref b)])) _
    refine XS.iconst X4.here hx rfl (hb hby d5_13) ?_
    show Steps p.tables e below (T4.setTop (mkF m 14 #[.val (.ref a1), .val (.int p2), .val (.int p3)] [(.int (1 : Int32)), (.int p3), (.int p2), (.ref b)])) _
    refine XS.isub X4.here hx rfl (hb hby d5_14) rfl ?_
    show Steps p.tables e below (T4.setTop (mkF m 15 #[.val (.ref a1), .val (.int p2), .val (.int p3)] [(.int (p3 - (1 : Int32))), (.int p2), (.ref b)])) _
    refine XS.i2b X4.here hx rfl (hb hby d5_15) rfl ?_
    show Steps p.tables e below (T4.setTop (mkF m 16 #[.val (.ref a1), .val (.int p2), .val (.int p3)] [(.int ((p3 - (1 : Int32)).toInt8.toInt32)), (.int p2), (.ref b)])) _
    exact k
  obtain ⟨T6, h6, X6, e6, W6, V6, st6⟩ := own_stB X4 hx hZ e4 A0 hb0 hb1 (g := (mkF m 16 #[.val (.ref a1), .val (.int p2), .val (.int p3)] [(.int ((p3 - (1 : Int32)).toInt8.toInt32)), (.int p2), (.ref b)])) rfl rfl (hb hby d5_16)
  have F6_0 := F1.other W6 (Or.inl hab)
  have F6_1 := V6
  have Z6 : n0 ≤ h6.size := Nat.le_trans Z0 (Keep.of_wr W6).1
  have K6 := Keep.wr K0 W6 (Or.inl (List.mem_of_getElem? (i := 0) rfl))
  have N6 := Fr.snoc X6 N0 g_b
  obtain ⟨f16, hf16⟩ : ∃ z : Nat → Int32, z = (own_upd f p2.toNatClampNeg (nar .byte ((p3 - (1 : Int32)).toInt8.toInt32))) := ⟨_, rfl⟩
  rw [← hf16] at F6_1
  have pre6 : ∀ t, Steps p.tables e below (T6.setTop (mkF m 17 #[.val (.ref a1), .val (.int p2), .val (.int p3)] [])) t → Steps p.tables e below (s₁.setTop (entryFrame m #[(.ref a1), (.int p2), (.int p3)] 3)) t := fun t k => pre5 t (st6 _ k)
  have pre7 : ∀ t, Steps p.tables e below (T6.setTop (mkF m 27 #[.val (.ref a1), .val (.int p2), .val (.int p3)] [])) t → Steps p.tables e below (s₁.setTop (entryFrame m #[(.ref a1), (.int p2), (.int p3)] 3)) t := by
    intro t k
    refine pre6 t ?_
    refine XS.goto X6.here hx rfl (pc0 := 17) (pc' := 27) rfl (hb hby d5_17) (by decide) (by decide) ?_
    show Steps p.tables e below (T6.setTop (mkF m 27 #[.val (.ref a1), .val (.int p2), .val (.int p3)] [])) _
    exact k
  obtain ⟨fs, hr, hrun, hended, hW, hsame⟩ := X6.leave (v := none) (fun _ => rfl)
  refine ⟨_, _, pre7 _ ?_, hrun, hended, _, _, rfl, ?_, ⟨_, rfl⟩, hW, hsame.mono (by decide) (by decide)⟩
  · show Steps p.tables e below (T6.setTop (mkF m 27 #[.val (.ref a1), .val (.int p2), .val (.int p3)] [])) _
    exact X6.returnOut hx Bd.returns (hb hby d5_27) hr
  · show Q2s Z a1 p2 p3 b z f h0 n0 _ T6.heap _
    rw [e6]
    subst hf16
    exact ⟨rfl, N6, K6, F6_1⟩
/-! body 1: init -/
theorem d1_18 : decode prog_73_method_1_code 18 = .ok (.aconst_null, 1) := by decide +kernel
theorem d1_30 : decode prog_73_method_1_code 30 = .ok (.iload_n 1, 1) := by decide +kernel
theorem d1_31 : decode prog_73_method_1_code 31 = .ok (.newarray .int, 2) := by decide +kernel
theorem d1_33 : decode prog_73_method_1_code 33 = .ok (.goto 4, 3) := by decide +kernel
theorem pn1l : plainName "com/example/ballast/ballast/model/Ports" = true := by first | (simp [plainName, overriddenIn]; done) | decide +kernel
theorem ef1l (m : MethodId) (a1 : Addr) (p2 : Int32) (p3 : Int32) : entryFrame m #[(.ref a1), (.int p2), (.int p3)] 3 = mkF m 0 #[.val (.ref a1), .val (.int p2), .val (.int p3)] [] := by first | (simp [entryFrame, mkF, argsToLocals, Value.category]; done) | rfl
def Q1l (Z : State) (a1 : Addr) (p2 : Int32) (p3 : Int32) (h0 : Heap) (n0 : Nat) (v : Option Value) (h : Heap) (L : List Loc) : Prop := ∃ b : Addr, v = none ∧ Fr n0 L ∧ Keep h0 h [a1] ∧ n0 ≤ b ∧ a1 ≠ b ∧ Exa Z h a1 "com/example/ballast/ballast/model/Ports" ∧ Fld Z h a1 "com/example/ballast/ballast/model/Ports" "large" "[I" (.ref b) ∧ Fld Z h a1 "com/example/ballast/ballast/model/Ports" "small" "[B" .null ∧ own_AI Z h b .int p2 (fun _ => 0)
set_option maxRecDepth 65536 in
set_option maxHeartbeats 40000000 in
theorem rm1l (l : Launch) (Z : State) (a0 : Array Value) (hw : ∀ d ∈ tables_1, d.before a0 Z = true) (ws : List Jvm.Cond) (a1 : Addr) (p2 : Int32) (p3 : Int32) (h0 : Heap) (n0 : Nat) (Z0 : n0 ≤ h0.size) (E_a1 : Exa Z h0 a1 "com/example/ballast/ballast/model/Ports") (F1 : Fld Z h0 a1 "com/example/ballast/ballast/model/Ports" "small" "[B" .null) (F2 : Fld Z h0 a1 "com/example/ballast/ballast/model/Ports" "large" "[I" .null) (g_a1 : n0 ≤ a1) (hp2 : ¬ p2 < 0) (hcap : p2.toNatClampNeg ≤ 8) (hc9 : (256 : Int32) < p3) :
    MetFree l (⟨"com/example/ballast/ballast/model/Ports", "<init>", "(II)V"⟩ : MethodName) (head1 (Jvm.Cond.code (⟨"com/example/ballast/ballast/model/Ports", "<init>", "(II)V"⟩ : MethodName) prog_73_method_1_code 3 none :: ws) ({ frames := 1, cells := 1, slots := 8, locals := 12 } : Room)) (fun a U => a = #[(.ref a1), (.int p2), (.int p3)] ∧ Z.Warmed39 U.vm ∧ U.heap = h0) (fun _ _ _ _ _ => True) (fun _ U o U' => ∃ v L, o = .returned v ∧ Q1l Z a1 p2 p3 h0 n0 v U'.heap L ∧ FrameEnd U o U' L ({ frames := 1, cells := 1, slots := 8, locals := 12 } : Room).cells ({ frames := 1, cells := 1, slots := 8, locals := 12 } : Room).slots) := by
  refine MetFree.of_bodySF (plainFor_of_name pn1l) hisR ?_
  intro p e s m args below meth c s₁ Bd hml0 hP hK
  obtain ⟨rfl, hZ, hh⟩ := hP
  have hx := Bd.exec
  have hby := Bd.bytes
  have hml : c.maxLocals = 3 := hml0
  have hown : s.vm.findClass "com/example/ballast/ballast/model/Ports" = some m.cls := findClass_of_methodNamed Bd.named
  have hnm := (name_of_methodNamed Bd.named Bd.method).1
  have X0 : Stand p l e ({ frames := 1, cells := 1, slots := 8, locals := 12 } : Room) s m #[(.ref a1), (.int p2), (.int p3)] below meth c s₁ [] 0 0 := Stand.of_body Bd
  have e0 : s₁.heap = h0 := by rw [← hh, Bd.state]; rfl
  have N0 := Fr.nil n0
  have pre0 : ∀ t, Steps p.tables e below (s₁.setTop (mkF m 0 #[.val (.ref a1), .val (.int p2), .val (.int p3)] [])) t → Steps p.tables e below (s₁.setTop (entryFrame m #[(.ref a1), (.int p2), (.int p3)] 3)) t := fun t k => castTop (ef1l m a1 p2 p3) k
  have K0 := Keep.refl h0 [a1]
  have pre1 : ∀ t, Steps p.tables e below (s₁.setTop (mkF m 1 #[.val (.ref a1), .val (.int p2), .val (.int p3)] [(.ref a1)])) t → Steps p.tables e below (s₁.setTop (entryFrame m #[(.ref a1), (.int p2), (.int p3)] 3)) t := by
    intro t k
    refine pre0 t ?_
    show Steps p.tables e below (s₁.setTop (mkF m 0 #[.val (.ref a1), .val (.int p2), .val (.int p3)] [])) _
    refine XS.aloadN X0.here hx rfl (hb hby d1_0) rfl rfl ?_
    show Steps p.tables e below (s₁.setTop (mkF m 1 #[.val (.ref a1), .val (.int p2), .val (.int p3)] [(.ref a1)])) _
    exact k
  obtain ⟨T2, X2, e2, st2⟩ := initO X0 hx hZ hown (hw _ (List.mem_of_getElem? (i := 7) rfl)) (hw _ (List.mem_of_getElem? (i := 8) rfl)) (hw _ (List.mem_of_getElem? (i := 9) rfl)) e0 (g := (mkF m 1 #[.val (.ref a1), .val (.int p2), .val (.int p3)] [(.ref a1)])) rfl (by rw [hml]; rfl) rfl (hb hby d1_1) (by decide) (W := 0) (by show 2 * 0 + _ ≤ _; exact Nat.le_of_eq rfl) (by decide)
  have pre2 : ∀ t, Steps p.tables e below (T2.setTop (mkF m 4 #[.val (.ref a1), .val (.int p2), .val (.int p3)] [])) t → Steps p.tables e below (s₁.setTop (entryFrame m #[(.ref a1), (.int p2), (.int p3)] 3)) t := fun t k => pre1 t (st2 _ k)
  have pre3 : ∀ t, Steps p.tables e below (T2.setTop (mkF m 19 #[.val (.ref a1), .val (.int p2), .val (.int p3)] [.null, (.ref a1)])) t → Steps p.tables e below (s₁.setTop (entryFrame m #[(.ref a1), (.int p2), (.int p3)] 3)) t := by
    intro t k
    refine pre2 t ?_
    refine XS.aloadN X2.here hx rfl (hb hby d1_4) rfl rfl ?_
    show Steps p.tables e below (T2.setTop (mkF m 5 #[.val (.ref a1), .val (.int p2), .val (.int p3)] [(.ref a1)])) _
    refine XS.iloadN X2.here hx rfl (hb hby d1_5) rfl ?_
    show Steps p.tables e below (T2.setTop (mkF m 6 #[.val (.ref a1), .val (.int p2), .val (.int p3)] [(.int p3), (.ref a1)])) _
    refine XS.sipush X2.here hx rfl (hb hby d1_6) ?_
    show Steps p.tables e below (T2.setTop (mkF m 9 #[.val (.ref a1), .val (.int p2), .val (.int p3)] [(.int (256 : Int32)), (.int p3), (.ref a1)])) _
    refine XS.icmpYes X2.here hx rfl (pc0 := 9) (pc' := 18) rfl (hb hby d1_9) rfl (tlt hc9).2.2.1 (by decide) (by decide) ?_
    show Steps p.tables e below (T2.setTop (mkF m 18 #[.val (.ref a1), .val (.int p2), .val (.int p3)] [(.ref a1)])) _
    refine XS.aconstNull X2.here hx rfl (hb hby d1_18) ?_
    show Steps p.tables e below (T2.setTop (mkF m 19 #[.val (.ref a1), .val (.int p2), .val (.int p3)] [.null, (.ref a1)])) _
    exact k
  obtain ⟨T4, h4, X4, e4, W4, st4⟩ := putF X2 hx hZ hown (host := "") (Or.inl (hw _ (List.mem_of_getElem? (i := 11) rfl))) Via.refl e2 F1 E_a1 (Or.inr ⟨(hw _ (List.mem_of_getElem? (i := 12) rfl)), rfl, hnm⟩) (hw _ (List.mem_of_getElem? (i := 2) rfl)) (ty := (.array .byte)) (by decide) rfl rfl (g := (mkF m 19 #[.val (.ref a1), .val (.int p2), .val (.int p3)] [.null, (.ref a1)])) rfl rfl (hb hby d1_19)
  have F4_0 := F1.same W4
  have F4_1 := F2.other W4 (Or.inr (slot_ne (Or.inr (hw _ (List.mem_of_getElem? (i := 14) rfl))) (Or.inr (hw _ (List.mem_of_getElem? (i := 12) rfl))) (by decide) (t := (.array .int)) (t' := (.array .byte)) (by decide) (by decide)))
  have F4_2 := E_a1.wr W4
  have Z4 : n0 ≤ h4.size := Nat.le_trans Z0 (Keep.of_wr W4).1
  have K4 := Keep.wr K0 W4 (Or.inl (List.mem_of_getElem? (i := 0) rfl))
  have N4 := Fr.snoc X4 N0 g_a1
  have pre4 : ∀ t, Steps p.tables e below (T4.setTop (mkF m 22 #[.val (.ref a1), .val (.int p2), .val (.int p3)] [])) t → Steps p.tables e below (s₁.setTop (entryFrame m #[(.ref a1), (.int p2), (.int p3)] 3)) t := fun t k => pre3 t (st4 _ k)
  have pre5 : ∀ t, Steps p.tables e below (T4.setTop (mkF m 24 #[.val (.ref a1), .val (.int p2), .val (.int p3)] [(.ref a1), (.ref a1)])) t → Steps p.tables e below (s₁.setTop (entryFrame m #[(.ref a1), (.int p2), (.int p3)] 3)) t := by
    intro t k
    refine pre4 t ?_
    refine XS.aloadN X4.here hx rfl (hb hby d1_22) rfl rfl ?_
    show Steps p.tables e below (T4.setTop (mkF m 23 #[.val (.ref a1), .val (.int p2), .val (.int p3)] [(.ref a1)])) _
    refine XS.aloadN X4.here hx rfl (hb hby d1_23) rfl rfl ?_
    show Steps p.tables e below (T4.setTop (mkF m 24 #[.val (.ref a1), .val (.int p2), .val (.int p3)] [(.ref a1), (.ref a1)])) _
    exact k
  obtain ⟨T6, X6, e6, st6⟩ := getF X4 hx hZ hown (host := "") (Or.inl (hw _ (List.mem_of_getElem? (i := 11) rfl))) Via.refl e4 F4_0 (g := (mkF m 24 #[.val (.ref a1), .val (.int p2), .val (.int p3)] [(.ref a1), (.ref a1)])) rfl rfl (hb hby d1_24)
  have pre6 : ∀ t, Steps p.tables e below (T6.setTop (mkF m 27 #[.val (.ref a1), .val (.int p2), .val (.int p3)] [.null, (.ref a1)])) t → Steps p.tables e below (s₁.setTop (entryFrame m #[(.ref a1), (.int p2), (.int p3)] 3)) t := fun t k => pre5 t (st6 _ k)
  have pre7 : ∀ t, Steps p.tables e below (T6.setTop (mkF m 31 #[.val (.ref a1), .val (.int p2), .val (.int p3)] [(.int p2), (.ref a1)])) t → Steps p.tables e below (s₁.setTop (entryFrame m #[(.ref a1), (.int p2), (.int p3)] 3)) t := by
    intro t k
    refine pre6 t ?_
    refine XS.ifnonnullNo X6.here hx rfl (hb hby d1_27) rfl ?_
    show Steps p.tables e below (T6.setTop (mkF m 30 #[.val (.ref a1), .val (.int p2), .val (.int p3)] [(.ref a1)])) _
    refine XS.iloadN X6.here hx rfl (hb hby d1_30) rfl ?_
    show Steps p.tables e below (T6.setTop (mkF m 31 #[.val (.ref a1), .val (.int p2), .val (.int p3)] [(.int p2), (.ref a1)])) _
    exact k
  obtain ⟨T8, h8, k8, X8, e8, E8, A8, st8⟩ := newP X6 hx hZ (hw _ (List.mem_of_getElem? (i := 30) rfl)) e6 (g := (mkF m 31 #[.val (.ref a1), .val (.int p2), .val (.int p3)] [(.int p2), (.ref a1)])) rfl (hb hby d1_31) rfl hp2 (cap := 8) hcap (by decide) (by decide) (by decide)
  obtain ⟨b8, g8⟩ : ∃ z, z = h4.size := ⟨_, rfl⟩
  rw [← g8] at A8 st8
  have ne8_a1 : a1 ≠ b8 := Nat.ne_of_lt (Nat.lt_of_lt_of_le F4_0.lt (Nat.le_of_eq g8.symm))
  have gg8 : n0 ≤ b8 := Nat.le_trans Z4 (Nat.le_of_eq g8.symm)
  have sz8 : h0.size ≤ b8 := Nat.le_trans K4.1 (Nat.le_of_eq g8.symm)
  have F8_0 := F4_0.ext E8
  have F8_1 := F4_1.ext E8
  have F8_2 := F4_2.ext E8
  have Z8 : n0 ≤ h8.size := Nat.le_trans Z4 E8.1
  have K8 := Keep.ext K4 E8
  have V8 : own_AI Z h8 b8 .int p2 (fun _ => 0) := own_AI.new A8 hp2 rfl
  have pre8 : ∀ t, Steps p.tables e below (T8.setTop (mkF m 33 #[.val (.ref a1), .val (.int p2), .val (.int p3)] [(.ref b8), (.ref a1)])) t → Steps p.tables e below (s₁.setTop (entryFrame m #[(.ref a1), (.int p2), (.int p3)] 3)) t := fun t k => pre7 t (st8 _ k)
  have pre9 : ∀ t, Steps p.tables e below (T8.setTop (mkF m 37 #[.val (.ref a1), .val (.int p2), .val (.int p3)] [(.ref b8), (.ref a1)])) t → Steps p.tables e below (s₁.setTop (entryFrame m #[(.ref a1), (.int p2), (.int p3)] 3)) t := by
    intro t k
    refine pre8 t ?_
    refine XS.goto X8.here hx rfl (pc0 := 33) (pc' := 37) rfl (hb hby d1_33) (by decide) (by decide) ?_
    show Steps p.tables e below (T8.setTop (mkF m 37 #[.val (.ref a1), .val (.int p2), .val (.int p3)] [(.ref b8), (.ref a1)])) _
    exact k
  obtain ⟨T10, h10, X10, e10, W10, st10⟩ := putF X8 hx hZ hown (host := "") (Or.inl (hw _ (List.mem_of_getElem? (i := 13) rfl))) Via.refl e8 F8_1 F8_2 (Or.inr ⟨(hw _ (List.mem_of_getElem? (i := 14) rfl)), rfl, hnm⟩) (hw _ (List.mem_of_getElem? (i := 2) rfl)) (ty := (.array .int)) (by decide) rfl rfl (g := (mkF m 37 #[.val (.ref a1), .val (.int p2), .val (.int p3)] [(.ref b8), (.ref a1)])) rfl rfl (hb hby d1_37)
  have F10_0 := F8_0.other W10 (Or.inr (slot_ne (Or.inr (hw _ (List.mem_of_getElem? (i := 12) rfl))) (Or.inr (hw _ (List.mem_of_getElem? (i := 14) rfl))) (by decide) (t := (.array .byte)) (t' := (.array .int)) (by decide) (by decide)))
  have F10_1 := F8_1.same W10
  have F10_2 := F8_2.wr W10
  have F10_3 := V8.other W10 (Ne.symm ne8_a1)
  have Z10 : n0 ≤ h10.size := Nat.le_trans Z8 (Keep.of_wr W10).1
  have K10 := Keep.wr K8 W10 (Or.inl (List.mem_of_getElem? (i := 0) rfl))
  have N10 := Fr.snoc X10 N4 g_a1
  have pre10 : ∀ t, Steps p.tables e below (T10.setTop (mkF m 40 #[.val (.ref a1), .val (.int p2), .val (.int p3)] [])) t → Steps p.tables e below (s₁.setTop (entryFrame m #[(.ref a1), (.int p2), (.int p3)] 3)) t := fun t k => pre9 t (st10 _ k)
  obtain ⟨fs, hr, hrun, hended, hW, hsame⟩ := X10.leave (v := none) (fun _ => rfl)
  refine ⟨_, _, pre10 _ ?_, hrun, hended, _, _, rfl, ?_, ⟨_, rfl⟩, hW, hsame.mono (by decide) (by decide)⟩
  · show Steps p.tables e below (T10.setTop (mkF m 40 #[.val (.ref a1), .val (.int p2), .val (.int p3)] [])) _
    exact X10.returnOut hx Bd.returns (hb hby d1_40) hr
  · show Q1l Z a1 p2 p3 h0 n0 _ T10.heap _
    rw [e10]
    exact ⟨b8, rfl, N10, K10, gg8, ne8_a1, F10_2, F10_1, F10_0, F10_3⟩
/-! body 3: get -/
theorem d3_21 : decode prog_73_method_3_code 21 = .ok (.aload_n 0, 1) := by decide +kernel
theorem d3_22 : decode prog_73_method_3_code 22 = .ok (.getfield 13, 3) := by decide +kernel
theorem d3_25 : decode prog_73_method_3_code 25 = .ok (.iload_n 1, 1) := by decide +kernel
theorem d3_26 : decode prog_73_method_3_code 26 = .ok (.iaload, 1) := by decide +kernel
theorem pn3l : plainName "com/example/ballast/ballast/model/Ports" = true := by first | (simp [plainName, overriddenIn]; done) | decide +kernel
theorem ef3l (m : MethodId) (a1 : Addr) (p2 : Int32) : entryFrame m #[(.ref a1), (.int p2)] 2 = mkF m 0 #[.val (.ref a1), .val (.int p2)] [] := by first | (simp [entryFrame, mkF, argsToLocals, Value.category]; done) | rfl
def fn3l (p2 : Int32) (f : Nat → Int32) : Int32 :=
  (f p2.toNatClampNeg)
def Q3l (Z : State) (a1 : Addr) (p2 : Int32) (b : Addr) (z : Int32) (f : Nat → Int32) (h0 : Heap) (n0 : Nat) (v : Option Value) (h : Heap) (L : List Loc) : Prop := v = some (.int (fn3l p2 f)) ∧ Fr n0 L ∧ h = h0
set_option maxRecDepth 65536 in
set_option maxHeartbeats 40000000 in
theorem rm3l (l : Launch) (Z : State) (a0 : Array Value) (hw : ∀ d ∈ tables_1, d.before a0 Z = true) (ws : List Jvm.Cond) (a1 : Addr) (p2 : Int32) (b : Addr) (z : Int32) (f : Nat → Int32) (h0 : Heap) (n0 : Nat) (Z0 : n0 ≤ h0.size) (F1 : Fld Z h0 a1 "com/example/ballast/ballast/model/Ports" "large" "[I" (.ref b)) (F2 : Fld Z h0 a1 "com/example/ballast/ballast/model/Ports" "small" "[B" .null) (A0 : own_AI Z h0 b .int z f) (hb0 : ¬ p2 < 0) (hb1 : p2 < z) :
    MetFree l (⟨"com/example/ballast/ballast/model/Ports", "get", "(I)I"⟩ : MethodName) (head1 (Jvm.Cond.code (⟨"com/example/ballast/ballast/model/Ports", "get", "(I)I"⟩ : MethodName) prog_73_method_3_code 2 (some .int) :: ws) ({ frames := 0, cells := 0, slots := 0, locals := 0 } : Room)) (fun a U => a = #[(.ref a1), (.int p2)] ∧ Z.Warmed39 U.vm ∧ U.heap = h0) (fun _ _ _ _ _ => True) (fun _ U o U' => ∃ v L, o = .returned v ∧ Q3l Z a1 p2 b z f h0 n0 v U'.heap L ∧ FrameEnd U o U' L ({ frames := 0, cells := 0, slots := 0, locals := 0 } : Room).cells ({ frames := 0, cells := 0, slots := 0, locals := 0 } : Room).slots) := by
  refine MetFree.of_bodySF (plainFor_of_name pn3l) hisR ?_
  intro p e s m args below meth c s₁ Bd hml0 hP hK
  obtain ⟨rfl, hZ, hh⟩ := hP
  have hx := Bd.exec
  have hby := Bd.bytes
  have hml : c.maxLocals = 2 := hml0
  have hown : s.vm.findClass "com/example/ballast/ballast/model/Ports" = some m.cls := findClass_of_methodNamed Bd.named
  have hnm := (name_of_methodNamed Bd.named Bd.method).1
  have X0 : Stand p l e ({ frames := 0, cells := 0, slots := 0, locals := 0 } : Room) s m #[(.ref a1), (.int p2)] below meth c s₁ [] 0 0 := Stand.of_body Bd
  have e0 : s₁.heap = h0 := by rw [← hh, Bd.state]; rfl
  have N0 := Fr.nil n0
  have pre0 : ∀ t, Steps p.tables e below (s₁.setTop (mkF m 0 #[.val (.ref a1), .val (.int p2)] [])) t → Steps p.tables e below (s₁.setTop (entryFrame m #[(.ref a1), (.int p2)] 2)) t := fun t k => castTop (ef3l m a1 p2) k
  have pre1 : ∀ t, Steps p.tables e below (s₁.setTop (mkF m 1 #[.val (.ref a1), .val (.int p2)] [(.ref a1)])) t → Steps p.tables e below (s₁.setTop (entryFrame m #[(.ref a1), (.int p2)] 2)) t := by
    intro t k
    refine pre0 t ?_
    show Steps p.tables e below (s₁.setTop (mkF m 0 #[.val (.ref a1), .val (.int p2)] [])) _
    refine XS.aloadN X0.here hx rfl (hb hby d3_0) rfl rfl ?_
    show Steps p.tables e below (s₁.setTop (mkF m 1 #[.val (.ref a1), .val (.int p2)] [(.ref a1)])) _
    exact k
  obtain ⟨T2, X2, e2, st2⟩ := getF X0 hx hZ hown (host := "") (Or.inl (hw _ (List.mem_of_getElem? (i := 11) rfl))) Via.refl e0 F2 (g := (mkF m 1 #[.val (.ref a1), .val (.int p2)] [(.ref a1)])) rfl rfl (hb hby d3_1)
  have pre2 : ∀ t, Steps p.tables e below (T2.setTop (mkF m 4 #[.val (.ref a1), .val (.int p2)] [.null])) t → Steps p.tables e below (s₁.setTop (entryFrame m #[(.ref a1), (.int p2)] 2)) t := fun t k => pre1 t (st2 _ k)
  have pre3 : ∀ t, Steps p.tables e below (T2.setTop (mkF m 22 #[.val (.ref a1), .val (.int p2)] [(.ref a1)])) t → Steps p.tables e below (s₁.setTop (entryFrame m #[(.ref a1), (.int p2)] 2)) t := by
    intro t k
    refine pre2 t ?_
    refine XS.ifnullYes X2.here hx rfl (pc0 := 4) (pc' := 21) rfl (hb hby d3_4) rfl (by decide) (by decide) ?_
    show Steps p.tables e below (T2.setTop (mkF m 21 #[.val (.ref a1), .val (.int p2)] [])) _
    refine XS.aloadN X2.here hx rfl (hb hby d3_21) rfl rfl ?_
    show Steps p.tables e below (T2.setTop (mkF m 22 #[.val (.ref a1), .val (.int p2)] [(.ref a1)])) _
    exact k
  obtain ⟨T4, X4, e4, st4⟩ := getF X2 hx hZ hown (host := "") (Or.inl (hw _ (List.mem_of_getElem? (i := 13) rfl))) Via.refl e2 F1 (g := (mkF m 22 #[.val (.ref a1), .val (.int p2)] [(.ref a1)])) rfl rfl (hb hby d3_22)
  have pre4 : ∀ t, Steps p.tables e below (T4.setTop (mkF m 25 #[.val (.ref a1), .val (.int p2)] [(.ref b)])) t → Steps p.tables e below (s₁.setTop (entryFrame m #[(.ref a1), (.int p2)] 2)) t := fun t k => pre3 t (st4 _ k)
  have pre5 : ∀ t, Steps p.tables e below (T4.setTop (mkF m 27 #[.val (.ref a1), .val (.int p2)] [(.int (f p2.toNatClampNeg))])) t → Steps p.tables e below (s₁.setTop (entryFrame m #[(.ref a1), (.int p2)] 2)) t := by
    intro t k
    refine pre4 t ?_
    refine XS.iloadN X4.here hx rfl (hb hby d3_25) rfl ?_
    show Steps p.tables e below (T4.setTop (mkF m 26 #[.val (.ref a1), .val (.int p2)] [(.int p2), (.ref b)])) _
    refine own_ldI X4 hx hZ e4 A0 hb0 hb1 (g := (mkF m 26 #[.val (.ref a1), .val (.int p2)] [(.int p2), (.ref b)])) rfl rfl (hb hby d3_26) _ ?_
    show Steps p.tables e below (T4.setTop (mkF m 27 #[.val (.ref a1), .val (.int p2)] [(.int (f p2.toNatClampNeg))])) _
    exact k
  obtain ⟨fs, hr, hrun, hended, hW, hsame⟩ := X4.leave (v := some (.int (f p2.toNatClampNeg))) (fun h => by rw [Bd.returns] at h; cases h)
  refine ⟨_, _, pre5 _ ?_, hrun, hended, _, _, rfl, ?_, ⟨_, rfl⟩, hW, hsame.mono (by decide) (by decide)⟩
  · show Steps p.tables e below (T4.setTop (mkF m 27 #[.val (.ref a1), .val (.int p2)] [(.int (f p2.toNatClampNeg))])) _
    exact own_retI X4 hx Bd.returns (hb hby d3_27) hr
  · show Q3l Z a1 p2 b z f h0 n0 _ T4.heap _
    rw [e4]
    refine ⟨?_, N0, rfl⟩
    simp only [fn3l]
/-! body 5: set -/
theorem d5_20 : decode prog_73_method_2_code 20 = .ok (.aload_n 0, 1) := by decide +kernel
theorem d5_21 : decode prog_73_method_2_code 21 = .ok (.getfield 13, 3) := by decide +kernel
theorem d5_24 : decode prog_73_method_2_code 24 = .ok (.iload_n 1, 1) := by decide +kernel
theorem d5_25 : decode prog_73_method_2_code 25 = .ok (.iload_n 2, 1) := by decide +kernel
theorem d5_26 : decode prog_73_method_2_code 26 = .ok (.iastore, 1) := by decide +kernel
theorem pn2l : plainName "com/example/ballast/ballast/model/Ports" = true := by first | (simp [plainName, overriddenIn]; done) | decide +kernel
theorem ef2l (m : MethodId) (a1 : Addr) (p2 : Int32) (p3 : Int32) : entryFrame m #[(.ref a1), (.int p2), (.int p3)] 3 = mkF m 0 #[.val (.ref a1), .val (.int p2), .val (.int p3)] [] := by first | (simp [entryFrame, mkF, argsToLocals, Value.category]; done) | rfl
def Q2l (Z : State) (a1 : Addr) (p2 : Int32) (p3 : Int32) (b : Addr) (z : Int32) (f : Nat → Int32) (h0 : Heap) (n0 : Nat) (v : Option Value) (h : Heap) (L : List Loc) : Prop := v = none ∧ Fr n0 L ∧ Keep h0 h [b] ∧ own_AI Z h b .int z (own_upd f p2.toNatClampNeg p3)
set_option maxRecDepth 65536 in
set_option maxHeartbeats 40000000 in
theorem rm2l (l : Launch) (Z : State) (a0 : Array Value) (hw : ∀ d ∈ tables_1, d.before a0 Z = true) (ws : List Jvm.Cond) (a1 : Addr) (p2 : Int32) (p3 : Int32) (b : Addr) (z : Int32) (f : Nat → Int32) (h0 : Heap) (n0 : Nat) (Z0 : n0 ≤ h0.size) (F1 : Fld Z h0 a1 "com/example/ballast/ballast/model/Ports" "large" "[I" (.ref b)) (F2 : Fld Z h0 a1 "com/example/ballast/ballast/model/Ports" "small" "[B" .null) (A0 : own_AI Z h0 b .int z f) (hb0 : ¬ p2 < 0) (hb1 : p2 < z) (g_b : n0 ≤ b) (hab : a1 ≠ b) :
    MetFree l (⟨"com/example/ballast/ballast/model/Ports", "set", "(II)V"⟩ : MethodName) (head1 (Jvm.Cond.code (⟨"com/example/ballast/ballast/model/Ports", "set", "(II)V"⟩ : MethodName) prog_73_method_2_code 3 none :: ws) ({ frames := 0, cells := 0, slots := 0, locals := 0 } : Room)) (fun a U => a = #[(.ref a1), (.int p2), (.int p3)] ∧ Z.Warmed39 U.vm ∧ U.heap = h0) (fun _ _ _ _ _ => True) (fun _ U o U' => ∃ v L, o = .returned v ∧ Q2l Z a1 p2 p3 b z f h0 n0 v U'.heap L ∧ FrameEnd U o U' L ({ frames := 0, cells := 0, slots := 0, locals := 0 } : Room).cells ({ frames := 0, cells := 0, slots := 0, locals := 0 } : Room).slots) := by
  refine MetFree.of_bodySF (plainFor_of_name pn2l) hisR ?_
  intro p e s m args below meth c s₁ Bd hml0 hP hK
  obtain ⟨rfl, hZ, hh⟩ := hP
  have hx := Bd.exec
  have hby := Bd.bytes
  have hml : c.maxLocals = 3 := hml0
  have hown : s.vm.findClass "com/example/ballast/ballast/model/Ports" = some m.cls := findClass_of_methodNamed Bd.named
  have hnm := (name_of_methodNamed Bd.named Bd.method).1
  have X0 : Stand p l e ({ frames := 0, cells := 0, slots := 0, locals := 0 } : Room) s m #[(.ref a1), (.int p2), (.int p3)] below meth c s₁ [] 0 0 := Stand.of_body Bd
  have e0 : s₁.heap = h0 := by rw [← hh, Bd.state]; rfl
  have N0 := Fr.nil n0
  have pre0 : ∀ t, Steps p.tables e below (s₁.setTop (mkF m 0 #[.val (.ref a1), .val (.int p2), .val (.int p3)] [])) t → Steps p.tables e below (s₁.setTop (entryFrame m #[(.ref a1), (.int p2), (.int p3)] 3)) t := fun t k => castTop (ef2l m a1 p2 p3) k
  have K0 := Keep.refl h0 [b]
  have pre1 : ∀ t, Steps p.tables e below (s₁.setTop (mkF m 1 #[.val (.ref a1), .val (.int p2), .val (.int p3)] [(.ref a1)])) t → Steps p.tables e below (s₁.setTop (entryFrame m #[(.ref a1), (.int p2), (.int p3)] 3)) t := by
    intro t k
    refine pre0 t ?_
    show Steps p.tables e below (s₁.setTop (mkF m 0 #[.val (.ref a1), .val (.int p2), .val (.int p3)] [])) _
    refine XS.aloadN X0.here hx rfl (hb hby d5_0) rfl rfl ?_
    show Steps p.tables e below (s₁.setTop (mkF m 1 #[.val (.ref a1), .val (.int p2), .val (.int p3)] [(.ref a1)])) _
    exact k
  obtain ⟨T2, X2, e2, st2⟩ := getF X0 hx hZ hown (host := "") (Or.inl (hw _ (List.mem_of_getElem? (i := 11) rfl))) Via.refl e0 F2 (g := (mkF m 1 #[.val (.ref a1), .val (.int p2), .val (.int p3)] [(.ref a1)])) rfl rfl (hb hby d5_1)
  have pre2 : ∀ t, Steps p.tables e below (T2.setTop (mkF m 4 #[.val (.ref a1), .val (.int p2), .val (.int p3)] [.null])) t → Steps p.tables e below (s₁.setTop (entryFrame m #[(.ref a1), (.int p2), (.int p3)] 3)) t := fun t k => pre1 t (st2 _ k)
  have pre3 : ∀ t, Steps p.tables e below (T2.setTop (mkF m 21 #[.val (.ref a1), .val (.int p2), .val (.int p3)] [(.ref a1)])) t → Steps p.tables e below (s₁.setTop (entryFrame m #[(.ref a1), (.int p2), (.int p3)] 3)) t := by
    intro t k
    refine pre2 t ?_
    refine XS.ifnullYes X2.here hx rfl (pc0 := 4) (pc' := 20) rfl (hb hby d5_4) rfl (by decide) (by decide) ?_
    show Steps p.tables e below (T2.setTop (mkF m 20 #[.val (.ref a1), .val (.int p2), .val (.int p3)] [])) _
    refine XS.aloadN X2.here hx rfl (hb hby d5_20) rfl rfl ?_
    show Steps p.tables e below (T2.setTop (mkF m 21 #[.val (.ref a1), .val (.int p2), .val (.int p3)] [(.ref a1)])) _
    exact k
  obtain ⟨T4, X4, e4, st4⟩ := getF X2 hx hZ hown (host := "") (Or.inl (hw _ (List.mem_of_getElem? (i := 13) rfl))) Via.refl e2 F1 (g := (mkF m 21 #[.val (.ref a1), .val (.int p2), .val (.int p3)] [(.ref a1)])) rfl rfl (hb hby d5_21)
  have pre4 : ∀ t, Steps p.tables e below (T4.setTop (mkF m 24 #[.val (.ref a1), .val (.int p2), .val (.int p3)] [(.ref b)])) t → Steps p.tables e below (s₁.setTop (entryFrame m #[(.ref a1), (.int p2), (.int p3)] 3)) t := fun t k => pre3 t (st4 _ k)
  have pre5 : ∀ t, Steps p.tables e below (T4.setTop (mkF m 26 #[.val (.ref a1), .val (.int p2), .val (.int p3)] [(.int p3), (.int p2), (.ref b)])) t → Steps p.tables e below (s₁.setTop (entryFrame m #[(.ref a1), (.int p2), (.int p3)] 3)) t := by
    intro t k
    refine pre4 t ?_
    refine XS.iloadN X4.here hx rfl (hb hby d5_24) rfl ?_
    show Steps p.tables e below (T4.setTop (mkF m 25 #[.val (.ref a1), .val (.int p2), .val (.int p3)] [(.int p2), (.ref b)])) _
    refine XS.iloadN X4.here hx rfl (hb hby d5_25) rfl ?_
    show Steps p.tables e below (T4.setTop (mkF m 26 #[.val (.ref a1), .val (.int p2), .val (.int p3)] [(.int p3), (.int p2), (.ref b)])) _
    exact k
  obtain ⟨T6, h6, X6, e6, W6, V6, st6⟩ := own_stI X4 hx hZ e4 A0 hb0 hb1 (g := (mkF m 26 #[.val (.ref a1), .val (.int p2), .val (.int p3)] [(.int p3), (.int p2), (.ref b)])) rfl rfl (hb hby d5_26)
  have F6_0 := F1.other W6 (Or.inl hab)
  have F6_1 := F2.other W6 (Or.inl hab)
  have F6_2 := V6
  have Z6 : n0 ≤ h6.size := Nat.le_trans Z0 (Keep.of_wr W6).1
  have K6 := Keep.wr K0 W6 (Or.inl (List.mem_of_getElem? (i := 0) rfl))
  have N6 := Fr.snoc X6 N0 g_b
  obtain ⟨f26, hf26⟩ : ∃ z : Nat → Int32, z = (own_upd f p2.toNatClampNeg p3) := ⟨_, rfl⟩
  rw [← hf26] at F6_2
  have pre6 : ∀ t, Steps p.tables e below (T6.setTop (mkF m 27 #[.val (.ref a1), .val (.int p2), .val (.int p3)] [])) t → Steps p.tables e below (s₁.setTop (entryFrame m #[(.ref a1), (.int p2), (.int p3)] 3)) t := fun t k => pre5 t (st6 _ k)
  obtain ⟨fs, hr, hrun, hended, hW, hsame⟩ := X6.leave (v := none) (fun _ => rfl)
  refine ⟨_, _, pre6 _ ?_, hrun, hended, _, _, rfl, ?_, ⟨_, rfl⟩, hW, hsame.mono (by decide) (by decide)⟩
  · show Steps p.tables e below (T6.setTop (mkF m 27 #[.val (.ref a1), .val (.int p2), .val (.int p3)] [])) _
    exact X6.returnOut hx Bd.returns (hb hby d5_27) hr
  · show Q2l Z a1 p2 p3 b z f h0 n0 _ T6.heap _
    rw [e6]
    subst hf26
    exact ⟨rfl, N6, K6, F6_2⟩
/-! body 0: law -/
theorem pd0_0 : parseMethodDescriptor "(II)V" = some ⟨[.int, .int], none⟩ := by decide +kernel
theorem pd0_1 : parseMethodDescriptor "(I)I" = some ⟨[.int], some .int⟩ := by decide +kernel
theorem pn0 : plainName "com/example/ballast/ballast/model/PortsSetPinLaw" = true := by first | (simp [plainName, overriddenIn]; done) | decide +kernel
theorem ef0 (m : MethodId) (p1 : Int32) (p2 : Int32) (p3 : Int32) (p4 : Int32) (p5 : Int32) (p6 : Int32) : entryFrame m #[(.int p1), (.int p2), (.int p3), (.int p4), (.int p5), (.int p6)] maxLocals = mkF m 0 #[.val (.int p1), .val (.int p2), .val (.int p3), .val (.int p4), .val (.int p5), .val (.int p6), .unset, .unset, .unset, .unset, .unset, .unset, .unset, .unset, .unset, .unset, .unset] [] := by first | (simp [entryFrame, mkF, argsToLocals, Value.category, maxLocals]; done) | rfl
def fn0 (p1 : Int32) (p2 : Int32) (p3 : Int32) (p4 : Int32) (p5 : Int32) (p6 : Int32) : Int32 :=
  let v7 : Int32 := ((1 : Int32) + (p6 &&& (7 : Int32)))
  let v16 : Int32 := ((p4 &&& (2147483647 : Int32)) % v7)
  let v26 : Int32 := ((p5 &&& (2147483647 : Int32)) % v7)
  let v38 : Int32 := ((((p6.toUInt32 >>> ((3 : Int32) &&& 31).toUInt32).toInt32) &&& (2147483647 : Int32)) % v7)
  let u7210 : Int32 := (if (p1 &&& (1 : Int32)) = (0 : Int32) then ((1 : Int32) + (((p1.toUInt32 >>> ((1 : Int32) &&& 31).toUInt32).toInt32) &&& (255 : Int32))) else ((257 : Int32) + (((p1.toUInt32 >>> ((1 : Int32) &&& 31).toUInt32).toInt32) % (2147483391 : Int32))))
  let v81 : Int32 := ((1 : Int32) + ((p2 &&& (2147483647 : Int32)) % u7210))
  let v92 : Int32 := ((1 : Int32) + ((p3 &&& (2147483647 : Int32)) % u7210))
  if (256 : Int32) < u7210 then
    let v114 : Int32 := (fn3l v38 (fun _ => 0))
    let u151s0 : Int32 := (if (fn3l v26 (own_upd (own_upd (fun _ => 0) v16.toNatClampNeg v81) v26.toNatClampNeg v92)) = v92 then (1 : Int32) else (0 : Int32))
    let u167s0 : Int32 := (if v16 = v26 then v92 else v81)
    let u191s0 : Int32 := (if (fn3l v16 (own_upd (own_upd (fun _ => 0) v16.toNatClampNeg v81) v26.toNatClampNeg v92)) = u167s0 then (1 : Int32) else (0 : Int32))
    if v38 = v16 then
      (nar .boolean u191s0)
    else
      if v38 = v26 then
        (nar .boolean u191s0)
      else
        let u229s0 : Int32 := (if (fn3l v38 (own_upd (own_upd (fun _ => 0) v16.toNatClampNeg v81) v26.toNatClampNeg v92)) = v114 then (1 : Int32) else (0 : Int32))
        (nar .boolean u229s0)
  else
    let v114_1 : Int32 := (fn3s v38 (fun _ => 0))
    let u151s0_1 : Int32 := (if (fn3s v26 (own_upd (own_upd (fun _ => 0) v16.toNatClampNeg (nar .byte ((v81 - (1 : Int32)).toInt8.toInt32))) v26.toNatClampNeg (nar .byte ((v92 - (1 : Int32)).toInt8.toInt32)))) = v92 then (1 : Int32) else (0 : Int32))
    let u167s0_1 : Int32 := (if v16 = v26 then v92 else v81)
    let u191s0_1 : Int32 := (if (fn3s v16 (own_upd (own_upd (fun _ => 0) v16.toNatClampNeg (nar .byte ((v81 - (1 : Int32)).toInt8.toInt32))) v26.toNatClampNeg (nar .byte ((v92 - (1 : Int32)).toInt8.toInt32)))) = u167s0_1 then (1 : Int32) else (0 : Int32))
    if v38 = v16 then
      (nar .boolean u191s0_1)
    else
      if v38 = v26 then
        (nar .boolean u191s0_1)
      else
        let u229s0_1 : Int32 := (if (fn3s v38 (own_upd (own_upd (fun _ => 0) v16.toNatClampNeg (nar .byte ((v81 - (1 : Int32)).toInt8.toInt32))) v26.toNatClampNeg (nar .byte ((v92 - (1 : Int32)).toInt8.toInt32)))) = v114_1 then (1 : Int32) else (0 : Int32))
        (nar .boolean u229s0_1)
/-! the plain law -/
theorem own_vr {v n : Int32} (h : v = ((1 : Int32) + (n &&& (7 : Int32)))) : 1 ≤ v.toInt ∧ v.toInt ≤ 8 := by
  have e1 : (1 : Int32).toInt = 1 := by decide
  have hm := Jvm.Kit.i32_mask n 7 (k := 3) (by decide) (by decide)
  rw [h, Jvm.Kit.i32_add (by omega) (by omega)]; omega
theorem own_sc {v n : Int32} (h : v = ((1 : Int32) + (n &&& (7 : Int32)))) : ¬ v < 0 ∧ v.toNatClampNeg ≤ 8 := by
  have := own_vr h
  have e0 : (0 : Int32).toInt = 0 := by decide
  refine ⟨by rw [Int32.lt_iff_toInt_lt]; omega, ?_⟩
  show v.toInt.toNat ≤ 8
  omega
theorem own_nz {v n : Int32} (h : v = ((1 : Int32) + (n &&& (7 : Int32)))) : v ≠ 0 := by
  have := own_vr h
  intro q; rw [q] at this; exact absurd this (by decide)
theorem own_u32 (r : UInt32) : r.toInt32.toInt = (r.toNat : Int).bmod (2 ^ 32) := BitVec.toInt_eq_toNat_bmod r.toBitVec
theorem own_wd {u p : Int32} (h : u = (if (p &&& (1 : Int32)) = (0 : Int32) then ((1 : Int32) + (((p.toUInt32 >>> ((1 : Int32) &&& 31).toUInt32).toInt32) &&& (255 : Int32))) else ((257 : Int32) + (((p.toUInt32 >>> ((1 : Int32) &&& 31).toUInt32).toInt32) % (2147483391 : Int32))))) : 1 ≤ u.toInt := by
  have e1 : (1 : Int32).toInt = 1 := by decide
  have e257 : (257 : Int32).toInt = 257 := by decide
  have eM : (2147483391 : Int32).toInt = 2147483391 := by decide
  have hs : 0 ≤ ((p.toUInt32 >>> ((1 : Int32) &&& 31).toUInt32).toInt32).toInt := by
    have e : (((1 : Int32) &&& 31).toUInt32).toNat % 32 = 1 := by decide
    have q : (p.toUInt32 >>> ((1 : Int32) &&& 31).toUInt32).toNat = p.toUInt32.toNat / 2 := by
      rw [UInt32.toNat_shiftRight, e, Nat.shiftRight_eq_div_pow]
    have l := UInt32.toNat_lt p.toUInt32
    rw [own_u32, q, Int.bmod_def]; omega
  subst h
  split
  · have hm := Jvm.Kit.i32_mask ((p.toUInt32 >>> ((1 : Int32) &&& 31).toUInt32).toInt32) 255 (k := 8) (by decide) (by decide)
    rw [Jvm.Kit.i32_add (by omega) (by omega)]; omega
  · have hr := Jvm.Kit.i32_rem_nonneg (y := (2147483391 : Int32)) hs
    rw [eM] at hr
    rw [Jvm.Kit.i32_add (by omega) (by omega)]; omega
theorem own_nw {u p : Int32} (h : u = (if (p &&& (1 : Int32)) = (0 : Int32) then ((1 : Int32) + (((p.toUInt32 >>> ((1 : Int32) &&& 31).toUInt32).toInt32) &&& (255 : Int32))) else ((257 : Int32) + (((p.toUInt32 >>> ((1 : Int32) &&& 31).toUInt32).toInt32) % (2147483391 : Int32))))) : u ≠ 0 := by
  have := own_wd h
  intro q; rw [q] at this; exact absurd this (by decide)
theorem own_ixr {v x s : Int32} (hv : 1 ≤ v.toInt) (h : x = ((s &&& (2147483647 : Int32)) % v)) : 0 ≤ x.toInt ∧ x.toInt < v.toInt := by
  have hm := Jvm.Kit.i32_mask s 2147483647 (k := 31) (by decide) (by decide)
  have hr := Jvm.Kit.i32_rem_nonneg (x := s &&& (2147483647 : Int32)) (y := v) (by omega)
  rw [h, hr]
  exact ⟨Int.emod_nonneg _ (by omega), Int.emod_lt_of_pos _ (by omega)⟩
theorem own_ix {v n x s : Int32} (hv : v = ((1 : Int32) + (n &&& (7 : Int32)))) (h : x = ((s &&& (2147483647 : Int32)) % v)) : ¬ x < 0 ∧ x < v := by
  have := own_ixr (own_vr hv).1 h
  have e0 : (0 : Int32).toInt = 0 := by decide
  rw [Int32.lt_iff_toInt_lt, Int32.lt_iff_toInt_lt]; omega
theorem own_pv {v w x : Int32} (hw : 1 ≤ w.toInt) (h : v = ((1 : Int32) + ((x &&& (2147483647 : Int32)) % w))) : 1 ≤ v.toInt ∧ v.toInt ≤ w.toInt := by
  have := own_ixr hw (x := (x &&& (2147483647 : Int32)) % w) rfl
  have e1 : (1 : Int32).toInt = 1 := by decide
  have := w.toInt_lt
  rw [h, Jvm.Kit.i32_add (by omega) (by omega)]; omega
theorem own_ceq {i j : Int32} (hi : 0 ≤ i.toInt) (hj : 0 ≤ j.toInt) : i.toNatClampNeg = j.toNatClampNeg ↔ i = j := by
  constructor
  · intro h
    have h' : i.toInt.toNat = j.toInt.toNat := h
    apply Int32.toInt_inj.mp; omega
  · intro h; rw [h]
theorem own_rd (f : Nat → Int32) {i j : Int32} (a b : Int32) (hi : 0 ≤ i.toInt) (hj : 0 ≤ j.toInt) : own_upd (own_upd f i.toNatClampNeg a) j.toNatClampNeg b i.toNatClampNeg = (if i = j then b else a) := by
  by_cases h : i = j
  · rw [if_pos h]; exact if_pos ((own_ceq hi hj).mpr h)
  · rw [if_neg h]; exact (if_neg (fun q => h ((own_ceq hi hj).mp q))).trans (if_pos rfl)
theorem own_rj (f : Nat → Int32) (i j a b : Int32) : own_upd (own_upd f i.toNatClampNeg a) j.toNatClampNeg b j.toNatClampNeg = b := if_pos rfl
theorem own_rk (f : Nat → Int32) {i j k : Int32} (a b : Int32) (hi : 0 ≤ i.toInt) (hj : 0 ≤ j.toInt) (hk : 0 ≤ k.toInt) (h1 : ¬ k = i) (h2 : ¬ k = j) : own_upd (own_upd f i.toNatClampNeg a) j.toNatClampNeg b k.toNatClampNeg = f k.toNatClampNeg :=
  (if_neg (fun q => h2 ((own_ceq hk hj).mp q))).trans (if_neg (fun q => h1 ((own_ceq hk hi).mp q)))
theorem own_byte {v : Int32} (h : 1 ≤ v.toInt ∧ v.toInt ≤ 256) : fn4 (nar .byte ((v - (1 : Int32)).toInt8.toInt32)) + (1 : Int32) = v := by
  have e1 : (1 : Int32).toInt = 1 := by decide
  have es : (v - (1 : Int32)).toInt = v.toInt - 1 := by rw [Jvm.Kit.i32_sub (by omega) (by omega), e1]
  have en : nar .byte ((v - (1 : Int32)).toInt8.toInt32) = (v - (1 : Int32)).toInt8.toInt32 := by
    show ((v - (1 : Int32)).toInt8.toInt32).toInt8.toInt32 = _
    rw [Int8.toInt8_toInt32]
  have em : (fn4 (nar .byte ((v - (1 : Int32)).toInt8.toInt32))).toInt = v.toInt - 1 := by
    rw [en]
    show ((v - (1 : Int32)).toInt8.toInt32 &&& (255 : Int32)).toInt = _
    rw [Jvm.Kit.i32_mask _ 255 (k := 8) (by decide) (by decide), Int8.toInt_toInt32, Int32.toInt_toInt8, es, Int.bmod_def]; omega
  apply Int32.toInt_inj.mp
  rw [Jvm.Kit.i32_add (by omega) (by omega), em, e1]; omega
theorem own_one {u : Int32} {c : Prop} [Decidable c] (h : u = (if c then (1 : Int32) else (0 : Int32))) (q : c) : ¬ u = 0 := by rw [h, if_pos q]; decide
section G
variable {v7 v16 v26 v81 v92 n s t x y w u u2 : Int32}
theorem own_g1l (hv7 : v7 = ((1 : Int32) + (n &&& (7 : Int32)))) (hi : v16 = ((s &&& (2147483647 : Int32)) % v7)) (hj : v26 = ((t &&& (2147483647 : Int32)) % v7)) (hp : v81 = ((1 : Int32) + ((x &&& (2147483647 : Int32)) % w))) (hq : v92 = ((1 : Int32) + ((y &&& (2147483647 : Int32)) % w))) (hw : 1 ≤ w.toInt)
    (hu : u = (if (fn3l v26 (own_upd (own_upd (fun _ => 0) v16.toNatClampNeg v81) v26.toNatClampNeg v92)) = v92 then (1 : Int32) else (0 : Int32))) : ¬ u = 0 := own_one hu (own_rj _ _ _ _ _)
theorem own_g2l (hv7 : v7 = ((1 : Int32) + (n &&& (7 : Int32)))) (hi : v16 = ((s &&& (2147483647 : Int32)) % v7)) (hj : v26 = ((t &&& (2147483647 : Int32)) % v7)) (hp : v81 = ((1 : Int32) + ((x &&& (2147483647 : Int32)) % w))) (hq : v92 = ((1 : Int32) + ((y &&& (2147483647 : Int32)) % w))) (hw : 1 ≤ w.toInt)
    (hu2 : u2 = (if v16 = v26 then v92 else v81)) (hu : u = (if (fn3l v16 (own_upd (own_upd (fun _ => 0) v16.toNatClampNeg v81) v26.toNatClampNeg v92)) = u2 then (1 : Int32) else (0 : Int32))) : ¬ u = 0 := by
  refine own_one hu ?_
  rw [hu2]
  exact own_rd _ _ _ (own_ixr (own_vr hv7).1 hi).1 (own_ixr (own_vr hv7).1 hj).1
theorem own_g1s (hv7 : v7 = ((1 : Int32) + (n &&& (7 : Int32)))) (hi : v16 = ((s &&& (2147483647 : Int32)) % v7)) (hj : v26 = ((t &&& (2147483647 : Int32)) % v7)) (hp : v81 = ((1 : Int32) + ((x &&& (2147483647 : Int32)) % w))) (hq : v92 = ((1 : Int32) + ((y &&& (2147483647 : Int32)) % w))) (hw : 1 ≤ w.toInt) (hM : ¬ (256 : Int32) < w)
    (hu : u = (if (fn3s v26 (own_upd (own_upd (fun _ => 0) v16.toNatClampNeg (nar .byte ((v81 - (1 : Int32)).toInt8.toInt32))) v26.toNatClampNeg (nar .byte ((v92 - (1 : Int32)).toInt8.toInt32)))) = v92 then (1 : Int32) else (0 : Int32))) : ¬ u = 0 := by
  have e : (256 : Int32).toInt = 256 := by decide
  rw [Int32.lt_iff_toInt_lt, e] at hM
  have := own_pv hw hq
  refine own_one hu ?_
  show fn4 (own_upd (own_upd (fun _ => 0) v16.toNatClampNeg (nar .byte ((v81 - (1 : Int32)).toInt8.toInt32))) v26.toNatClampNeg (nar .byte ((v92 - (1 : Int32)).toInt8.toInt32)) v26.toNatClampNeg) + (1 : Int32) = v92
  rw [own_rj]
  exact own_byte (by omega)
theorem own_g2s (hv7 : v7 = ((1 : Int32) + (n &&& (7 : Int32)))) (hi : v16 = ((s &&& (2147483647 : Int32)) % v7)) (hj : v26 = ((t &&& (2147483647 : Int32)) % v7)) (hp : v81 = ((1 : Int32) + ((x &&& (2147483647 : Int32)) % w))) (hq : v92 = ((1 : Int32) + ((y &&& (2147483647 : Int32)) % w))) (hw : 1 ≤ w.toInt) (hM : ¬ (256 : Int32) < w)
    (hu2 : u2 = (if v16 = v26 then v92 else v81)) (hu : u = (if (fn3s v16 (own_upd (own_upd (fun _ => 0) v16.toNatClampNeg (nar .byte ((v81 - (1 : Int32)).toInt8.toInt32))) v26.toNatClampNeg (nar .byte ((v92 - (1 : Int32)).toInt8.toInt32)))) = u2 then (1 : Int32) else (0 : Int32))) : ¬ u = 0 := by
  have e : (256 : Int32).toInt = 256 := by decide
  rw [Int32.lt_iff_toInt_lt, e] at hM
  have := own_pv hw hq
  have := own_pv hw hp
  refine own_one hu ?_
  show fn4 (own_upd (own_upd (fun _ => 0) v16.toNatClampNeg (nar .byte ((v81 - (1 : Int32)).toInt8.toInt32))) v26.toNatClampNeg (nar .byte ((v92 - (1 : Int32)).toInt8.toInt32)) v16.toNatClampNeg) + (1 : Int32) = u2
  rw [own_rd _ _ _ (own_ixr (own_vr hv7).1 hi).1 (own_ixr (own_vr hv7).1 hj).1, hu2]
  by_cases h : v16 = v26
  · rw [if_pos h, if_pos h]; exact own_byte (by omega)
  · rw [if_neg h, if_neg h]; exact own_byte (by omega)
end G
theorem own_is1 {u : Int32} {c : Prop} [Decidable c] (h : u = (if c then (1 : Int32) else (0 : Int32))) (q : ¬ u = 0) : u = 1 := by
  by_cases z : c
  · rw [h, if_pos z]
  · rw [if_neg z] at h; exact absurd h q
theorem own_law (p1 p2 p3 p4 p5 p6 : Int32) : fn0 p1 p2 p3 p4 p5 p6 = 1 := by
  obtain ⟨v7, hv7⟩ : ∃ z, z = ((1 : Int32) + (p6 &&& (7 : Int32))) := ⟨_, rfl⟩
  obtain ⟨v16, hv16⟩ : ∃ z, z = ((p4 &&& (2147483647 : Int32)) % v7) := ⟨_, rfl⟩
  obtain ⟨v26, hv26⟩ : ∃ z, z = ((p5 &&& (2147483647 : Int32)) % v7) := ⟨_, rfl⟩
  obtain ⟨v38, hv38⟩ : ∃ z, z = ((((p6.toUInt32 >>> ((3 : Int32) &&& 31).toUInt32).toInt32) &&& (2147483647 : Int32)) % v7) := ⟨_, rfl⟩
  obtain ⟨w, hw'⟩ : ∃ z, z = (if (p1 &&& (1 : Int32)) = (0 : Int32) then ((1 : Int32) + (((p1.toUInt32 >>> ((1 : Int32) &&& 31).toUInt32).toInt32) &&& (255 : Int32))) else ((257 : Int32) + (((p1.toUInt32 >>> ((1 : Int32) &&& 31).toUInt32).toInt32) % (2147483391 : Int32)))) := ⟨_, rfl⟩
  obtain ⟨v81, hv81⟩ : ∃ z, z = ((1 : Int32) + ((p2 &&& (2147483647 : Int32)) % w)) := ⟨_, rfl⟩
  obtain ⟨v92, hv92⟩ : ∃ z, z = ((1 : Int32) + ((p3 &&& (2147483647 : Int32)) % w)) := ⟨_, rfl⟩
  have hw := own_wd hw'
  have hi := (own_ixr (own_vr hv7).1 hv16).1
  have hj := (own_ixr (own_vr hv7).1 hv26).1
  have hk := (own_ixr (own_vr hv7).1 hv38).1
  simp only [fn0, ← hv7]
  simp only [← hv16, ← hv26, ← hv38, ← hw']
  simp only [← hv81, ← hv92]
  by_cases hM : (256 : Int32) < w
  · rw [if_pos hM]
    have g2 := own_is1 rfl (own_g2l hv7 hv16 hv26 hv81 hv92 hw rfl rfl)
    by_cases c1 : v38 = v16
    · rw [if_pos c1, g2]; rfl
    · rw [if_neg c1]
      by_cases c2 : v38 = v26
      · rw [if_pos c2, g2]; rfl
      · rw [if_neg c2]
        have q : fn3l v38 (own_upd (own_upd (fun _ => 0) v16.toNatClampNeg v81) v26.toNatClampNeg v92) = fn3l v38 (fun _ => 0) := own_rk _ _ _ hi hj hk c1 c2
        rw [if_pos q]; rfl
  · rw [if_neg hM]
    have g2 := own_is1 rfl (own_g2s hv7 hv16 hv26 hv81 hv92 hw hM rfl rfl)
    by_cases c1 : v38 = v16
    · rw [if_pos c1, g2]; rfl
    · rw [if_neg c1]
      by_cases c2 : v38 = v26
      · rw [if_pos c2, g2]; rfl
      · rw [if_neg c2]
        have q : fn3s v38 (own_upd (own_upd (fun _ => 0) v16.toNatClampNeg (nar .byte ((v81 - (1 : Int32)).toInt8.toInt32))) v26.toNatClampNeg (nar .byte ((v92 - (1 : Int32)).toInt8.toInt32))) = fn3s v38 (fun _ => 0) := by
          show fn4 (own_upd (own_upd (fun _ => 0) v16.toNatClampNeg (nar .byte ((v81 - (1 : Int32)).toInt8.toInt32))) v26.toNatClampNeg (nar .byte ((v92 - (1 : Int32)).toInt8.toInt32)) v38.toNatClampNeg) + (1 : Int32) = _
          rw [own_rk _ _ _ hi hj hk c1 c2]; rfl
        rw [if_pos q]; rfl
def Q0 (Z : State) (p1 : Int32) (p2 : Int32) (p3 : Int32) (p4 : Int32) (p5 : Int32) (p6 : Int32) (h0 : Heap) (n0 : Nat) (v : Option Value) (h : Heap) (L : List Loc) : Prop := v = some (.int (fn0 p1 p2 p3 p4 p5 p6)) ∧ Fr n0 L
set_option maxRecDepth 65536 in
set_option maxHeartbeats 40000000 in
theorem rm0 (l : Launch) (Z : State) (a0 : Array Value) (hw : ∀ d ∈ tables_1, d.before a0 Z = true) (ws : List Jvm.Cond) (p1 : Int32) (p2 : Int32) (p3 : Int32) (p4 : Int32) (p5 : Int32) (p6 : Int32) (h0 : Heap) (n0 : Nat) (Z0 : n0 ≤ h0.size) :
    MetFree l x (head1 (Jvm.Cond.code x code maxLocals ret :: ws) room_1) (fun a U => a = #[(.int p1), (.int p2), (.int p3), (.int p4), (.int p5), (.int p6)] ∧ Z.Warmed39 U.vm ∧ U.heap = h0) (fun _ _ _ _ _ => True) (fun _ U o U' => ∃ v L, o = .returned v ∧ Q0 Z p1 p2 p3 p4 p5 p6 h0 n0 v U'.heap L ∧ FrameEnd U o U' L room_1.cells room_1.slots) := by
  refine MetFree.of_bodySF (plainFor_of_name pn0) hisR ?_
  intro p e s m args below meth c s₁ Bd hml0 hP hK
  obtain ⟨rfl, hZ, hh⟩ := hP
  have hx := Bd.exec
  have hby := Bd.bytes
  have hml : c.maxLocals = 17 := hml0
  have hown : s.vm.findClass "com/example/ballast/ballast/model/PortsSetPinLaw" = some m.cls := findClass_of_methodNamed Bd.named
  have hnm := (name_of_methodNamed Bd.named Bd.method).1
  have X0 : Stand p l e room_1 s m #[(.int p1), (.int p2), (.int p3), (.int p4), (.int p5), (.int p6)] below meth c s₁ [] 0 0 := Stand.of_body Bd
  have e0 : s₁.heap = h0 := by rw [← hh, Bd.state]; rfl
  have N0 := Fr.nil n0
  have pre0 : ∀ t, Steps p.tables e below (s₁.setTop (mkF m 0 #[.val (.int p1), .val (.int p2), .val (.int p3), .val (.int p4), .val (.int p5), .val (.int p6), .unset, .unset, .unset, .unset, .unset, .unset, .unset, .unset, .unset, .unset, .unset] [])) t → Steps p.tables e below (s₁.setTop (entryFrame m #[(.int p1), (.int p2), (.int p3), (.int p4), (.int p5), (.int p6)] maxLocals)) t := fun t k => castTop (ef0 m p1 p2 p3 p4 p5 p6) k
  obtain ⟨v7, hv7⟩ : ∃ z : Int32, z = ((1 : Int32) + (p6 &&& (7 : Int32))) := ⟨_, rfl⟩
  have pre1 : ∀ t, Steps p.tables e below (s₁.setTop (mkF m 9 #[.val (.int p1), .val (.int p2), .val (.int p3), .val (.int p4), .val (.int p5), .val (.int p6), .val (.int v7), .unset, .unset, .unset, .unset, .unset, .unset, .unset, .unset, .unset, .unset] [])) t → Steps p.tables e below (s₁.setTop (entryFrame m #[(.int p1), (.int p2), (.int p3), (.int p4), (.int p5), (.int p6)] maxLocals)) t := by
    intro t k
    subst hv7
    refine pre0 t ?_
    show Steps p.tables e below (s₁.setTop (mkF m 0 #[.val (.int p1), .val (.int p2), .val (.int p3), .val (.int p4), .val (.int p5), .val (.int p6), .unset, .unset, .unset, .unset, .unset, .unset, .unset, .unset, .unset, .unset, .unset] [])) _
    refine XS.iconst X0.here hx rfl (hb hby at_0) ?_
    show Steps p.tables e below (s₁.setTop (mkF m 1 #[.val (.int p1), .val (.int p2), .val (.int p3), .val (.int p4), .val (.int p5), .val (.int p6), .unset, .unset, .unset, .unset, .unset, .unset, .unset, .unset, .unset, .unset, .unset] [(.int (1 : Int32))])) _
    refine XS.iload X0.here hx rfl (hb hby at_1) rfl ?_
    show Steps p.tables e below (s₁.setTop (mkF m 3 #[.val (.int p1), .val (.int p2), .val (.int p3), .val (.int p4), .val (.int p5), .val (.int p6), .unset, .unset, .unset, .unset, .unset, .unset, .unset, .unset, .unset, .unset, .unset] [(.int p6), (.int (1 : Int32))])) _
    refine XS.bipush X0.here hx rfl (hb hby at_3) ?_
    show Steps p.tables e below (s₁.setTop (mkF m 5 #[.val (.int p1), .val (.int p2), .val (.int p3), .val (.int p4), .val (.int p5), .val (.int p6), .unset, .unset, .unset, .unset, .unset, .unset, .unset, .unset, .unset, .unset, .unset] [(.int (7 : Int32)), (.int p6), (.int (1 : Int32))])) _
    refine XS.iand X0.here hx rfl (hb hby at_5) rfl ?_
    show Steps p.tables e below (s₁.setTop (mkF m 6 #[.val (.int p1), .val (.int p2), .val (.int p3), .val (.int p4), .val (.int p5), .val (.int p6), .unset, .unset, .unset, .unset, .unset, .unset, .unset, .unset, .unset, .unset, .unset] [(.int (p6 &&& (7 : Int32))), (.int (1 : Int32))])) _
    refine XS.iadd X0.here hx rfl (hb hby at_6) rfl ?_
    show Steps p.tables e below (s₁.setTop (mkF m 7 #[.val (.int p1), .val (.int p2), .val (.int p3), .val (.int p4), .val (.int p5), .val (.int p6), .unset, .unset, .unset, .unset, .unset, .unset, .unset, .unset, .unset, .unset, .unset] [(.int ((1 : Int32) + (p6 &&& (7 : Int32))))])) _
    refine XS.istore X0.here hx rfl (hb hby at_7) rfl (l' := #[.val (.int p1), .val (.int p2), .val (.int p3), .val (.int p4), .val (.int p5), .val (.int p6), .val (.int ((1 : Int32) + (p6 &&& (7 : Int32)))), .unset, .unset, .unset, .unset, .unset, .unset, .unset, .unset, .unset, .unset]) rfl ?_
    show Steps p.tables e below (s₁.setTop (mkF m 9 #[.val (.int p1), .val (.int p2), .val (.int p3), .val (.int p4), .val (.int p5), .val (.int p6), .val (.int ((1 : Int32) + (p6 &&& (7 : Int32)))), .unset, .unset, .unset, .unset, .unset, .unset, .unset, .unset, .unset, .unset] [])) _
    exact k
  obtain ⟨v16, hv16⟩ : ∃ z : Int32, z = ((p4 &&& (2147483647 : Int32)) % v7) := ⟨_, rfl⟩
  have pre2 : ∀ t, Steps p.tables e below (s₁.setTop (mkF m 18 #[.val (.int p1), .val (.int p2), .val (.int p3), .val (.int p4), .val (.int p5), .val (.int p6), .val (.int v7), .val (.int v16), .unset, .unset, .unset, .unset, .unset, .unset, .unset, .unset, .unset] [])) t → Steps p.tables e below (s₁.setTop (entryFrame m #[(.int p1), (.int p2), (.int p3), (.int p4), (.int p5), (.int p6)] maxLocals)) t := by
    intro t k
    subst hv16
    refine pre1 t ?_
    refine XS.iloadN X0.here hx rfl (hb hby at_9) rfl ?_
    show Steps p.tables e below (s₁.setTop (mkF m 10 #[.val (.int p1), .val (.int p2), .val (.int p3), .val (.int p4), .val (.int p5), .val (.int p6), .val (.int v7), .unset, .unset, .unset, .unset, .unset, .unset, .unset, .unset, .unset, .unset] [(.int p4)])) _
    refine X0.ldcInt hx hown (mvT hZ (hw _ (List.mem_of_getElem? (i := 0) rfl))) (g := (mkF m 10 #[.val (.int p1), .val (.int p2), .val (.int p3), .val (.int p4), .val (.int p5), .val (.int p6), .val (.int v7), .unset, .unset, .unset, .unset, .unset, .unset, .unset, .unset, .unset, .unset] [(.int p4)])) rfl (hb hby at_10) _ ?_
    show Steps p.tables e below (s₁.setTop (mkF m 12 #[.val (.int p1), .val (.int p2), .val (.int p3), .val (.int p4), .val (.int p5), .val (.int p6), .val (.int v7), .unset, .unset, .unset, .unset, .unset, .unset, .unset, .unset, .unset, .unset] [(.int (2147483647 : Int32)), (.int p4)])) _
    refine XS.iand X0.here hx rfl (hb hby at_12) rfl ?_
    show Steps p.tables e below (s₁.setTop (mkF m 13 #[.val (.int p1), .val (.int p2), .val (.int p3), .val (.int p4), .val (.int p5), .val (.int p6), .val (.int v7), .unset, .unset, .unset, .unset, .unset, .unset, .unset, .unset, .unset, .unset] [(.int (p4 &&& (2147483647 : Int32)))])) _
    refine XS.iload X0.here hx rfl (hb hby at_13) rfl ?_
    show Steps p.tables e below (s₁.setTop (mkF m 15 #[.val (.int p1), .val (.int p2), .val (.int p3), .val (.int p4), .val (.int p5), .val (.int p6), .val (.int v7), .unset, .unset, .unset, .unset, .unset, .unset, .unset, .unset, .unset, .unset] [(.int v7), (.int (p4 &&& (2147483647 : Int32)))])) _
    refine iremM X0 hx rfl (hb hby at_15) rfl (own_nz hv7) ?_
    show Steps p.tables e below (s₁.setTop (mkF m 16 #[.val (.int p1), .val (.int p2), .val (.int p3), .val (.int p4), .val (.int p5), .val (.int p6), .val (.int v7), .unset, .unset, .unset, .unset, .unset, .unset, .unset, .unset, .unset, .unset] [(.int ((p4 &&& (2147483647 : Int32)) % v7))])) _
    refine XS.istore X0.here hx rfl (hb hby at_16) rfl (l' := #[.val (.int p1), .val (.int p2), .val (.int p3), .val (.int p4), .val (.int p5), .val (.int p6), .val (.int v7), .val (.int ((p4 &&& (2147483647 : Int32)) % v7)), .unset, .unset, .unset, .unset, .unset, .unset, .unset, .unset, .unset]) rfl ?_
    show Steps p.tables e below (s₁.setTop (mkF m 18 #[.val (.int p1), .val (.int p2), .val (.int p3), .val (.int p4), .val (.int p5), .val (.int p6), .val (.int v7), .val (.int ((p4 &&& (2147483647 : Int32)) % v7)), .unset, .unset, .unset, .unset, .unset, .unset, .unset, .unset, .unset] [])) _
    exact k
  obtain ⟨v26, hv26⟩ : ∃ z : Int32, z = ((p5 &&& (2147483647 : Int32)) % v7) := ⟨_, rfl⟩
  have pre3 : ∀ t, Steps p.tables e below (s₁.setTop (mkF m 28 #[.val (.int p1), .val (.int p2), .val (.int p3), .val (.int p4), .val (.int p5), .val (.int p6), .val (.int v7), .val (.int v16), .val (.int v26), .unset, .unset, .unset, .unset, .unset, .unset, .unset, .unset] [])) t → Steps p.tables e below (s₁.setTop (entryFrame m #[(.int p1), (.int p2), (.int p3), (.int p4), (.int p5), (.int p6)] maxLocals)) t := by
    intro t k
    subst hv26
    refine pre2 t ?_
    refine XS.iload X0.here hx rfl (hb hby at_18) rfl ?_
    show Steps p.tables e below (s₁.setTop (mkF m 20 #[.val (.int p1), .val (.int p2), .val (.int p3), .val (.int p4), .val (.int p5), .val (.int p6), .val (.int v7), .val (.int v16), .unset, .unset, .unset, .unset, .unset, .unset, .unset, .unset, .unset] [(.int p5)])) _
    refine X0.ldcInt hx hown (mvT hZ (hw _ (List.mem_of_getElem? (i := 0) rfl))) (g := (mkF m 20 #[.val (.int p1), .val (.int p2), .val (.int p3), .val (.int p4), .val (.int p5), .val (.int p6), .val (.int v7), .val (.int v16), .unset, .unset, .unset, .unset, .unset, .unset, .unset, .unset, .unset] [(.int p5)])) rfl (hb hby at_20) _ ?_
    show Steps p.tables e below (s₁.setTop (mkF m 22 #[.val (.int p1), .val (.int p2), .val (.int p3), .val (.int p4), .val (.int p5), .val (.int p6), .val (.int v7), .val (.int v16), .unset, .unset, .unset, .unset, .unset, .unset, .unset, .unset, .unset] [(.int (2147483647 : Int32)), (.int p5)])) _
    refine XS.iand X0.here hx rfl (hb hby at_22) rfl ?_
    show Steps p.tables e below (s₁.setTop (mkF m 23 #[.val (.int p1), .val (.int p2), .val (.int p3), .val (.int p4), .val (.int p5), .val (.int p6), .val (.int v7), .val (.int v16), .unset, .unset, .unset, .unset, .unset, .unset, .unset, .unset, .unset] [(.int (p5 &&& (2147483647 : Int32)))])) _
    refine XS.iload X0.here hx rfl (hb hby at_23) rfl ?_
    show Steps p.tables e below (s₁.setTop (mkF m 25 #[.val (.int p1), .val (.int p2), .val (.int p3), .val (.int p4), .val (.int p5), .val (.int p6), .val (.int v7), .val (.int v16), .unset, .unset, .unset, .unset, .unset, .unset, .unset, .unset, .unset] [(.int v7), (.int (p5 &&& (2147483647 : Int32)))])) _
    refine iremM X0 hx rfl (hb hby at_25) rfl (own_nz hv7) ?_
    show Steps p.tables e below (s₁.setTop (mkF m 26 #[.val (.int p1), .val (.int p2), .val (.int p3), .val (.int p4), .val (.int p5), .val (.int p6), .val (.int v7), .val (.int v16), .unset, .unset, .unset, .unset, .unset, .unset, .unset, .unset, .unset] [(.int ((p5 &&& (2147483647 : Int32)) % v7))])) _
    refine XS.istore X0.here hx rfl (hb hby at_26) rfl (l' := #[.val (.int p1), .val (.int p2), .val (.int p3), .val (.int p4), .val (.int p5), .val (.int p6), .val (.int v7), .val (.int v16), .val (.int ((p5 &&& (2147483647 : Int32)) % v7)), .unset, .unset, .unset, .unset, .unset, .unset, .unset, .unset]) rfl ?_
    show Steps p.tables e below (s₁.setTop (mkF m 28 #[.val (.int p1), .val (.int p2), .val (.int p3), .val (.int p4), .val (.int p5), .val (.int p6), .val (.int v7), .val (.int v16), .val (.int ((p5 &&& (2147483647 : Int32)) % v7)), .unset, .unset, .unset, .unset, .unset, .unset, .unset, .unset] [])) _
    exact k
  obtain ⟨v38, hv38⟩ : ∃ z : Int32, z = ((((p6.toUInt32 >>> ((3 : Int32) &&& 31).toUInt32).toInt32) &&& (2147483647 : Int32)) % v7) := ⟨_, rfl⟩
  have pre4 : ∀ t, Steps p.tables e below (s₁.setTop (mkF m 40 #[.val (.int p1), .val (.int p2), .val (.int p3), .val (.int p4), .val (.int p5), .val (.int p6), .val (.int v7), .val (.int v16), .val (.int v26), .val (.int v38), .unset, .unset, .unset, .unset, .unset, .unset, .unset] [])) t → Steps p.tables e below (s₁.setTop (entryFrame m #[(.int p1), (.int p2), (.int p3), (.int p4), (.int p5), (.int p6)] maxLocals)) t := by
    intro t k
    subst hv38
    refine pre3 t ?_
    refine XS.iload X0.here hx rfl (hb hby at_28) rfl ?_
    show Steps p.tables e below (s₁.setTop (mkF m 30 #[.val (.int p1), .val (.int p2), .val (.int p3), .val (.int p4), .val (.int p5), .val (.int p6), .val (.int v7), .val (.int v16), .val (.int v26), .unset, .unset, .unset, .unset, .unset, .unset, .unset, .unset] [(.int p6)])) _
    refine XS.iconst X0.here hx rfl (hb hby at_30) ?_
    show Steps p.tables e below (s₁.setTop (mkF m 31 #[.val (.int p1), .val (.int p2), .val (.int p3), .val (.int p4), .val (.int p5), .val (.int p6), .val (.int v7), .val (.int v16), .val (.int v26), .unset, .unset, .unset, .unset, .unset, .unset, .unset, .unset] [(.int (3 : Int32)), (.int p6)])) _
    refine XS.iushr X0.here hx rfl (hb hby at_31) rfl ?_
    show Steps p.tables e below (s₁.setTop (mkF m 32 #[.val (.int p1), .val (.int p2), .val (.int p3), .val (.int p4), .val (.int p5), .val (.int p6), .val (.int v7), .val (.int v16), .val (.int v26), .unset, .unset, .unset, .unset, .unset, .unset, .unset, .unset] [(.int ((p6.toUInt32 >>> ((3 : Int32) &&& 31).toUInt32).toInt32))])) _
    refine X0.ldcInt hx hown (mvT hZ (hw _ (List.mem_of_getElem? (i := 0) rfl))) (g := (mkF m 32 #[.val (.int p1), .val (.int p2), .val (.int p3), .val (.int p4), .val (.int p5), .val (.int p6), .val (.int v7), .val (.int v16), .val (.int v26), .unset, .unset, .unset, .unset, .unset, .unset, .unset, .unset] [(.int ((p6.toUInt32 >>> ((3 : Int32) &&& 31).toUInt32).toInt32))])) rfl (hb hby at_32) _ ?_
    show Steps p.tables e below (s₁.setTop (mkF m 34 #[.val (.int p1), .val (.int p2), .val (.int p3), .val (.int p4), .val (.int p5), .val (.int p6), .val (.int v7), .val (.int v16), .val (.int v26), .unset, .unset, .unset, .unset, .unset, .unset, .unset, .unset] [(.int (2147483647 : Int32)), (.int ((p6.toUInt32 >>> ((3 : Int32) &&& 31).toUInt32).toInt32))])) _
    refine XS.iand X0.here hx rfl (hb hby at_34) rfl ?_
    show Steps p.tables e below (s₁.setTop (mkF m 35 #[.val (.int p1), .val (.int p2), .val (.int p3), .val (.int p4), .val (.int p5), .val (.int p6), .val (.int v7), .val (.int v16), .val (.int v26), .unset, .unset, .unset, .unset, .unset, .unset, .unset, .unset] [(.int (((p6.toUInt32 >>> ((3 : Int32) &&& 31).toUInt32).toInt32) &&& (2147483647 : Int32)))])) _
    refine XS.iload X0.here hx rfl (hb hby at_35) rfl ?_
    show Steps p.tables e below (s₁.setTop (mkF m 37 #[.val (.int p1), .val (.int p2), .val (.int p3), .val (.int p4), .val (.int p5), .val (.int p6), .val (.int v7), .val (.int v16), .val (.int v26), .unset, .unset, .unset, .unset, .unset, .unset, .unset, .unset] [(.int v7), (.int (((p6.toUInt32 >>> ((3 : Int32) &&& 31).toUInt32).toInt32) &&& (2147483647 : Int32)))])) _
    refine iremM X0 hx rfl (hb hby at_37) rfl (own_nz hv7) ?_
    show Steps p.tables e below (s₁.setTop (mkF m 38 #[.val (.int p1), .val (.int p2), .val (.int p3), .val (.int p4), .val (.int p5), .val (.int p6), .val (.int v7), .val (.int v16), .val (.int v26), .unset, .unset, .unset, .unset, .unset, .unset, .unset, .unset] [(.int ((((p6.toUInt32 >>> ((3 : Int32) &&& 31).toUInt32).toInt32) &&& (2147483647 : Int32)) % v7))])) _
    refine XS.istore X0.here hx rfl (hb hby at_38) rfl (l' := #[.val (.int p1), .val (.int p2), .val (.int p3), .val (.int p4), .val (.int p5), .val (.int p6), .val (.int v7), .val (.int v16), .val (.int v26), .val (.int ((((p6.toUInt32 >>> ((3 : Int32) &&& 31).toUInt32).toInt32) &&& (2147483647 : Int32)) % v7)), .unset, .unset, .unset, .unset, .unset, .unset, .unset]) rfl ?_
    show Steps p.tables e below (s₁.setTop (mkF m 40 #[.val (.int p1), .val (.int p2), .val (.int p3), .val (.int p4), .val (.int p5), .val (.int p6), .val (.int v7), .val (.int v16), .val (.int v26), .val (.int ((((p6.toUInt32 >>> ((3 : Int32) &&& 31).toUInt32).toInt32) &&& (2147483647 : Int32)) % v7)), .unset, .unset, .unset, .unset, .unset, .unset, .unset] [])) _
    exact k
  obtain ⟨u7210, hu7210⟩ : ∃ z : Int32, z = (if (p1 &&& (1 : Int32)) = (0 : Int32) then ((1 : Int32) + (((p1.toUInt32 >>> ((1 : Int32) &&& 31).toUInt32).toInt32) &&& (255 : Int32))) else ((257 : Int32) + (((p1.toUInt32 >>> ((1 : Int32) &&& 31).toUInt32).toInt32) % (2147483391 : Int32)))) := ⟨_, rfl⟩
  have pre5 : ∀ t, Steps p.tables e below (s₁.setTop (mkF m 72 #[.val (.int p1), .val (.int p2), .val (.int p3), .val (.int p4), .val (.int p5), .val (.int p6), .val (.int v7), .val (.int v16), .val (.int v26), .val (.int v38), .val (.int u7210), .unset, .unset, .unset, .unset, .unset, .unset] [])) t → Steps p.tables e below (s₁.setTop (entryFrame m #[(.int p1), (.int p2), (.int p3), (.int p4), (.int p5), (.int p6)] maxLocals)) t := by
    intro t k
    subst hu7210
    refine pre4 t ?_
    refine XS.iloadN X0.here hx rfl (hb hby at_40) rfl ?_
    show Steps p.tables e below (s₁.setTop (mkF m 41 #[.val (.int p1), .val (.int p2), .val (.int p3), .val (.int p4), .val (.int p5), .val (.int p6), .val (.int v7), .val (.int v16), .val (.int v26), .val (.int v38), .unset, .unset, .unset, .unset, .unset, .unset, .unset] [(.int p1)])) _
    refine XS.iconst X0.here hx rfl (hb hby at_41) ?_
    show Steps p.tables e below (s₁.setTop (mkF m 42 #[.val (.int p1), .val (.int p2), .val (.int p3), .val (.int p4), .val (.int p5), .val (.int p6), .val (.int v7), .val (.int v16), .val (.int v26), .val (.int v38), .unset, .unset, .unset, .unset, .unset, .unset, .unset] [(.int (1 : Int32)), (.int p1)])) _
    refine XS.iand X0.here hx rfl (hb hby at_42) rfl ?_
    show Steps p.tables e below (s₁.setTop (mkF m 43 #[.val (.int p1), .val (.int p2), .val (.int p3), .val (.int p4), .val (.int p5), .val (.int p6), .val (.int v7), .val (.int v16), .val (.int v26), .val (.int v38), .unset, .unset, .unset, .unset, .unset, .unset, .unset] [(.int (p1 &&& (1 : Int32)))])) _
    by_cases hb43 : (p1 &&& (1 : Int32)) = (0 : Int32)
    · simp only [if_pos hb43] at k
      refine XS.ifNo X0.here hx rfl (hb hby at_43) rfl ((if0 _ _).trans (teq hb43).2) ?_
      show Steps p.tables e below (s₁.setTop (mkF m 46 #[.val (.int p1), .val (.int p2), .val (.int p3), .val (.int p4), .val (.int p5), .val (.int p6), .val (.int v7), .val (.int v16), .val (.int v26), .val (.int v38), .unset, .unset, .unset, .unset, .unset, .unset, .unset] [])) _
      refine XS.iconst X0.here hx rfl (hb hby at_46) ?_
      show Steps p.tables e below (s₁.setTop (mkF m 47 #[.val (.int p1), .val (.int p2), .val (.int p3), .val (.int p4), .val (.int p5), .val (.int p6), .val (.int v7), .val (.int v16), .val (.int v26), .val (.int v38), .unset, .unset, .unset, .unset, .unset, .unset, .unset] [(.int (1 : Int32))])) _
      refine XS.iloadN X0.here hx rfl (hb hby at_47) rfl ?_
      show Steps p.tables e below (s₁.setTop (mkF m 48 #[.val (.int p1), .val (.int p2), .val (.int p3), .val (.int p4), .val (.int p5), .val (.int p6), .val (.int v7), .val (.int v16), .val (.int v26), .val (.int v38), .unset, .unset, .unset, .unset, .unset, .unset, .unset] [(.int p1), (.int (1 : Int32))])) _
      refine XS.iconst X0.here hx rfl (hb hby at_48) ?_
      show Steps p.tables e below (s₁.setTop (mkF m 49 #[.val (.int p1), .val (.int p2), .val (.int p3), .val (.int p4), .val (.int p5), .val (.int p6), .val (.int v7), .val (.int v16), .val (.int v26), .val (.int v38), .unset, .unset, .unset, .unset, .unset, .unset, .unset] [(.int (1 : Int32)), (.int p1), (.int (1 : Int32))])) _
      refine XS.iushr X0.here hx rfl (hb hby at_49) rfl ?_
      show Steps p.tables e below (s₁.setTop (mkF m 50 #[.val (.int p1), .val (.int p2), .val (.int p3), .val (.int p4), .val (.int p5), .val (.int p6), .val (.int v7), .val (.int v16), .val (.int v26), .val (.int v38), .unset, .unset, .unset, .unset, .unset, .unset, .unset] [(.int ((p1.toUInt32 >>> ((1 : Int32) &&& 31).toUInt32).toInt32)), (.int (1 : Int32))])) _
      refine XS.sipush X0.here hx rfl (hb hby at_50) ?_
      show Steps p.tables e below (s₁.setTop (mkF m 53 #[.val (.int p1), .val (.int p2), .val (.int p3), .val (.int p4), .val (.int p5), .val (.int p6), .val (.int v7), .val (.int v16), .val (.int v26), .val (.int v38), .unset, .unset, .unset, .unset, .unset, .unset, .unset] [(.int (255 : Int32)), (.int ((p1.toUInt32 >>> ((1 : Int32) &&& 31).toUInt32).toInt32)), (.int (1 : Int32))])) _
      refine XS.iand X0.here hx rfl (hb hby at_53) rfl ?_
      show Steps p.tables e below (s₁.setTop (mkF m 54 #[.val (.int p1), .val (.int p2), .val (.int p3), .val (.int p4), .val (.int p5), .val (.int p6), .val (.int v7), .val (.int v16), .val (.int v26), .val (.int v38), .unset, .unset, .unset, .unset, .unset, .unset, .unset] [(.int (((p1.toUInt32 >>> ((1 : Int32) &&& 31).toUInt32).toInt32) &&& (255 : Int32))), (.int (1 : Int32))])) _
      refine XS.iadd X0.here hx rfl (hb hby at_54) rfl ?_
      show Steps p.tables e below (s₁.setTop (mkF m 55 #[.val (.int p1), .val (.int p2), .val (.int p3), .val (.int p4), .val (.int p5), .val (.int p6), .val (.int v7), .val (.int v16), .val (.int v26), .val (.int v38), .unset, .unset, .unset, .unset, .unset, .unset, .unset] [(.int ((1 : Int32) + (((p1.toUInt32 >>> ((1 : Int32) &&& 31).toUInt32).toInt32) &&& (255 : Int32))))])) _
      refine XS.istore X0.here hx rfl (hb hby at_55) rfl (l' := #[.val (.int p1), .val (.int p2), .val (.int p3), .val (.int p4), .val (.int p5), .val (.int p6), .val (.int v7), .val (.int v16), .val (.int v26), .val (.int v38), .val (.int ((1 : Int32) + (((p1.toUInt32 >>> ((1 : Int32) &&& 31).toUInt32).toInt32) &&& (255 : Int32)))), .unset, .unset, .unset, .unset, .unset, .unset]) rfl ?_
      show Steps p.tables e below (s₁.setTop (mkF m 57 #[.val (.int p1), .val (.int p2), .val (.int p3), .val (.int p4), .val (.int p5), .val (.int p6), .val (.int v7), .val (.int v16), .val (.int v26), .val (.int v38), .val (.int ((1 : Int32) + (((p1.toUInt32 >>> ((1 : Int32) &&& 31).toUInt32).toInt32) &&& (255 : Int32)))), .unset, .unset, .unset, .unset, .unset, .unset] [])) _
      refine XS.goto X0.here hx rfl (pc0 := 57) (pc' := 72) rfl (hb hby at_57) (by decide) (by decide) ?_
      show Steps p.tables e below (s₁.setTop (mkF m 72 #[.val (.int p1), .val (.int p2), .val (.int p3), .val (.int p4), .val (.int p5), .val (.int p6), .val (.int v7), .val (.int v16), .val (.int v26), .val (.int v38), .val (.int ((1 : Int32) + (((p1.toUInt32 >>> ((1 : Int32) &&& 31).toUInt32).toInt32) &&& (255 : Int32)))), .unset, .unset, .unset, .unset, .unset, .unset] [])) _
      exact k
    · simp only [if_neg hb43] at k
      refine XS.ifYes X0.here hx rfl (pc0 := 43) (pc' := 60) rfl (hb hby at_43) rfl ((if0 _ _).trans (feq hb43).2) (by decide) (by decide) ?_
      show Steps p.tables e below (s₁.setTop (mkF m 60 #[.val (.int p1), .val (.int p2), .val (.int p3), .val (.int p4), .val (.int p5), .val (.int p6), .val (.int v7), .val (.int v16), .val (.int v26), .val (.int v38), .unset, .unset, .unset, .unset, .unset, .unset, .unset] [])) _
      refine XS.sipush X0.here hx rfl (hb hby at_60) ?_
      show Steps p.tables e below (s₁.setTop (mkF m 63 #[.val (.int p1), .val (.int p2), .val (.int p3), .val (.int p4), .val (.int p5), .val (.int p6), .val (.int v7), .val (.int v16), .val (.int v26), .val (.int v38), .unset, .unset, .unset, .unset, .unset, .unset, .unset] [(.int (257 : Int32))])) _
      refine XS.iloadN X0.here hx rfl (hb hby at_63) rfl ?_
      show Steps p.tables e below (s₁.setTop (mkF m 64 #[.val (.int p1), .val (.int p2), .val (.int p3), .val (.int p4), .val (.int p5), .val (.int p6), .val (.int v7), .val (.int v16), .val (.int v26), .val (.int v38), .unset, .unset, .unset, .unset, .unset, .unset, .unset] [(.int p1), (.int (257 : Int32))])) _
      refine XS.iconst X0.here hx rfl (hb hby at_64) ?_
      show Steps p.tables e below (s₁.setTop (mkF m 65 #[.val (.int p1), .val (.int p2), .val (.int p3), .val (.int p4), .val (.int p5), .val (.int p6), .val (.int v7), .val (.int v16), .val (.int v26), .val (.int v38), .unset, .unset, .unset, .unset, .unset, .unset, .unset] [(.int (1 : Int32)), (.int p1), (.int (257 : Int32))])) _
      refine XS.iushr X0.here hx rfl (hb hby at_65) rfl ?_
      show Steps p.tables e below (s₁.setTop (mkF m 66 #[.val (.int p1), .val (.int p2), .val (.int p3), .val (.int p4), .val (.int p5), .val (.int p6), .val (.int v7), .val (.int v16), .val (.int v26), .val (.int v38), .unset, .unset, .unset, .unset, .unset, .unset, .unset] [(.int ((p1.toUInt32 >>> ((1 : Int32) &&& 31).toUInt32).toInt32)), (.int (257 : Int32))])) _
      refine X0.ldcInt hx hown (mvT hZ (hw _ (List.mem_of_getElem? (i := 29) rfl))) (g := (mkF m 66 #[.val (.int p1), .val (.int p2), .val (.int p3), .val (.int p4), .val (.int p5), .val (.int p6), .val (.int v7), .val (.int v16), .val (.int v26), .val (.int v38), .unset, .unset, .unset, .unset, .unset, .unset, .unset] [(.int ((p1.toUInt32 >>> ((1 : Int32) &&& 31).toUInt32).toInt32)), (.int (257 : Int32))])) rfl (hb hby at_66) _ ?_
      show Steps p.tables e below (s₁.setTop (mkF m 68 #[.val (.int p1), .val (.int p2), .val (.int p3), .val (.int p4), .val (.int p5), .val (.int p6), .val (.int v7), .val (.int v16), .val (.int v26), .val (.int v38), .unset, .unset, .unset, .unset, .unset, .unset, .unset] [(.int (2147483391 : Int32)), (.int ((p1.toUInt32 >>> ((1 : Int32) &&& 31).toUInt32).toInt32)), (.int (257 : Int32))])) _
      refine iremM X0 hx rfl (hb hby at_68) rfl (by decide) ?_
      show Steps p.tables e below (s₁.setTop (mkF m 69 #[.val (.int p1), .val (.int p2), .val (.int p3), .val (.int p4), .val (.int p5), .val (.int p6), .val (.int v7), .val (.int v16), .val (.int v26), .val (.int v38), .unset, .unset, .unset, .unset, .unset, .unset, .unset] [(.int (((p1.toUInt32 >>> ((1 : Int32) &&& 31).toUInt32).toInt32) % (2147483391 : Int32))), (.int (257 : Int32))])) _
      refine XS.iadd X0.here hx rfl (hb hby at_69) rfl ?_
      show Steps p.tables e below (s₁.setTop (mkF m 70 #[.val (.int p1), .val (.int p2), .val (.int p3), .val (.int p4), .val (.int p5), .val (.int p6), .val (.int v7), .val (.int v16), .val (.int v26), .val (.int v38), .unset, .unset, .unset, .unset, .unset, .unset, .unset] [(.int ((257 : Int32) + (((p1.toUInt32 >>> ((1 : Int32) &&& 31).toUInt32).toInt32) % (2147483391 : Int32))))])) _
      refine XS.istore X0.here hx rfl (hb hby at_70) rfl (l' := #[.val (.int p1), .val (.int p2), .val (.int p3), .val (.int p4), .val (.int p5), .val (.int p6), .val (.int v7), .val (.int v16), .val (.int v26), .val (.int v38), .val (.int ((257 : Int32) + (((p1.toUInt32 >>> ((1 : Int32) &&& 31).toUInt32).toInt32) % (2147483391 : Int32)))), .unset, .unset, .unset, .unset, .unset, .unset]) rfl ?_
      show Steps p.tables e below (s₁.setTop (mkF m 72 #[.val (.int p1), .val (.int p2), .val (.int p3), .val (.int p4), .val (.int p5), .val (.int p6), .val (.int v7), .val (.int v16), .val (.int v26), .val (.int v38), .val (.int ((257 : Int32) + (((p1.toUInt32 >>> ((1 : Int32) &&& 31).toUInt32).toInt32) % (2147483391 : Int32)))), .unset, .unset, .unset, .unset, .unset, .unset] [])) _
      exact k
  obtain ⟨v81, hv81⟩ : ∃ z : Int32, z = ((1 : Int32) + ((p2 &&& (2147483647 : Int32)) % u7210)) := ⟨_, rfl⟩
  have pre6 : ∀ t, Steps p.tables e below (s₁.setTop (mkF m 83 #[.val (.int p1), .val (.int p2), .val (.int p3), .val (.int p4), .val (.int p5), .val (.int p6), .val (.int v7), .val (.int v16), .val (.int v26), .val (.int v38), .val (.int u7210), .val (.int v81), .unset, .unset, .unset, .unset, .unset] [])) t → Steps p.tables e below (s₁.setTop (entryFrame m #[(.int p1), (.int p2), (.int p3), (.int p4), (.int p5), (.int p6)] maxLocals)) t := by
    intro t k
    subst hv81
    refine pre5 t ?_
    refine XS.iconst X0.here hx rfl (hb hby at_72) ?_
    show Steps p.tables e below (s₁.setTop (mkF m 73 #[.val (.int p1), .val (.int p2), .val (.int p3), .val (.int p4), .val (.int p5), .val (.int p6), .val (.int v7), .val (.int v16), .val (.int v26), .val (.int v38), .val (.int u7210), .unset, .unset, .unset, .unset, .unset, .unset] [(.int (1 : Int32))])) _
    refine XS.iloadN X0.here hx rfl (hb hby at_73) rfl ?_
    show Steps p.tables e below (s₁.setTop (mkF m 74 #[.val (.int p1), .val (.int p2), .val (.int p3), .val (.int p4), .val (.int p5), .val (.int p6), .val (.int v7), .val (.int v16), .val (.int v26), .val (.int v38), .val (.int u7210), .unset, .unset, .unset, .unset, .unset, .unset] [(.int p2), (.int (1 : Int32))])) _
    refine X0.ldcInt hx hown (mvT hZ (hw _ (List.mem_of_getElem? (i := 0) rfl))) (g := (mkF m 74 #[.val (.int p1), .val (.int p2), .val (.int p3), .val (.int p4), .val (.int p5), .val (.int p6), .val (.int v7), .val (.int v16), .val (.int v26), .val (.int v38), .val (.int u7210), .unset, .unset, .unset, .unset, .unset, .unset] [(.int p2), (.int (1 : Int32))])) rfl (hb hby at_74) _ ?_
    show Steps p.tables e below (s₁.setTop (mkF m 76 #[.val (.int p1), .val (.int p2), .val (.int p3), .val (.int p4), .val (.int p5), .val (.int p6), .val (.int v7), .val (.int v16), .val (.int v26), .val (.int v38), .val (.int u7210), .unset, .unset, .unset, .unset, .unset, .unset] [(.int (2147483647 : Int32)), (.int p2), (.int (1 : Int32))])) _
    refine XS.iand X0.here hx rfl (hb hby at_76) rfl ?_
    show Steps p.tables e below (s₁.setTop (mkF m 77 #[.val (.int p1), .val (.int p2), .val (.int p3), .val (.int p4), .val (.int p5), .val (.int p6), .val (.int v7), .val (.int v16), .val (.int v26), .val (.int v38), .val (.int u7210), .unset, .unset, .unset, .unset, .unset, .unset] [(.int (p2 &&& (2147483647 : Int32))), (.int (1 : Int32))])) _
    refine XS.iload X0.here hx rfl (hb hby at_77) rfl ?_
    show Steps p.tables e below (s₁.setTop (mkF m 79 #[.val (.int p1), .val (.int p2), .val (.int p3), .val (.int p4), .val (.int p5), .val (.int p6), .val (.int v7), .val (.int v16), .val (.int v26), .val (.int v38), .val (.int u7210), .unset, .unset, .unset, .unset, .unset, .unset] [(.int u7210), (.int (p2 &&& (2147483647 : Int32))), (.int (1 : Int32))])) _
    refine iremM X0 hx rfl (hb hby at_79) rfl (own_nw hu7210) ?_
    show Steps p.tables e below (s₁.setTop (mkF m 80 #[.val (.int p1), .val (.int p2), .val (.int p3), .val (.int p4), .val (.int p5), .val (.int p6), .val (.int v7), .val (.int v16), .val (.int v26), .val (.int v38), .val (.int u7210), .unset, .unset, .unset, .unset, .unset, .unset] [(.int ((p2 &&& (2147483647 : Int32)) % u7210)), (.int (1 : Int32))])) _
    refine XS.iadd X0.here hx rfl (hb hby at_80) rfl ?_
    show Steps p.tables e below (s₁.setTop (mkF m 81 #[.val (.int p1), .val (.int p2), .val (.int p3), .val (.int p4), .val (.int p5), .val (.int p6), .val (.int v7), .val (.int v16), .val (.int v26), .val (.int v38), .val (.int u7210), .unset, .unset, .unset, .unset, .unset, .unset] [(.int ((1 : Int32) + ((p2 &&& (2147483647 : Int32)) % u7210)))])) _
    refine XS.istore X0.here hx rfl (hb hby at_81) rfl (l' := #[.val (.int p1), .val (.int p2), .val (.int p3), .val (.int p4), .val (.int p5), .val (.int p6), .val (.int v7), .val (.int v16), .val (.int v26), .val (.int v38), .val (.int u7210), .val (.int ((1 : Int32) + ((p2 &&& (2147483647 : Int32)) % u7210))), .unset, .unset, .unset, .unset, .unset]) rfl ?_
    show Steps p.tables e below (s₁.setTop (mkF m 83 #[.val (.int p1), .val (.int p2), .val (.int p3), .val (.int p4), .val (.int p5), .val (.int p6), .val (.int v7), .val (.int v16), .val (.int v26), .val (.int v38), .val (.int u7210), .val (.int ((1 : Int32) + ((p2 &&& (2147483647 : Int32)) % u7210))), .unset, .unset, .unset, .unset, .unset] [])) _
    exact k
  obtain ⟨v92, hv92⟩ : ∃ z : Int32, z = ((1 : Int32) + ((p3 &&& (2147483647 : Int32)) % u7210)) := ⟨_, rfl⟩
  have pre7 : ∀ t, Steps p.tables e below (s₁.setTop (mkF m 94 #[.val (.int p1), .val (.int p2), .val (.int p3), .val (.int p4), .val (.int p5), .val (.int p6), .val (.int v7), .val (.int v16), .val (.int v26), .val (.int v38), .val (.int u7210), .val (.int v81), .val (.int v92), .unset, .unset, .unset, .unset] [])) t → Steps p.tables e below (s₁.setTop (entryFrame m #[(.int p1), (.int p2), (.int p3), (.int p4), (.int p5), (.int p6)] maxLocals)) t := by
    intro t k
    subst hv92
    refine pre6 t ?_
    refine XS.iconst X0.here hx rfl (hb hby at_83) ?_
    show Steps p.tables e below (s₁.setTop (mkF m 84 #[.val (.int p1), .val (.int p2), .val (.int p3), .val (.int p4), .val (.int p5), .val (.int p6), .val (.int v7), .val (.int v16), .val (.int v26), .val (.int v38), .val (.int u7210), .val (.int v81), .unset, .unset, .unset, .unset, .unset] [(.int (1 : Int32))])) _
    refine XS.iloadN X0.here hx rfl (hb hby at_84) rfl ?_
    show Steps p.tables e below (s₁.setTop (mkF m 85 #[.val (.int p1), .val (.int p2), .val (.int p3), .val (.int p4), .val (.int p5), .val (.int p6), .val (.int v7), .val (.int v16), .val (.int v26), .val (.int v38), .val (.int u7210), .val (.int v81), .unset, .unset, .unset, .unset, .unset] [(.int p3), (.int (1 : Int32))])) _
    refine X0.ldcInt hx hown (mvT hZ (hw _ (List.mem_of_getElem? (i := 0) rfl))) (g := (mkF m 85 #[.val (.int p1), .val (.int p2), .val (.int p3), .val (.int p4), .val (.int p5), .val (.int p6), .val (.int v7), .val (.int v16), .val (.int v26), .val (.int v38), .val (.int u7210), .val (.int v81), .unset, .unset, .unset, .unset, .unset] [(.int p3), (.int (1 : Int32))])) rfl (hb hby at_85) _ ?_
    show Steps p.tables e below (s₁.setTop (mkF m 87 #[.val (.int p1), .val (.int p2), .val (.int p3), .val (.int p4), .val (.int p5), .val (.int p6), .val (.int v7), .val (.int v16), .val (.int v26), .val (.int v38), .val (.int u7210), .val (.int v81), .unset, .unset, .unset, .unset, .unset] [(.int (2147483647 : Int32)), (.int p3), (.int (1 : Int32))])) _
    refine XS.iand X0.here hx rfl (hb hby at_87) rfl ?_
    show Steps p.tables e below (s₁.setTop (mkF m 88 #[.val (.int p1), .val (.int p2), .val (.int p3), .val (.int p4), .val (.int p5), .val (.int p6), .val (.int v7), .val (.int v16), .val (.int v26), .val (.int v38), .val (.int u7210), .val (.int v81), .unset, .unset, .unset, .unset, .unset] [(.int (p3 &&& (2147483647 : Int32))), (.int (1 : Int32))])) _
    refine XS.iload X0.here hx rfl (hb hby at_88) rfl ?_
    show Steps p.tables e below (s₁.setTop (mkF m 90 #[.val (.int p1), .val (.int p2), .val (.int p3), .val (.int p4), .val (.int p5), .val (.int p6), .val (.int v7), .val (.int v16), .val (.int v26), .val (.int v38), .val (.int u7210), .val (.int v81), .unset, .unset, .unset, .unset, .unset] [(.int u7210), (.int (p3 &&& (2147483647 : Int32))), (.int (1 : Int32))])) _
    refine iremM X0 hx rfl (hb hby at_90) rfl (own_nw hu7210) ?_
    show Steps p.tables e below (s₁.setTop (mkF m 91 #[.val (.int p1), .val (.int p2), .val (.int p3), .val (.int p4), .val (.int p5), .val (.int p6), .val (.int v7), .val (.int v16), .val (.int v26), .val (.int v38), .val (.int u7210), .val (.int v81), .unset, .unset, .unset, .unset, .unset] [(.int ((p3 &&& (2147483647 : Int32)) % u7210)), (.int (1 : Int32))])) _
    refine XS.iadd X0.here hx rfl (hb hby at_91) rfl ?_
    show Steps p.tables e below (s₁.setTop (mkF m 92 #[.val (.int p1), .val (.int p2), .val (.int p3), .val (.int p4), .val (.int p5), .val (.int p6), .val (.int v7), .val (.int v16), .val (.int v26), .val (.int v38), .val (.int u7210), .val (.int v81), .unset, .unset, .unset, .unset, .unset] [(.int ((1 : Int32) + ((p3 &&& (2147483647 : Int32)) % u7210)))])) _
    refine XS.istore X0.here hx rfl (hb hby at_92) rfl (l' := #[.val (.int p1), .val (.int p2), .val (.int p3), .val (.int p4), .val (.int p5), .val (.int p6), .val (.int v7), .val (.int v16), .val (.int v26), .val (.int v38), .val (.int u7210), .val (.int v81), .val (.int ((1 : Int32) + ((p3 &&& (2147483647 : Int32)) % u7210))), .unset, .unset, .unset, .unset]) rfl ?_
    show Steps p.tables e below (s₁.setTop (mkF m 94 #[.val (.int p1), .val (.int p2), .val (.int p3), .val (.int p4), .val (.int p5), .val (.int p6), .val (.int v7), .val (.int v16), .val (.int v26), .val (.int v38), .val (.int u7210), .val (.int v81), .val (.int ((1 : Int32) + ((p3 &&& (2147483647 : Int32)) % u7210))), .unset, .unset, .unset, .unset] [])) _
    exact k
  have hwd := own_wd hu7210
  by_cases hM : (256 : Int32) < u7210
  · obtain ⟨T8, h8, X8, e8, E8, A8, D8, -, st8⟩ := newO X0 hx hZ hown (hw _ (List.mem_of_getElem? (i := 1) rfl)) (hw _ (List.mem_of_getElem? (i := 2) rfl)) (hw _ (List.mem_of_getElem? (i := 3) rfl)) e0 (g := (mkF m 94 #[.val (.int p1), .val (.int p2), .val (.int p3), .val (.int p4), .val (.int p5), .val (.int p6), .val (.int v7), .val (.int v16), .val (.int v26), .val (.int v38), .val (.int u7210), .val (.int v81), .val (.int v92), .unset, .unset, .unset, .unset] [])) rfl (hb hby at_94) (by decide) (by decide)
    obtain ⟨b8, g8⟩ : ∃ z, z = h0.size := ⟨_, rfl⟩
    rw [← g8] at A8 D8 st8
    have gg8 : n0 ≤ b8 := Nat.le_trans Z0 (Nat.le_of_eq g8.symm)
    have Z8 : n0 ≤ h8.size := Nat.le_trans Z0 E8.1
    have F8_small : Fld Z h8 b8 "com/example/ballast/ballast/model/Ports" "small" "[B" .null := D8 (Or.inr (hw _ (List.mem_of_getElem? (i := 12) rfl))) (ty := (.array .byte)) (by decide)
    have F8_large : Fld Z h8 b8 "com/example/ballast/ballast/model/Ports" "large" "[I" .null := D8 (Or.inr (hw _ (List.mem_of_getElem? (i := 14) rfl))) (ty := (.array .int)) (by decide)
    have pre8 : ∀ t, Steps p.tables e below (T8.setTop (mkF m 97 #[.val (.int p1), .val (.int p2), .val (.int p3), .val (.int p4), .val (.int p5), .val (.int p6), .val (.int v7), .val (.int v16), .val (.int v26), .val (.int v38), .val (.int u7210), .val (.int v81), .val (.int v92), .unset, .unset, .unset, .unset] [(.ref b8)])) t → Steps p.tables e below (s₁.setTop (entryFrame m #[(.int p1), (.int p2), (.int p3), (.int p4), (.int p5), (.int p6)] maxLocals)) t := fun t k => pre7 t (st8 _ k)
    have pre9 : ∀ t, Steps p.tables e below (T8.setTop (mkF m 102 #[.val (.int p1), .val (.int p2), .val (.int p3), .val (.int p4), .val (.int p5), .val (.int p6), .val (.int v7), .val (.int v16), .val (.int v26), .val (.int v38), .val (.int u7210), .val (.int v81), .val (.int v92), .unset, .unset, .unset, .unset] [(.int u7210), (.int v7), (.ref b8), (.ref b8)])) t → Steps p.tables e below (s₁.setTop (entryFrame m #[(.int p1), (.int p2), (.int p3), (.int p4), (.int p5), (.int p6)] maxLocals)) t := by
      intro t k
      refine pre8 t ?_
      refine XS.dup X8.here hx rfl (hb hby at_97) rfl rfl ?_
      show Steps p.tables e below (T8.setTop (mkF m 98 #[.val (.int p1), .val (.int p2), .val (.int p3), .val (.int p4), .val (.int p5), .val (.int p6), .val (.int v7), .val (.int v16), .val (.int v26), .val (.int v38), .val (.int u7210), .val (.int v81), .val (.int v92), .unset, .unset, .unset, .unset] [(.ref b8), (.ref b8)])) _
      refine XS.iload X8.here hx rfl (hb hby at_98) rfl ?_
      show Steps p.tables e below (T8.setTop (mkF m 100 #[.val (.int p1), .val (.int p2), .val (.int p3), .val (.int p4), .val (.int p5), .val (.int p6), .val (.int v7), .val (.int v16), .val (.int v26), .val (.int v38), .val (.int u7210), .val (.int v81), .val (.int v92), .unset, .unset, .unset, .unset] [(.int v7), (.ref b8), (.ref b8)])) _
      refine XS.iload X8.here hx rfl (hb hby at_100) rfl ?_
      show Steps p.tables e below (T8.setTop (mkF m 102 #[.val (.int p1), .val (.int p2), .val (.int p3), .val (.int p4), .val (.int p5), .val (.int p6), .val (.int v7), .val (.int v16), .val (.int v26), .val (.int v38), .val (.int u7210), .val (.int v81), .val (.int v92), .unset, .unset, .unset, .unset] [(.int u7210), (.int v7), (.ref b8), (.ref b8)])) _
      exact k
    obtain ⟨_, _, ⟨T10, L10, k10, n10⟩, -, X10, ⟨Lc10, hQ10, l10, y10, z10⟩, st10⟩ := X8.specialBack hx (y := (⟨"com/example/ballast/ballast/model/Ports", "<init>", "(II)V"⟩ : MethodName)) rfl hown (mvT hZ (hw _ (List.mem_of_getElem? (i := 4) rfl))) (mvT hZ (hw _ (List.mem_of_getElem? (i := 5) rfl))) (mvT hZ (hw _ (List.mem_of_getElem? (i := 6) rfl))) (by decide) (backOf (W := 1) (rm1l l Z a0 hw [] b8 v7 u7210 h8 n0 Z8 A8 F8_small F8_large gg8 (own_sc hv7).1 (own_sc hv7).2 hM) hZ (hw _ (List.mem_of_getElem? (i := 6) rfl)) (hw _ (List.mem_of_getElem? (i := 3) rfl)) (by decide) (by decide)) (g := (mkF m 102 #[.val (.int p1), .val (.int p2), .val (.int p3), .val (.int p4), .val (.int p5), .val (.int p6), .val (.int v7), .val (.int v16), .val (.int v26), .val (.int v38), .val (.int u7210), .val (.int v81), .val (.int v92), .unset, .unset, .unset, .unset] [(.int u7210), (.int v7), (.ref b8), (.ref b8)])) rfl (by rw [hml]; rfl) (Steps.refl _) (a := b8) (argsL := [(.int v7), (.int u7210)]) (rest := [(.ref b8)]) (lenOf pd0_0 rfl) rfl (by show 2 * 0 + _ ≤ _; exact Nat.le_of_eq rfl) (hb hby at_102) (fun _ _ => ⟨rfl, e8, (by decide : 1 + 1 ≤ _), (by decide : 2 + 8 ≤ _)⟩)
    dsimp only [Pt.U, Pt.locs, Pt.cells, Pt.slots] at X10 l10 y10 z10 st10 hQ10
    subst l10 y10 z10
    obtain ⟨b10, rfl, Nq10, Kc10, gg10, ne10, Ec10, Fa10, Fb10, V10⟩ := hQ10
    have F10_0 := A8.keep Kc10
    have Z10 : n0 ≤ T10.heap.size := Nat.le_trans Z8 Kc10.1
    have N10 := Fr.app N0 Nq10
    have pre10 : ∀ t, Steps p.tables e below (T10.setTop (mkF m 105 #[.val (.int p1), .val (.int p2), .val (.int p3), .val (.int p4), .val (.int p5), .val (.int p6), .val (.int v7), .val (.int v16), .val (.int v26), .val (.int v38), .val (.int u7210), .val (.int v81), .val (.int v92), .unset, .unset, .unset, .unset] [(.ref b8)])) t → Steps p.tables e below (s₁.setTop (entryFrame m #[(.int p1), (.int p2), (.int p3), (.int p4), (.int p5), (.int p6)] maxLocals)) t := fun t k => pre9 t (st10.trans k)
    have pre11 : ∀ t, Steps p.tables e below (T10.setTop (mkF m 111 #[.val (.int p1), .val (.int p2), .val (.int p3), .val (.int p4), .val (.int p5), .val (.int p6), .val (.int v7), .val (.int v16), .val (.int v26), .val (.int v38), .val (.int u7210), .val (.int v81), .val (.int v92), .val (.ref b8), .unset, .unset, .unset] [(.int v38), (.ref b8)])) t → Steps p.tables e below (s₁.setTop (entryFrame m #[(.int p1), (.int p2), (.int p3), (.int p4), (.int p5), (.int p6)] maxLocals)) t := by
      intro t k
      refine pre10 t ?_
      refine XS.astore X10.here hx rfl (hb hby at_105) rfl rfl (l' := #[.val (.int p1), .val (.int p2), .val (.int p3), .val (.int p4), .val (.int p5), .val (.int p6), .val (.int v7), .val (.int v16), .val (.int v26), .val (.int v38), .val (.int u7210), .val (.int v81), .val (.int v92), .val (.ref b8), .unset, .unset, .unset]) rfl ?_
      show Steps p.tables e below (T10.setTop (mkF m 107 #[.val (.int p1), .val (.int p2), .val (.int p3), .val (.int p4), .val (.int p5), .val (.int p6), .val (.int v7), .val (.int v16), .val (.int v26), .val (.int v38), .val (.int u7210), .val (.int v81), .val (.int v92), .val (.ref b8), .unset, .unset, .unset] [])) _
      refine XS.aload X10.here hx rfl (hb hby at_107) rfl rfl ?_
      show Steps p.tables e below (T10.setTop (mkF m 109 #[.val (.int p1), .val (.int p2), .val (.int p3), .val (.int p4), .val (.int p5), .val (.int p6), .val (.int v7), .val (.int v16), .val (.int v26), .val (.int v38), .val (.int u7210), .val (.int v81), .val (.int v92), .val (.ref b8), .unset, .unset, .unset] [(.ref b8)])) _
      refine XS.iload X10.here hx rfl (hb hby at_109) rfl ?_
      show Steps p.tables e below (T10.setTop (mkF m 111 #[.val (.int p1), .val (.int p2), .val (.int p3), .val (.int p4), .val (.int p5), .val (.int p6), .val (.int v7), .val (.int v16), .val (.int v26), .val (.int v38), .val (.int u7210), .val (.int v81), .val (.int v92), .val (.ref b8), .unset, .unset, .unset] [(.int v38), (.ref b8)])) _
      exact k
    obtain ⟨cq12, kq12, qa12, qb12, qc12⟩ := isOf hZ rfl Ec10
    obtain ⟨_, _, ⟨T12, L12, k12, n12⟩, -, X12, ⟨Lc12, hQ12, l12, y12, z12⟩, st12⟩ := X10.virtualBack hx (y := (⟨"com/example/ballast/ballast/model/Ports", "get", "(I)I"⟩ : MethodName)) (z := (⟨"com/example/ballast/ballast/model/Ports", "get", "(I)I"⟩ : MethodName)) hown (mvT hZ (hw _ (List.mem_of_getElem? (i := 15) rfl))) (mvT hZ (hw _ (List.mem_of_getElem? (i := 16) rfl))) (notFace_of_selects (args := #[]) (mvT hZ (hw _ (List.mem_of_getElem? (i := 18) rfl)))) (mvT hZ (hw _ (List.mem_of_getElem? (i := 18) rfl))) (mvT hZ (hw _ (List.mem_of_getElem? (i := 17) rfl))) (by decide) (backOf (W := 0) (rm3l l Z a0 hw [] b8 v38 b10 v7 (fun _ => 0) T10.heap n0 Z10 Fa10 Fb10 V10 (own_ix hv7 hv38).1 (own_ix hv7 hv38).2) hZ (hw _ (List.mem_of_getElem? (i := 19) rfl)) (hw _ (List.mem_of_getElem? (i := 3) rfl)) (by decide) (by decide)) qa12 qc12 (g := (mkF m 111 #[.val (.int p1), .val (.int p2), .val (.int p3), .val (.int p4), .val (.int p5), .val (.int p6), .val (.int v7), .val (.int v16), .val (.int v26), .val (.int v38), .val (.int u7210), .val (.int v81), .val (.int v92), .val (.ref b8), .unset, .unset, .unset] [(.int v38), (.ref b8)])) rfl (by rw [hml]; rfl) (Steps.refl _) (argsL := [(.int v38)]) (rest := []) (lenOf pd0_1 rfl) rfl (by show 2 * 0 + _ ≤ _; exact Nat.le_of_eq rfl) (hb hby at_111) (fun _ _ => ⟨rfl, rfl, (by decide : 2 + 0 ≤ _), (by decide : 10 + 0 ≤ _)⟩)
    dsimp only [Pt.U, Pt.locs, Pt.cells, Pt.slots] at X12 l12 y12 z12 st12 hQ12
    subst l12 y12 z12
    obtain ⟨rfl, Nq12, e12⟩ := hQ12
    have N12 := Fr.app N10 Nq12
    have pre12 : ∀ t, Steps p.tables e below (T12.setTop (mkF m 114 #[.val (.int p1), .val (.int p2), .val (.int p3), .val (.int p4), .val (.int p5), .val (.int p6), .val (.int v7), .val (.int v16), .val (.int v26), .val (.int v38), .val (.int u7210), .val (.int v81), .val (.int v92), .val (.ref b8), .unset, .unset, .unset] [(.int (fn3l v38 (fun _ => 0)))])) t → Steps p.tables e below (s₁.setTop (entryFrame m #[(.int p1), (.int p2), (.int p3), (.int p4), (.int p5), (.int p6)] maxLocals)) t := fun t k => pre11 t (st12.trans k)
    obtain ⟨v114, hv114⟩ : ∃ z : Int32, z = (fn3l v38 (fun _ => 0)) := ⟨_, rfl⟩
    have pre13 : ∀ t, Steps p.tables e below (T12.setTop (mkF m 116 #[.val (.int p1), .val (.int p2), .val (.int p3), .val (.int p4), .val (.int p5), .val (.int p6), .val (.int v7), .val (.int v16), .val (.int v26), .val (.int v38), .val (.int u7210), .val (.int v81), .val (.int v92), .val (.ref b8), .val (.int v114), .unset, .unset] [])) t → Steps p.tables e below (s₁.setTop (entryFrame m #[(.int p1), (.int p2), (.int p3), (.int p4), (.int p5), (.int p6)] maxLocals)) t := by
      intro t k
      subst hv114
      refine pre12 t ?_
      refine XS.istore X12.here hx rfl (hb hby at_114) rfl (l' := #[.val (.int p1), .val (.int p2), .val (.int p3), .val (.int p4), .val (.int p5), .val (.int p6), .val (.int v7), .val (.int v16), .val (.int v26), .val (.int v38), .val (.int u7210), .val (.int v81), .val (.int v92), .val (.ref b8), .val (.int (fn3l v38 (fun _ => 0))), .unset, .unset]) rfl ?_
      show Steps p.tables e below (T12.setTop (mkF m 116 #[.val (.int p1), .val (.int p2), .val (.int p3), .val (.int p4), .val (.int p5), .val (.int p6), .val (.int v7), .val (.int v16), .val (.int v26), .val (.int v38), .val (.int u7210), .val (.int v81), .val (.int v92), .val (.ref b8), .val (.int (fn3l v38 (fun _ => 0))), .unset, .unset] [])) _
      exact k
    have pre14 : ∀ t, Steps p.tables e below (T12.setTop (mkF m 122 #[.val (.int p1), .val (.int p2), .val (.int p3), .val (.int p4), .val (.int p5), .val (.int p6), .val (.int v7), .val (.int v16), .val (.int v26), .val (.int v38), .val (.int u7210), .val (.int v81), .val (.int v92), .val (.ref b8), .val (.int v114), .unset, .unset] [(.int v81), (.int v16), (.ref b8)])) t → Steps p.tables e below (s₁.setTop (entryFrame m #[(.int p1), (.int p2), (.int p3), (.int p4), (.int p5), (.int p6)] maxLocals)) t := by
      intro t k
      refine pre13 t ?_
      refine XS.aload X12.here hx rfl (hb hby at_116) rfl rfl ?_
      show Steps p.tables e below (T12.setTop (mkF m 118 #[.val (.int p1), .val (.int p2), .val (.int p3), .val (.int p4), .val (.int p5), .val (.int p6), .val (.int v7), .val (.int v16), .val (.int v26), .val (.int v38), .val (.int u7210), .val (.int v81), .val (.int v92), .val (.ref b8), .val (.int v114), .unset, .unset] [(.ref b8)])) _
      refine XS.iload X12.here hx rfl (hb hby at_118) rfl ?_
      show Steps p.tables e below (T12.setTop (mkF m 120 #[.val (.int p1), .val (.int p2), .val (.int p3), .val (.int p4), .val (.int p5), .val (.int p6), .val (.int v7), .val (.int v16), .val (.int v26), .val (.int v38), .val (.int u7210), .val (.int v81), .val (.int v92), .val (.ref b8), .val (.int v114), .unset, .unset] [(.int v16), (.ref b8)])) _
      refine XS.iload X12.here hx rfl (hb hby at_120) rfl ?_
      show Steps p.tables e below (T12.setTop (mkF m 122 #[.val (.int p1), .val (.int p2), .val (.int p3), .val (.int p4), .val (.int p5), .val (.int p6), .val (.int v7), .val (.int v16), .val (.int v26), .val (.int v38), .val (.int u7210), .val (.int v81), .val (.int v92), .val (.ref b8), .val (.int v114), .unset, .unset] [(.int v81), (.int v16), (.ref b8)])) _
      exact k
    obtain ⟨cq15, kq15, qa15, qb15, qc15⟩ := isOf hZ e12 Ec10
    obtain ⟨_, _, ⟨T15, L15, k15, n15⟩, -, X15, ⟨Lc15, hQ15, l15, y15, z15⟩, st15⟩ := X12.virtualBack hx (y := (⟨"com/example/ballast/ballast/model/Ports", "set", "(II)V"⟩ : MethodName)) (z := (⟨"com/example/ballast/ballast/model/Ports", "set", "(II)V"⟩ : MethodName)) hown (mvT hZ (hw _ (List.mem_of_getElem? (i := 24) rfl))) (mvT hZ (hw _ (List.mem_of_getElem? (i := 25) rfl))) (notFace_of_selects (args := #[]) (mvT hZ (hw _ (List.mem_of_getElem? (i := 27) rfl)))) (mvT hZ (hw _ (List.mem_of_getElem? (i := 27) rfl))) (mvT hZ (hw _ (List.mem_of_getElem? (i := 26) rfl))) (by decide) (backOf (W := 0) (rm2l l Z a0 hw [] b8 v16 v81 b10 v7 (fun _ => 0) T10.heap n0 Z10 Fa10 Fb10 V10 (own_ix hv7 hv16).1 (own_ix hv7 hv16).2 gg10 ne10) hZ (hw _ (List.mem_of_getElem? (i := 28) rfl)) (hw _ (List.mem_of_getElem? (i := 3) rfl)) (by decide) (by decide)) qa15 qc15 (g := (mkF m 122 #[.val (.int p1), .val (.int p2), .val (.int p3), .val (.int p4), .val (.int p5), .val (.int p6), .val (.int v7), .val (.int v16), .val (.int v26), .val (.int v38), .val (.int u7210), .val (.int v81), .val (.int v92), .val (.ref b8), .val (.int v114), .unset, .unset] [(.int v81), (.int v16), (.ref b8)])) rfl (by rw [hml]; rfl) (Steps.refl _) (argsL := [(.int v16), (.int v81)]) (rest := []) (lenOf pd0_0 rfl) rfl (by show 2 * 0 + _ ≤ _; exact Nat.le_of_eq rfl) (hb hby at_122) (fun _ _ => ⟨rfl, e12, (by decide : 2 + 0 ≤ _), (by decide : 10 + 0 ≤ _)⟩)
    dsimp only [Pt.U, Pt.locs, Pt.cells, Pt.slots] at X15 l15 y15 z15 st15 hQ15
    subst l15 y15 z15
    obtain ⟨rfl, Nq15, Kc15, V15⟩ := hQ15
    have F15_0 := Fa10.keep Kc15 (ninS ne10 nin0)
    have F15_1 := Fb10.keep Kc15 (ninS ne10 nin0)
    have F15_2 := Ec10.keep Kc15
    have Z15 : n0 ≤ T15.heap.size := Nat.le_trans Z10 Kc15.1
    have N15 := Fr.app N12 Nq15
    have pre15 : ∀ t, Steps p.tables e below (T15.setTop (mkF m 125 #[.val (.int p1), .val (.int p2), .val (.int p3), .val (.int p4), .val (.int p5), .val (.int p6), .val (.int v7), .val (.int v16), .val (.int v26), .val (.int v38), .val (.int u7210), .val (.int v81), .val (.int v92), .val (.ref b8), .val (.int v114), .unset, .unset] [])) t → Steps p.tables e below (s₁.setTop (entryFrame m #[(.int p1), (.int p2), (.int p3), (.int p4), (.int p5), (.int p6)] maxLocals)) t := fun t k => pre14 t (st15.trans k)
    have pre16 : ∀ t, Steps p.tables e below (T15.setTop (mkF m 131 #[.val (.int p1), .val (.int p2), .val (.int p3), .val (.int p4), .val (.int p5), .val (.int p6), .val (.int v7), .val (.int v16), .val (.int v26), .val (.int v38), .val (.int u7210), .val (.int v81), .val (.int v92), .val (.ref b8), .val (.int v114), .unset, .unset] [(.int v92), (.int v26), (.ref b8)])) t → Steps p.tables e below (s₁.setTop (entryFrame m #[(.int p1), (.int p2), (.int p3), (.int p4), (.int p5), (.int p6)] maxLocals)) t := by
      intro t k
      refine pre15 t ?_
      refine XS.aload X15.here hx rfl (hb hby at_125) rfl rfl ?_
      show Steps p.tables e below (T15.setTop (mkF m 127 #[.val (.int p1), .val (.int p2), .val (.int p3), .val (.int p4), .val (.int p5), .val (.int p6), .val (.int v7), .val (.int v16), .val (.int v26), .val (.int v38), .val (.int u7210), .val (.int v81), .val (.int v92), .val (.ref b8), .val (.int v114), .unset, .unset] [(.ref b8)])) _
      refine XS.iload X15.here hx rfl (hb hby at_127) rfl ?_
      show Steps p.tables e below (T15.setTop (mkF m 129 #[.val (.int p1), .val (.int p2), .val (.int p3), .val (.int p4), .val (.int p5), .val (.int p6), .val (.int v7), .val (.int v16), .val (.int v26), .val (.int v38), .val (.int u7210), .val (.int v81), .val (.int v92), .val (.ref b8), .val (.int v114), .unset, .unset] [(.int v26), (.ref b8)])) _
      refine XS.iload X15.here hx rfl (hb hby at_129) rfl ?_
      show Steps p.tables e below (T15.setTop (mkF m 131 #[.val (.int p1), .val (.int p2), .val (.int p3), .val (.int p4), .val (.int p5), .val (.int p6), .val (.int v7), .val (.int v16), .val (.int v26), .val (.int v38), .val (.int u7210), .val (.int v81), .val (.int v92), .val (.ref b8), .val (.int v114), .unset, .unset] [(.int v92), (.int v26), (.ref b8)])) _
      exact k
    obtain ⟨cq17, kq17, qa17, qb17, qc17⟩ := isOf hZ rfl F15_2
    obtain ⟨_, _, ⟨T17, L17, k17, n17⟩, -, X17, ⟨Lc17, hQ17, l17, y17, z17⟩, st17⟩ := X15.virtualBack hx (y := (⟨"com/example/ballast/ballast/model/Ports", "set", "(II)V"⟩ : MethodName)) (z := (⟨"com/example/ballast/ballast/model/Ports", "set", "(II)V"⟩ : MethodName)) hown (mvT hZ (hw _ (List.mem_of_getElem? (i := 24) rfl))) (mvT hZ (hw _ (List.mem_of_getElem? (i := 25) rfl))) (notFace_of_selects (args := #[]) (mvT hZ (hw _ (List.mem_of_getElem? (i := 27) rfl)))) (mvT hZ (hw _ (List.mem_of_getElem? (i := 27) rfl))) (mvT hZ (hw _ (List.mem_of_getElem? (i := 26) rfl))) (by decide) (backOf (W := 0) (rm2l l Z a0 hw [] b8 v26 v92 b10 v7 (own_upd (fun _ => 0) v16.toNatClampNeg v81) T15.heap n0 Z15 F15_0 F15_1 V15 (own_ix hv7 hv26).1 (own_ix hv7 hv26).2 gg10 ne10) hZ (hw _ (List.mem_of_getElem? (i := 28) rfl)) (hw _ (List.mem_of_getElem? (i := 3) rfl)) (by decide) (by decide)) qa17 qc17 (g := (mkF m 131 #[.val (.int p1), .val (.int p2), .val (.int p3), .val (.int p4), .val (.int p5), .val (.int p6), .val (.int v7), .val (.int v16), .val (.int v26), .val (.int v38), .val (.int u7210), .val (.int v81), .val (.int v92), .val (.ref b8), .val (.int v114), .unset, .unset] [(.int v92), (.int v26), (.ref b8)])) rfl (by rw [hml]; rfl) (Steps.refl _) (argsL := [(.int v26), (.int v92)]) (rest := []) (lenOf pd0_0 rfl) rfl (by show 2 * 0 + _ ≤ _; exact Nat.le_of_eq rfl) (hb hby at_131) (fun _ _ => ⟨rfl, rfl, (by decide : 2 + 0 ≤ _), (by decide : 10 + 0 ≤ _)⟩)
    dsimp only [Pt.U, Pt.locs, Pt.cells, Pt.slots] at X17 l17 y17 z17 st17 hQ17
    subst l17 y17 z17
    obtain ⟨rfl, Nq17, Kc17, V17⟩ := hQ17
    have F17_0 := F15_0.keep Kc17 (ninS ne10 nin0)
    have F17_1 := F15_1.keep Kc17 (ninS ne10 nin0)
    have F17_2 := F15_2.keep Kc17
    have Z17 : n0 ≤ T17.heap.size := Nat.le_trans Z15 Kc17.1
    have N17 := Fr.app N15 Nq17
    have pre17 : ∀ t, Steps p.tables e below (T17.setTop (mkF m 134 #[.val (.int p1), .val (.int p2), .val (.int p3), .val (.int p4), .val (.int p5), .val (.int p6), .val (.int v7), .val (.int v16), .val (.int v26), .val (.int v38), .val (.int u7210), .val (.int v81), .val (.int v92), .val (.ref b8), .val (.int v114), .unset, .unset] [])) t → Steps p.tables e below (s₁.setTop (entryFrame m #[(.int p1), (.int p2), (.int p3), (.int p4), (.int p5), (.int p6)] maxLocals)) t := fun t k => pre16 t (st17.trans k)
    have pre18 : ∀ t, Steps p.tables e below (T17.setTop (mkF m 138 #[.val (.int p1), .val (.int p2), .val (.int p3), .val (.int p4), .val (.int p5), .val (.int p6), .val (.int v7), .val (.int v16), .val (.int v26), .val (.int v38), .val (.int u7210), .val (.int v81), .val (.int v92), .val (.ref b8), .val (.int v114), .unset, .unset] [(.int v26), (.ref b8)])) t → Steps p.tables e below (s₁.setTop (entryFrame m #[(.int p1), (.int p2), (.int p3), (.int p4), (.int p5), (.int p6)] maxLocals)) t := by
      intro t k
      refine pre17 t ?_
      refine XS.aload X17.here hx rfl (hb hby at_134) rfl rfl ?_
      show Steps p.tables e below (T17.setTop (mkF m 136 #[.val (.int p1), .val (.int p2), .val (.int p3), .val (.int p4), .val (.int p5), .val (.int p6), .val (.int v7), .val (.int v16), .val (.int v26), .val (.int v38), .val (.int u7210), .val (.int v81), .val (.int v92), .val (.ref b8), .val (.int v114), .unset, .unset] [(.ref b8)])) _
      refine XS.iload X17.here hx rfl (hb hby at_136) rfl ?_
      show Steps p.tables e below (T17.setTop (mkF m 138 #[.val (.int p1), .val (.int p2), .val (.int p3), .val (.int p4), .val (.int p5), .val (.int p6), .val (.int v7), .val (.int v16), .val (.int v26), .val (.int v38), .val (.int u7210), .val (.int v81), .val (.int v92), .val (.ref b8), .val (.int v114), .unset, .unset] [(.int v26), (.ref b8)])) _
      exact k
    obtain ⟨cq19, kq19, qa19, qb19, qc19⟩ := isOf hZ rfl F17_2
    obtain ⟨_, _, ⟨T19, L19, k19, n19⟩, -, X19, ⟨Lc19, hQ19, l19, y19, z19⟩, st19⟩ := X17.virtualBack hx (y := (⟨"com/example/ballast/ballast/model/Ports", "get", "(I)I"⟩ : MethodName)) (z := (⟨"com/example/ballast/ballast/model/Ports", "get", "(I)I"⟩ : MethodName)) hown (mvT hZ (hw _ (List.mem_of_getElem? (i := 15) rfl))) (mvT hZ (hw _ (List.mem_of_getElem? (i := 16) rfl))) (notFace_of_selects (args := #[]) (mvT hZ (hw _ (List.mem_of_getElem? (i := 18) rfl)))) (mvT hZ (hw _ (List.mem_of_getElem? (i := 18) rfl))) (mvT hZ (hw _ (List.mem_of_getElem? (i := 17) rfl))) (by decide) (backOf (W := 0) (rm3l l Z a0 hw [] b8 v26 b10 v7 (own_upd (own_upd (fun _ => 0) v16.toNatClampNeg v81) v26.toNatClampNeg v92) T17.heap n0 Z17 F17_0 F17_1 V17 (own_ix hv7 hv26).1 (own_ix hv7 hv26).2) hZ (hw _ (List.mem_of_getElem? (i := 19) rfl)) (hw _ (List.mem_of_getElem? (i := 3) rfl)) (by decide) (by decide)) qa19 qc19 (g := (mkF m 138 #[.val (.int p1), .val (.int p2), .val (.int p3), .val (.int p4), .val (.int p5), .val (.int p6), .val (.int v7), .val (.int v16), .val (.int v26), .val (.int v38), .val (.int u7210), .val (.int v81), .val (.int v92), .val (.ref b8), .val (.int v114), .unset, .unset] [(.int v26), (.ref b8)])) rfl (by rw [hml]; rfl) (Steps.refl _) (argsL := [(.int v26)]) (rest := []) (lenOf pd0_1 rfl) rfl (by show 2 * 0 + _ ≤ _; exact Nat.le_of_eq rfl) (hb hby at_138) (fun _ _ => ⟨rfl, rfl, (by decide : 2 + 0 ≤ _), (by decide : 10 + 0 ≤ _)⟩)
    dsimp only [Pt.U, Pt.locs, Pt.cells, Pt.slots] at X19 l19 y19 z19 st19 hQ19
    subst l19 y19 z19
    obtain ⟨rfl, Nq19, e19⟩ := hQ19
    have N19 := Fr.app N17 Nq19
    have pre19 : ∀ t, Steps p.tables e below (T19.setTop (mkF m 141 #[.val (.int p1), .val (.int p2), .val (.int p3), .val (.int p4), .val (.int p5), .val (.int p6), .val (.int v7), .val (.int v16), .val (.int v26), .val (.int v38), .val (.int u7210), .val (.int v81), .val (.int v92), .val (.ref b8), .val (.int v114), .unset, .unset] [(.int (fn3l v26 (own_upd (own_upd (fun _ => 0) v16.toNatClampNeg v81) v26.toNatClampNeg v92)))])) t → Steps p.tables e below (s₁.setTop (entryFrame m #[(.int p1), (.int p2), (.int p3), (.int p4), (.int p5), (.int p6)] maxLocals)) t := fun t k => pre18 t (st19.trans k)
    obtain ⟨u151s0, hu151s0⟩ : ∃ z : Int32, z = (if (fn3l v26 (own_upd (own_upd (fun _ => 0) v16.toNatClampNeg v81) v26.toNatClampNeg v92)) = v92 then (1 : Int32) else (0 : Int32)) := ⟨_, rfl⟩
    have pre20 : ∀ t, Steps p.tables e below (T19.setTop (mkF m 151 #[.val (.int p1), .val (.int p2), .val (.int p3), .val (.int p4), .val (.int p5), .val (.int p6), .val (.int v7), .val (.int v16), .val (.int v26), .val (.int v38), .val (.int u7210), .val (.int v81), .val (.int v92), .val (.ref b8), .val (.int v114), .unset, .unset] [(.int u151s0)])) t → Steps p.tables e below (s₁.setTop (entryFrame m #[(.int p1), (.int p2), (.int p3), (.int p4), (.int p5), (.int p6)] maxLocals)) t := by
      intro t k
      subst hu151s0
      refine pre19 t ?_
      refine XS.iload X19.here hx rfl (hb hby at_141) rfl ?_
      show Steps p.tables e below (T19.setTop (mkF m 143 #[.val (.int p1), .val (.int p2), .val (.int p3), .val (.int p4), .val (.int p5), .val (.int p6), .val (.int v7), .val (.int v16), .val (.int v26), .val (.int v38), .val (.int u7210), .val (.int v81), .val (.int v92), .val (.ref b8), .val (.int v114), .unset, .unset] [(.int v92), (.int (fn3l v26 (own_upd (own_upd (fun _ => 0) v16.toNatClampNeg v81) v26.toNatClampNeg v92)))])) _
      by_cases hb143 : (fn3l v26 (own_upd (own_upd (fun _ => 0) v16.toNatClampNeg v81) v26.toNatClampNeg v92)) = v92
      · simp only [if_pos hb143] at k
        refine XS.icmpNo X19.here hx rfl (hb hby at_143) rfl (teq hb143).2 ?_
        show Steps p.tables e below (T19.setTop (mkF m 146 #[.val (.int p1), .val (.int p2), .val (.int p3), .val (.int p4), .val (.int p5), .val (.int p6), .val (.int v7), .val (.int v16), .val (.int v26), .val (.int v38), .val (.int u7210), .val (.int v81), .val (.int v92), .val (.ref b8), .val (.int v114), .unset, .unset] [])) _
        refine XS.iconst X19.here hx rfl (hb hby at_146) ?_
        show Steps p.tables e below (T19.setTop (mkF m 147 #[.val (.int p1), .val (.int p2), .val (.int p3), .val (.int p4), .val (.int p5), .val (.int p6), .val (.int v7), .val (.int v16), .val (.int v26), .val (.int v38), .val (.int u7210), .val (.int v81), .val (.int v92), .val (.ref b8), .val (.int v114), .unset, .unset] [(.int (1 : Int32))])) _
        refine XS.goto X19.here hx rfl (pc0 := 147) (pc' := 151) rfl (hb hby at_147) (by decide) (by decide) ?_
        show Steps p.tables e below (T19.setTop (mkF m 151 #[.val (.int p1), .val (.int p2), .val (.int p3), .val (.int p4), .val (.int p5), .val (.int p6), .val (.int v7), .val (.int v16), .val (.int v26), .val (.int v38), .val (.int u7210), .val (.int v81), .val (.int v92), .val (.ref b8), .val (.int v114), .unset, .unset] [(.int (1 : Int32))])) _
        exact k
      · simp only [if_neg hb143] at k
        refine XS.icmpYes X19.here hx rfl (pc0 := 143) (pc' := 150) rfl (hb hby at_143) rfl (feq hb143).2 (by decide) (by decide) ?_
        show Steps p.tables e below (T19.setTop (mkF m 150 #[.val (.int p1), .val (.int p2), .val (.int p3), .val (.int p4), .val (.int p5), .val (.int p6), .val (.int v7), .val (.int v16), .val (.int v26), .val (.int v38), .val (.int u7210), .val (.int v81), .val (.int v92), .val (.ref b8), .val (.int v114), .unset, .unset] [])) _
        refine XS.iconst X19.here hx rfl (hb hby at_150) ?_
        show Steps p.tables e below (T19.setTop (mkF m 151 #[.val (.int p1), .val (.int p2), .val (.int p3), .val (.int p4), .val (.int p5), .val (.int p6), .val (.int v7), .val (.int v16), .val (.int v26), .val (.int v38), .val (.int u7210), .val (.int v81), .val (.int v92), .val (.ref b8), .val (.int v114), .unset, .unset] [(.int (0 : Int32))])) _
        exact k
    obtain ⟨u167s0, hu167s0⟩ : ∃ z : Int32, z = (if v16 = v26 then v92 else v81) := ⟨_, rfl⟩
    have pre21 : ∀ t, Steps p.tables e below (T19.setTop (mkF m 167 #[.val (.int p1), .val (.int p2), .val (.int p3), .val (.int p4), .val (.int p5), .val (.int p6), .val (.int v7), .val (.int v16), .val (.int v26), .val (.int v38), .val (.int u7210), .val (.int v81), .val (.int v92), .val (.ref b8), .val (.int v114), .val (.int u151s0), .unset] [(.int u167s0)])) t → Steps p.tables e below (s₁.setTop (entryFrame m #[(.int p1), (.int p2), (.int p3), (.int p4), (.int p5), (.int p6)] maxLocals)) t := by
      intro t k
      subst hu167s0
      refine pre20 t ?_
      refine XS.istore X19.here hx rfl (hb hby at_151) rfl (l' := #[.val (.int p1), .val (.int p2), .val (.int p3), .val (.int p4), .val (.int p5), .val (.int p6), .val (.int v7), .val (.int v16), .val (.int v26), .val (.int v38), .val (.int u7210), .val (.int v81), .val (.int v92), .val (.ref b8), .val (.int v114), .val (.int u151s0), .unset]) rfl ?_
      show Steps p.tables e below (T19.setTop (mkF m 153 #[.val (.int p1), .val (.int p2), .val (.int p3), .val (.int p4), .val (.int p5), .val (.int p6), .val (.int v7), .val (.int v16), .val (.int v26), .val (.int v38), .val (.int u7210), .val (.int v81), .val (.int v92), .val (.ref b8), .val (.int v114), .val (.int u151s0), .unset] [])) _
      refine XS.iload X19.here hx rfl (hb hby at_153) rfl ?_
      show Steps p.tables e below (T19.setTop (mkF m 155 #[.val (.int p1), .val (.int p2), .val (.int p3), .val (.int p4), .val (.int p5), .val (.int p6), .val (.int v7), .val (.int v16), .val (.int v26), .val (.int v38), .val (.int u7210), .val (.int v81), .val (.int v92), .val (.ref b8), .val (.int v114), .val (.int u151s0), .unset] [(.int v16)])) _
      refine XS.iload X19.here hx rfl (hb hby at_155) rfl ?_
      show Steps p.tables e below (T19.setTop (mkF m 157 #[.val (.int p1), .val (.int p2), .val (.int p3), .val (.int p4), .val (.int p5), .val (.int p6), .val (.int v7), .val (.int v16), .val (.int v26), .val (.int v38), .val (.int u7210), .val (.int v81), .val (.int v92), .val (.ref b8), .val (.int v114), .val (.int u151s0), .unset] [(.int v26), (.int v16)])) _
      by_cases hb157 : v16 = v26
      · simp only [if_pos hb157] at k
        refine XS.icmpNo X19.here hx rfl (hb hby at_157) rfl (teq hb157).2 ?_
        show Steps p.tables e below (T19.setTop (mkF m 160 #[.val (.int p1), .val (.int p2), .val (.int p3), .val (.int p4), .val (.int p5), .val (.int p6), .val (.int v7), .val (.int v16), .val (.int v26), .val (.int v38), .val (.int u7210), .val (.int v81), .val (.int v92), .val (.ref b8), .val (.int v114), .val (.int u151s0), .unset] [])) _
        refine XS.iload X19.here hx rfl (hb hby at_160) rfl ?_
        show Steps p.tables e below (T19.setTop (mkF m 162 #[.val (.int p1), .val (.int p2), .val (.int p3), .val (.int p4), .val (.int p5), .val (.int p6), .val (.int v7), .val (.int v16), .val (.int v26), .val (.int v38), .val (.int u7210), .val (.int v81), .val (.int v92), .val (.ref b8), .val (.int v114), .val (.int u151s0), .unset] [(.int v92)])) _
        refine XS.goto X19.here hx rfl (pc0 := 162) (pc' := 167) rfl (hb hby at_162) (by decide) (by decide) ?_
        show Steps p.tables e below (T19.setTop (mkF m 167 #[.val (.int p1), .val (.int p2), .val (.int p3), .val (.int p4), .val (.int p5), .val (.int p6), .val (.int v7), .val (.int v16), .val (.int v26), .val (.int v38), .val (.int u7210), .val (.int v81), .val (.int v92), .val (.ref b8), .val (.int v114), .val (.int u151s0), .unset] [(.int v92)])) _
        exact k
      · simp only [if_neg hb157] at k
        refine XS.icmpYes X19.here hx rfl (pc0 := 157) (pc' := 165) rfl (hb hby at_157) rfl (feq hb157).2 (by decide) (by decide) ?_
        show Steps p.tables e below (T19.setTop (mkF m 165 #[.val (.int p1), .val (.int p2), .val (.int p3), .val (.int p4), .val (.int p5), .val (.int p6), .val (.int v7), .val (.int v16), .val (.int v26), .val (.int v38), .val (.int u7210), .val (.int v81), .val (.int v92), .val (.ref b8), .val (.int v114), .val (.int u151s0), .unset] [])) _
        refine XS.iload X19.here hx rfl (hb hby at_165) rfl ?_
        show Steps p.tables e below (T19.setTop (mkF m 167 #[.val (.int p1), .val (.int p2), .val (.int p3), .val (.int p4), .val (.int p5), .val (.int p6), .val (.int v7), .val (.int v16), .val (.int v26), .val (.int v38), .val (.int u7210), .val (.int v81), .val (.int v92), .val (.ref b8), .val (.int v114), .val (.int u151s0), .unset] [(.int v81)])) _
        exact k
    have hd171 : ¬ u151s0 = (0 : Int32) := own_g1l hv7 hv16 hv26 hv81 hv92 hwd hu151s0
    have pre22 : ∀ t, Steps p.tables e below (T19.setTop (mkF m 178 #[.val (.int p1), .val (.int p2), .val (.int p3), .val (.int p4), .val (.int p5), .val (.int p6), .val (.int v7), .val (.int v16), .val (.int v26), .val (.int v38), .val (.int u7210), .val (.int v81), .val (.int v92), .val (.ref b8), .val (.int v114), .val (.int u151s0), .val (.int u167s0)] [(.int v16), (.ref b8)])) t → Steps p.tables e below (s₁.setTop (entryFrame m #[(.int p1), (.int p2), (.int p3), (.int p4), (.int p5), (.int p6)] maxLocals)) t := by
      intro t k
      refine pre21 t ?_
      refine XS.istore X19.here hx rfl (hb hby at_167) rfl (l' := #[.val (.int p1), .val (.int p2), .val (.int p3), .val (.int p4), .val (.int p5), .val (.int p6), .val (.int v7), .val (.int v16), .val (.int v26), .val (.int v38), .val (.int u7210), .val (.int v81), .val (.int v92), .val (.ref b8), .val (.int v114), .val (.int u151s0), .val (.int u167s0)]) rfl ?_
      show Steps p.tables e below (T19.setTop (mkF m 169 #[.val (.int p1), .val (.int p2), .val (.int p3), .val (.int p4), .val (.int p5), .val (.int p6), .val (.int v7), .val (.int v16), .val (.int v26), .val (.int v38), .val (.int u7210), .val (.int v81), .val (.int v92), .val (.ref b8), .val (.int v114), .val (.int u151s0), .val (.int u167s0)] [])) _
      refine XS.iload X19.here hx rfl (hb hby at_169) rfl ?_
      show Steps p.tables e below (T19.setTop (mkF m 171 #[.val (.int p1), .val (.int p2), .val (.int p3), .val (.int p4), .val (.int p5), .val (.int p6), .val (.int v7), .val (.int v16), .val (.int v26), .val (.int v38), .val (.int u7210), .val (.int v81), .val (.int v92), .val (.ref b8), .val (.int v114), .val (.int u151s0), .val (.int u167s0)] [(.int u151s0)])) _
      refine XS.ifNo X19.here hx rfl (hb hby at_171) rfl ((if0 _ _).trans (feq hd171).1) ?_
      show Steps p.tables e below (T19.setTop (mkF m 174 #[.val (.int p1), .val (.int p2), .val (.int p3), .val (.int p4), .val (.int p5), .val (.int p6), .val (.int v7), .val (.int v16), .val (.int v26), .val (.int v38), .val (.int u7210), .val (.int v81), .val (.int v92), .val (.ref b8), .val (.int v114), .val (.int u151s0), .val (.int u167s0)] [])) _
      refine XS.aload X19.here hx rfl (hb hby at_174) rfl rfl ?_
      show Steps p.tables e below (T19.setTop (mkF m 176 #[.val (.int p1), .val (.int p2), .val (.int p3), .val (.int p4), .val (.int p5), .val (.int p6), .val (.int v7), .val (.int v16), .val (.int v26), .val (.int v38), .val (.int u7210), .val (.int v81), .val (.int v92), .val (.ref b8), .val (.int v114), .val (.int u151s0), .val (.int u167s0)] [(.ref b8)])) _
      refine XS.iload X19.here hx rfl (hb hby at_176) rfl ?_
      show Steps p.tables e below (T19.setTop (mkF m 178 #[.val (.int p1), .val (.int p2), .val (.int p3), .val (.int p4), .val (.int p5), .val (.int p6), .val (.int v7), .val (.int v16), .val (.int v26), .val (.int v38), .val (.int u7210), .val (.int v81), .val (.int v92), .val (.ref b8), .val (.int v114), .val (.int u151s0), .val (.int u167s0)] [(.int v16), (.ref b8)])) _
      exact k
    obtain ⟨cq23, kq23, qa23, qb23, qc23⟩ := isOf hZ e19 F17_2
    obtain ⟨_, _, ⟨T23, L23, k23, n23⟩, -, X23, ⟨Lc23, hQ23, l23, y23, z23⟩, st23⟩ := X19.virtualBack hx (y := (⟨"com/example/ballast/ballast/model/Ports", "get", "(I)I"⟩ : MethodName)) (z := (⟨"com/example/ballast/ballast/model/Ports", "get", "(I)I"⟩ : MethodName)) hown (mvT hZ (hw _ (List.mem_of_getElem? (i := 15) rfl))) (mvT hZ (hw _ (List.mem_of_getElem? (i := 16) rfl))) (notFace_of_selects (args := #[]) (mvT hZ (hw _ (List.mem_of_getElem? (i := 18) rfl)))) (mvT hZ (hw _ (List.mem_of_getElem? (i := 18) rfl))) (mvT hZ (hw _ (List.mem_of_getElem? (i := 17) rfl))) (by decide) (backOf (W := 0) (rm3l l Z a0 hw [] b8 v16 b10 v7 (own_upd (own_upd (fun _ => 0) v16.toNatClampNeg v81) v26.toNatClampNeg v92) T17.heap n0 Z17 F17_0 F17_1 V17 (own_ix hv7 hv16).1 (own_ix hv7 hv16).2) hZ (hw _ (List.mem_of_getElem? (i := 19) rfl)) (hw _ (List.mem_of_getElem? (i := 3) rfl)) (by decide) (by decide)) qa23 qc23 (g := (mkF m 178 #[.val (.int p1), .val (.int p2), .val (.int p3), .val (.int p4), .val (.int p5), .val (.int p6), .val (.int v7), .val (.int v16), .val (.int v26), .val (.int v38), .val (.int u7210), .val (.int v81), .val (.int v92), .val (.ref b8), .val (.int v114), .val (.int u151s0), .val (.int u167s0)] [(.int v16), (.ref b8)])) rfl (by rw [hml]; rfl) (Steps.refl _) (argsL := [(.int v16)]) (rest := []) (lenOf pd0_1 rfl) rfl (by show 2 * 0 + _ ≤ _; exact Nat.le_of_eq rfl) (hb hby at_178) (fun _ _ => ⟨rfl, e19, (by decide : 2 + 0 ≤ _), (by decide : 10 + 0 ≤ _)⟩)
    dsimp only [Pt.U, Pt.locs, Pt.cells, Pt.slots] at X23 l23 y23 z23 st23 hQ23
    subst l23 y23 z23
    obtain ⟨rfl, Nq23, e23⟩ := hQ23
    have N23 := Fr.app N19 Nq23
    have pre23 : ∀ t, Steps p.tables e below (T23.setTop (mkF m 181 #[.val (.int p1), .val (.int p2), .val (.int p3), .val (.int p4), .val (.int p5), .val (.int p6), .val (.int v7), .val (.int v16), .val (.int v26), .val (.int v38), .val (.int u7210), .val (.int v81), .val (.int v92), .val (.ref b8), .val (.int v114), .val (.int u151s0), .val (.int u167s0)] [(.int (fn3l v16 (own_upd (own_upd (fun _ => 0) v16.toNatClampNeg v81) v26.toNatClampNeg v92)))])) t → Steps p.tables e below (s₁.setTop (entryFrame m #[(.int p1), (.int p2), (.int p3), (.int p4), (.int p5), (.int p6)] maxLocals)) t := fun t k => pre22 t (st23.trans k)
    obtain ⟨u191s0, hu191s0⟩ : ∃ z : Int32, z = (if (fn3l v16 (own_upd (own_upd (fun _ => 0) v16.toNatClampNeg v81) v26.toNatClampNeg v92)) = u167s0 then (1 : Int32) else (0 : Int32)) := ⟨_, rfl⟩
    have pre24 : ∀ t, Steps p.tables e below (T23.setTop (mkF m 191 #[.val (.int p1), .val (.int p2), .val (.int p3), .val (.int p4), .val (.int p5), .val (.int p6), .val (.int v7), .val (.int v16), .val (.int v26), .val (.int v38), .val (.int u7210), .val (.int v81), .val (.int v92), .val (.ref b8), .val (.int v114), .val (.int u151s0), .val (.int u167s0)] [(.int u191s0)])) t → Steps p.tables e below (s₁.setTop (entryFrame m #[(.int p1), (.int p2), (.int p3), (.int p4), (.int p5), (.int p6)] maxLocals)) t := by
      intro t k
      subst hu191s0
      refine pre23 t ?_
      refine XS.iload X23.here hx rfl (hb hby at_181) rfl ?_
      show Steps p.tables e below (T23.setTop (mkF m 183 #[.val (.int p1), .val (.int p2), .val (.int p3), .val (.int p4), .val (.int p5), .val (.int p6), .val (.int v7), .val (.int v16), .val (.int v26), .val (.int v38), .val (.int u7210), .val (.int v81), .val (.int v92), .val (.ref b8), .val (.int v114), .val (.int u151s0), .val (.int u167s0)] [(.int u167s0), (.int (fn3l v16 (own_upd (own_upd (fun _ => 0) v16.toNatClampNeg v81) v26.toNatClampNeg v92)))])) _
      by_cases hb183 : (fn3l v16 (own_upd (own_upd (fun _ => 0) v16.toNatClampNeg v81) v26.toNatClampNeg v92)) = u167s0
      · simp only [if_pos hb183] at k
        refine XS.icmpNo X23.here hx rfl (hb hby at_183) rfl (teq hb183).2 ?_
        show Steps p.tables e below (T23.setTop (mkF m 186 #[.val (.int p1), .val (.int p2), .val (.int p3), .val (.int p4), .val (.int p5), .val (.int p6), .val (.int v7), .val (.int v16), .val (.int v26), .val (.int v38), .val (.int u7210), .val (.int v81), .val (.int v92), .val (.ref b8), .val (.int v114), .val (.int u151s0), .val (.int u167s0)] [])) _
        refine XS.iconst X23.here hx rfl (hb hby at_186) ?_
        show Steps p.tables e below (T23.setTop (mkF m 187 #[.val (.int p1), .val (.int p2), .val (.int p3), .val (.int p4), .val (.int p5), .val (.int p6), .val (.int v7), .val (.int v16), .val (.int v26), .val (.int v38), .val (.int u7210), .val (.int v81), .val (.int v92), .val (.ref b8), .val (.int v114), .val (.int u151s0), .val (.int u167s0)] [(.int (1 : Int32))])) _
        refine XS.goto X23.here hx rfl (pc0 := 187) (pc' := 191) rfl (hb hby at_187) (by decide) (by decide) ?_
        show Steps p.tables e below (T23.setTop (mkF m 191 #[.val (.int p1), .val (.int p2), .val (.int p3), .val (.int p4), .val (.int p5), .val (.int p6), .val (.int v7), .val (.int v16), .val (.int v26), .val (.int v38), .val (.int u7210), .val (.int v81), .val (.int v92), .val (.ref b8), .val (.int v114), .val (.int u151s0), .val (.int u167s0)] [(.int (1 : Int32))])) _
        exact k
      · simp only [if_neg hb183] at k
        refine XS.icmpYes X23.here hx rfl (pc0 := 183) (pc' := 190) rfl (hb hby at_183) rfl (feq hb183).2 (by decide) (by decide) ?_
        show Steps p.tables e below (T23.setTop (mkF m 190 #[.val (.int p1), .val (.int p2), .val (.int p3), .val (.int p4), .val (.int p5), .val (.int p6), .val (.int v7), .val (.int v16), .val (.int v26), .val (.int v38), .val (.int u7210), .val (.int v81), .val (.int v92), .val (.ref b8), .val (.int v114), .val (.int u151s0), .val (.int u167s0)] [])) _
        refine XS.iconst X23.here hx rfl (hb hby at_190) ?_
        show Steps p.tables e below (T23.setTop (mkF m 191 #[.val (.int p1), .val (.int p2), .val (.int p3), .val (.int p4), .val (.int p5), .val (.int p6), .val (.int v7), .val (.int v16), .val (.int v26), .val (.int v38), .val (.int u7210), .val (.int v81), .val (.int v92), .val (.ref b8), .val (.int v114), .val (.int u151s0), .val (.int u167s0)] [(.int (0 : Int32))])) _
        exact k
    have pre25 : ∀ t, Steps p.tables e below (T23.setTop (mkF m 197 #[.val (.int p1), .val (.int p2), .val (.int p3), .val (.int p4), .val (.int p5), .val (.int p6), .val (.int v7), .val (.int v16), .val (.int v26), .val (.int v38), .val (.int u7210), .val (.int v81), .val (.int v92), .val (.ref b8), .val (.int v114), .val (.int u191s0), .val (.int u167s0)] [(.int v16), (.int v38)])) t → Steps p.tables e below (s₁.setTop (entryFrame m #[(.int p1), (.int p2), (.int p3), (.int p4), (.int p5), (.int p6)] maxLocals)) t := by
      intro t k
      refine pre24 t ?_
      refine XS.istore X23.here hx rfl (hb hby at_191) rfl (l' := #[.val (.int p1), .val (.int p2), .val (.int p3), .val (.int p4), .val (.int p5), .val (.int p6), .val (.int v7), .val (.int v16), .val (.int v26), .val (.int v38), .val (.int u7210), .val (.int v81), .val (.int v92), .val (.ref b8), .val (.int v114), .val (.int u191s0), .val (.int u167s0)]) rfl ?_
      show Steps p.tables e below (T23.setTop (mkF m 193 #[.val (.int p1), .val (.int p2), .val (.int p3), .val (.int p4), .val (.int p5), .val (.int p6), .val (.int v7), .val (.int v16), .val (.int v26), .val (.int v38), .val (.int u7210), .val (.int v81), .val (.int v92), .val (.ref b8), .val (.int v114), .val (.int u191s0), .val (.int u167s0)] [])) _
      refine XS.iload X23.here hx rfl (hb hby at_193) rfl ?_
      show Steps p.tables e below (T23.setTop (mkF m 195 #[.val (.int p1), .val (.int p2), .val (.int p3), .val (.int p4), .val (.int p5), .val (.int p6), .val (.int v7), .val (.int v16), .val (.int v26), .val (.int v38), .val (.int u7210), .val (.int v81), .val (.int v92), .val (.ref b8), .val (.int v114), .val (.int u191s0), .val (.int u167s0)] [(.int v38)])) _
      refine XS.iload X23.here hx rfl (hb hby at_195) rfl ?_
      show Steps p.tables e below (T23.setTop (mkF m 197 #[.val (.int p1), .val (.int p2), .val (.int p3), .val (.int p4), .val (.int p5), .val (.int p6), .val (.int v7), .val (.int v16), .val (.int v26), .val (.int v38), .val (.int u7210), .val (.int v81), .val (.int v92), .val (.ref b8), .val (.int v114), .val (.int u191s0), .val (.int u167s0)] [(.int v16), (.int v38)])) _
      exact k
    by_cases hc197 : v38 = v16
    · have pre26 : ∀ t, Steps p.tables e below (T23.setTop (mkF m 233 #[.val (.int p1), .val (.int p2), .val (.int p3), .val (.int p4), .val (.int p5), .val (.int p6), .val (.int v7), .val (.int v16), .val (.int v26), .val (.int v38), .val (.int u7210), .val (.int v81), .val (.int v92), .val (.ref b8), .val (.int v114), .val (.int u191s0), .val (.int u167s0)] [(.int u191s0)])) t → Steps p.tables e below (s₁.setTop (entryFrame m #[(.int p1), (.int p2), (.int p3), (.int p4), (.int p5), (.int p6)] maxLocals)) t := by
        intro t k
        refine pre25 t ?_
        refine XS.icmpYes X23.here hx rfl (pc0 := 197) (pc' := 231) rfl (hb hby at_197) rfl (teq hc197).1 (by decide) (by decide) ?_
        show Steps p.tables e below (T23.setTop (mkF m 231 #[.val (.int p1), .val (.int p2), .val (.int p3), .val (.int p4), .val (.int p5), .val (.int p6), .val (.int v7), .val (.int v16), .val (.int v26), .val (.int v38), .val (.int u7210), .val (.int v81), .val (.int v92), .val (.ref b8), .val (.int v114), .val (.int u191s0), .val (.int u167s0)] [])) _
        refine XS.iload X23.here hx rfl (hb hby at_231) rfl ?_
        show Steps p.tables e below (T23.setTop (mkF m 233 #[.val (.int p1), .val (.int p2), .val (.int p3), .val (.int p4), .val (.int p5), .val (.int p6), .val (.int v7), .val (.int v16), .val (.int v26), .val (.int v38), .val (.int u7210), .val (.int v81), .val (.int v92), .val (.ref b8), .val (.int v114), .val (.int u191s0), .val (.int u167s0)] [(.int u191s0)])) _
        exact k
      obtain ⟨fs, hr, hrun, hended, hW, hsame⟩ := X23.leave (v := some (.int (nar .boolean u191s0))) (fun h => by rw [Bd.returns] at h; cases h)
      refine ⟨_, _, pre26 _ ?_, hrun, hended, _, _, rfl, ?_, ⟨_, rfl⟩, hW, hsame.mono (by decide) (by decide)⟩
      · show Steps p.tables e below (T23.setTop (mkF m 233 #[.val (.int p1), .val (.int p2), .val (.int p3), .val (.int p4), .val (.int p5), .val (.int p6), .val (.int v7), .val (.int v16), .val (.int v26), .val (.int v38), .val (.int u7210), .val (.int v81), .val (.int v92), .val (.ref b8), .val (.int v114), .val (.int u191s0), .val (.int u167s0)] [(.int u191s0)])) _
        exact retN X23 hx (t := .boolean) Bd.returns (by simp) (hb hby at_233) hr
      · show Q0 Z p1 p2 p3 p4 p5 p6 h0 n0 _ T23.heap _
        rw [e23]
        refine ⟨?_, N23⟩
        subst hu191s0 hu167s0 hu151s0 hv114 hv92 hv81 hu7210 hv38 hv26 hv16 hv7
        simp only [fn0, if_pos hM, if_pos hc197]
    · have pre27 : ∀ t, Steps p.tables e below (T23.setTop (mkF m 204 #[.val (.int p1), .val (.int p2), .val (.int p3), .val (.int p4), .val (.int p5), .val (.int p6), .val (.int v7), .val (.int v16), .val (.int v26), .val (.int v38), .val (.int u7210), .val (.int v81), .val (.int v92), .val (.ref b8), .val (.int v114), .val (.int u191s0), .val (.int u167s0)] [(.int v26), (.int v38)])) t → Steps p.tables e below (s₁.setTop (entryFrame m #[(.int p1), (.int p2), (.int p3), (.int p4), (.int p5), (.int p6)] maxLocals)) t := by
        intro t k
        refine pre25 t ?_
        refine XS.icmpNo X23.here hx rfl (hb hby at_197) rfl (feq hc197).1 ?_
        show Steps p.tables e below (T23.setTop (mkF m 200 #[.val (.int p1), .val (.int p2), .val (.int p3), .val (.int p4), .val (.int p5), .val (.int p6), .val (.int v7), .val (.int v16), .val (.int v26), .val (.int v38), .val (.int u7210), .val (.int v81), .val (.int v92), .val (.ref b8), .val (.int v114), .val (.int u191s0), .val (.int u167s0)] [])) _
        refine XS.iload X23.here hx rfl (hb hby at_200) rfl ?_
        show Steps p.tables e below (T23.setTop (mkF m 202 #[.val (.int p1), .val (.int p2), .val (.int p3), .val (.int p4), .val (.int p5), .val (.int p6), .val (.int v7), .val (.int v16), .val (.int v26), .val (.int v38), .val (.int u7210), .val (.int v81), .val (.int v92), .val (.ref b8), .val (.int v114), .val (.int u191s0), .val (.int u167s0)] [(.int v38)])) _
        refine XS.iload X23.here hx rfl (hb hby at_202) rfl ?_
        show Steps p.tables e below (T23.setTop (mkF m 204 #[.val (.int p1), .val (.int p2), .val (.int p3), .val (.int p4), .val (.int p5), .val (.int p6), .val (.int v7), .val (.int v16), .val (.int v26), .val (.int v38), .val (.int u7210), .val (.int v81), .val (.int v92), .val (.ref b8), .val (.int v114), .val (.int u191s0), .val (.int u167s0)] [(.int v26), (.int v38)])) _
        exact k
      by_cases hc204 : v38 = v26
      · have pre28 : ∀ t, Steps p.tables e below (T23.setTop (mkF m 233 #[.val (.int p1), .val (.int p2), .val (.int p3), .val (.int p4), .val (.int p5), .val (.int p6), .val (.int v7), .val (.int v16), .val (.int v26), .val (.int v38), .val (.int u7210), .val (.int v81), .val (.int v92), .val (.ref b8), .val (.int v114), .val (.int u191s0), .val (.int u167s0)] [(.int u191s0)])) t → Steps p.tables e below (s₁.setTop (entryFrame m #[(.int p1), (.int p2), (.int p3), (.int p4), (.int p5), (.int p6)] maxLocals)) t := by
          intro t k
          refine pre27 t ?_
          refine XS.icmpYes X23.here hx rfl (pc0 := 204) (pc' := 231) rfl (hb hby at_204) rfl (teq hc204).1 (by decide) (by decide) ?_
          show Steps p.tables e below (T23.setTop (mkF m 231 #[.val (.int p1), .val (.int p2), .val (.int p3), .val (.int p4), .val (.int p5), .val (.int p6), .val (.int v7), .val (.int v16), .val (.int v26), .val (.int v38), .val (.int u7210), .val (.int v81), .val (.int v92), .val (.ref b8), .val (.int v114), .val (.int u191s0), .val (.int u167s0)] [])) _
          refine XS.iload X23.here hx rfl (hb hby at_231) rfl ?_
          show Steps p.tables e below (T23.setTop (mkF m 233 #[.val (.int p1), .val (.int p2), .val (.int p3), .val (.int p4), .val (.int p5), .val (.int p6), .val (.int v7), .val (.int v16), .val (.int v26), .val (.int v38), .val (.int u7210), .val (.int v81), .val (.int v92), .val (.ref b8), .val (.int v114), .val (.int u191s0), .val (.int u167s0)] [(.int u191s0)])) _
          exact k
        obtain ⟨fs, hr, hrun, hended, hW, hsame⟩ := X23.leave (v := some (.int (nar .boolean u191s0))) (fun h => by rw [Bd.returns] at h; cases h)
        refine ⟨_, _, pre28 _ ?_, hrun, hended, _, _, rfl, ?_, ⟨_, rfl⟩, hW, hsame.mono (by decide) (by decide)⟩
        · show Steps p.tables e below (T23.setTop (mkF m 233 #[.val (.int p1), .val (.int p2), .val (.int p3), .val (.int p4), .val (.int p5), .val (.int p6), .val (.int v7), .val (.int v16), .val (.int v26), .val (.int v38), .val (.int u7210), .val (.int v81), .val (.int v92), .val (.ref b8), .val (.int v114), .val (.int u191s0), .val (.int u167s0)] [(.int u191s0)])) _
          exact retN X23 hx (t := .boolean) Bd.returns (by simp) (hb hby at_233) hr
        · show Q0 Z p1 p2 p3 p4 p5 p6 h0 n0 _ T23.heap _
          rw [e23]
          refine ⟨?_, N23⟩
          subst hu191s0 hu167s0 hu151s0 hv114 hv92 hv81 hu7210 hv38 hv26 hv16 hv7
          simp only [fn0, if_pos hM, if_neg hc197, if_pos hc204]
      · have hd209 : ¬ u191s0 = (0 : Int32) := own_g2l hv7 hv16 hv26 hv81 hv92 hwd hu167s0 hu191s0
        have pre29 : ∀ t, Steps p.tables e below (T23.setTop (mkF m 216 #[.val (.int p1), .val (.int p2), .val (.int p3), .val (.int p4), .val (.int p5), .val (.int p6), .val (.int v7), .val (.int v16), .val (.int v26), .val (.int v38), .val (.int u7210), .val (.int v81), .val (.int v92), .val (.ref b8), .val (.int v114), .val (.int u191s0), .val (.int u167s0)] [(.int v38), (.ref b8)])) t → Steps p.tables e below (s₁.setTop (entryFrame m #[(.int p1), (.int p2), (.int p3), (.int p4), (.int p5), (.int p6)] maxLocals)) t := by
          intro t k
          refine pre27 t ?_
          refine XS.icmpNo X23.here hx rfl (hb hby at_204) rfl (feq hc204).1 ?_
          show Steps p.tables e below (T23.setTop (mkF m 207 #[.val (.int p1), .val (.int p2), .val (.int p3), .val (.int p4), .val (.int p5), .val (.int p6), .val (.int v7), .val (.int v16), .val (.int v26), .val (.int v38), .val (.int u7210), .val (.int v81), .val (.int v92), .val (.ref b8), .val (.int v114), .val (.int u191s0), .val (.int u167s0)] [])) _
          refine XS.iload X23.here hx rfl (hb hby at_207) rfl ?_
          show Steps p.tables e below (T23.setTop (mkF m 209 #[.val (.int p1), .val (.int p2), .val (.int p3), .val (.int p4), .val (.int p5), .val (.int p6), .val (.int v7), .val (.int v16), .val (.int v26), .val (.int v38), .val (.int u7210), .val (.int v81), .val (.int v92), .val (.ref b8), .val (.int v114), .val (.int u191s0), .val (.int u167s0)] [(.int u191s0)])) _
          refine XS.ifNo X23.here hx rfl (hb hby at_209) rfl ((if0 _ _).trans (feq hd209).1) ?_
          show Steps p.tables e below (T23.setTop (mkF m 212 #[.val (.int p1), .val (.int p2), .val (.int p3), .val (.int p4), .val (.int p5), .val (.int p6), .val (.int v7), .val (.int v16), .val (.int v26), .val (.int v38), .val (.int u7210), .val (.int v81), .val (.int v92), .val (.ref b8), .val (.int v114), .val (.int u191s0), .val (.int u167s0)] [])) _
          refine XS.aload X23.here hx rfl (hb hby at_212) rfl rfl ?_
          show Steps p.tables e below (T23.setTop (mkF m 214 #[.val (.int p1), .val (.int p2), .val (.int p3), .val (.int p4), .val (.int p5), .val (.int p6), .val (.int v7), .val (.int v16), .val (.int v26), .val (.int v38), .val (.int u7210), .val (.int v81), .val (.int v92), .val (.ref b8), .val (.int v114), .val (.int u191s0), .val (.int u167s0)] [(.ref b8)])) _
          refine XS.iload X23.here hx rfl (hb hby at_214) rfl ?_
          show Steps p.tables e below (T23.setTop (mkF m 216 #[.val (.int p1), .val (.int p2), .val (.int p3), .val (.int p4), .val (.int p5), .val (.int p6), .val (.int v7), .val (.int v16), .val (.int v26), .val (.int v38), .val (.int u7210), .val (.int v81), .val (.int v92), .val (.ref b8), .val (.int v114), .val (.int u191s0), .val (.int u167s0)] [(.int v38), (.ref b8)])) _
          exact k
        obtain ⟨cq30, kq30, qa30, qb30, qc30⟩ := isOf hZ e23 F17_2
        obtain ⟨_, _, ⟨T30, L30, k30, n30⟩, -, X30, ⟨Lc30, hQ30, l30, y30, z30⟩, st30⟩ := X23.virtualBack hx (y := (⟨"com/example/ballast/ballast/model/Ports", "get", "(I)I"⟩ : MethodName)) (z := (⟨"com/example/ballast/ballast/model/Ports", "get", "(I)I"⟩ : MethodName)) hown (mvT hZ (hw _ (List.mem_of_getElem? (i := 15) rfl))) (mvT hZ (hw _ (List.mem_of_getElem? (i := 16) rfl))) (notFace_of_selects (args := #[]) (mvT hZ (hw _ (List.mem_of_getElem? (i := 18) rfl)))) (mvT hZ (hw _ (List.mem_of_getElem? (i := 18) rfl))) (mvT hZ (hw _ (List.mem_of_getElem? (i := 17) rfl))) (by decide) (backOf (W := 0) (rm3l l Z a0 hw [] b8 v38 b10 v7 (own_upd (own_upd (fun _ => 0) v16.toNatClampNeg v81) v26.toNatClampNeg v92) T17.heap n0 Z17 F17_0 F17_1 V17 (own_ix hv7 hv38).1 (own_ix hv7 hv38).2) hZ (hw _ (List.mem_of_getElem? (i := 19) rfl)) (hw _ (List.mem_of_getElem? (i := 3) rfl)) (by decide) (by decide)) qa30 qc30 (g := (mkF m 216 #[.val (.int p1), .val (.int p2), .val (.int p3), .val (.int p4), .val (.int p5), .val (.int p6), .val (.int v7), .val (.int v16), .val (.int v26), .val (.int v38), .val (.int u7210), .val (.int v81), .val (.int v92), .val (.ref b8), .val (.int v114), .val (.int u191s0), .val (.int u167s0)] [(.int v38), (.ref b8)])) rfl (by rw [hml]; rfl) (Steps.refl _) (argsL := [(.int v38)]) (rest := []) (lenOf pd0_1 rfl) rfl (by show 2 * 0 + _ ≤ _; exact Nat.le_of_eq rfl) (hb hby at_216) (fun _ _ => ⟨rfl, e23, (by decide : 2 + 0 ≤ _), (by decide : 10 + 0 ≤ _)⟩)
        dsimp only [Pt.U, Pt.locs, Pt.cells, Pt.slots] at X30 l30 y30 z30 st30 hQ30
        subst l30 y30 z30
        obtain ⟨rfl, Nq30, e30⟩ := hQ30
        have N30 := Fr.app N23 Nq30
        have pre30 : ∀ t, Steps p.tables e below (T30.setTop (mkF m 219 #[.val (.int p1), .val (.int p2), .val (.int p3), .val (.int p4), .val (.int p5), .val (.int p6), .val (.int v7), .val (.int v16), .val (.int v26), .val (.int v38), .val (.int u7210), .val (.int v81), .val (.int v92), .val (.ref b8), .val (.int v114), .val (.int u191s0), .val (.int u167s0)] [(.int (fn3l v38 (own_upd (own_upd (fun _ => 0) v16.toNatClampNeg v81) v26.toNatClampNeg v92)))])) t → Steps p.tables e below (s₁.setTop (entryFrame m #[(.int p1), (.int p2), (.int p3), (.int p4), (.int p5), (.int p6)] maxLocals)) t := fun t k => pre29 t (st30.trans k)
        obtain ⟨u229s0, hu229s0⟩ : ∃ z : Int32, z = (if (fn3l v38 (own_upd (own_upd (fun _ => 0) v16.toNatClampNeg v81) v26.toNatClampNeg v92)) = v114 then (1 : Int32) else (0 : Int32)) := ⟨_, rfl⟩
        have pre31 : ∀ t, Steps p.tables e below (T30.setTop (mkF m 229 #[.val (.int p1), .val (.int p2), .val (.int p3), .val (.int p4), .val (.int p5), .val (.int p6), .val (.int v7), .val (.int v16), .val (.int v26), .val (.int v38), .val (.int u7210), .val (.int v81), .val (.int v92), .val (.ref b8), .val (.int v114), .val (.int u191s0), .val (.int u167s0)] [(.int u229s0)])) t → Steps p.tables e below (s₁.setTop (entryFrame m #[(.int p1), (.int p2), (.int p3), (.int p4), (.int p5), (.int p6)] maxLocals)) t := by
          intro t k
          subst hu229s0
          refine pre30 t ?_
          refine XS.iload X30.here hx rfl (hb hby at_219) rfl ?_
          show Steps p.tables e below (T30.setTop (mkF m 221 #[.val (.int p1), .val (.int p2), .val (.int p3), .val (.int p4), .val (.int p5), .val (.int p6), .val (.int v7), .val (.int v16), .val (.int v26), .val (.int v38), .val (.int u7210), .val (.int v81), .val (.int v92), .val (.ref b8), .val (.int v114), .val (.int u191s0), .val (.int u167s0)] [(.int v114), (.int (fn3l v38 (own_upd (own_upd (fun _ => 0) v16.toNatClampNeg v81) v26.toNatClampNeg v92)))])) _
          by_cases hb221 : (fn3l v38 (own_upd (own_upd (fun _ => 0) v16.toNatClampNeg v81) v26.toNatClampNeg v92)) = v114
          · simp only [if_pos hb221] at k
            refine XS.icmpNo X30.here hx rfl (hb hby at_221) rfl (teq hb221).2 ?_
            show Steps p.tables e below (T30.setTop (mkF m 224 #[.val (.int p1), .val (.int p2), .val (.int p3), .val (.int p4), .val (.int p5), .val (.int p6), .val (.int v7), .val (.int v16), .val (.int v26), .val (.int v38), .val (.int u7210), .val (.int v81), .val (.int v92), .val (.ref b8), .val (.int v114), .val (.int u191s0), .val (.int u167s0)] [])) _
            refine XS.iconst X30.here hx rfl (hb hby at_224) ?_
            show Steps p.tables e below (T30.setTop (mkF m 225 #[.val (.int p1), .val (.int p2), .val (.int p3), .val (.int p4), .val (.int p5), .val (.int p6), .val (.int v7), .val (.int v16), .val (.int v26), .val (.int v38), .val (.int u7210), .val (.int v81), .val (.int v92), .val (.ref b8), .val (.int v114), .val (.int u191s0), .val (.int u167s0)] [(.int (1 : Int32))])) _
            refine XS.goto X30.here hx rfl (pc0 := 225) (pc' := 229) rfl (hb hby at_225) (by decide) (by decide) ?_
            show Steps p.tables e below (T30.setTop (mkF m 229 #[.val (.int p1), .val (.int p2), .val (.int p3), .val (.int p4), .val (.int p5), .val (.int p6), .val (.int v7), .val (.int v16), .val (.int v26), .val (.int v38), .val (.int u7210), .val (.int v81), .val (.int v92), .val (.ref b8), .val (.int v114), .val (.int u191s0), .val (.int u167s0)] [(.int (1 : Int32))])) _
            exact k
          · simp only [if_neg hb221] at k
            refine XS.icmpYes X30.here hx rfl (pc0 := 221) (pc' := 228) rfl (hb hby at_221) rfl (feq hb221).2 (by decide) (by decide) ?_
            show Steps p.tables e below (T30.setTop (mkF m 228 #[.val (.int p1), .val (.int p2), .val (.int p3), .val (.int p4), .val (.int p5), .val (.int p6), .val (.int v7), .val (.int v16), .val (.int v26), .val (.int v38), .val (.int u7210), .val (.int v81), .val (.int v92), .val (.ref b8), .val (.int v114), .val (.int u191s0), .val (.int u167s0)] [])) _
            refine XS.iconst X30.here hx rfl (hb hby at_228) ?_
            show Steps p.tables e below (T30.setTop (mkF m 229 #[.val (.int p1), .val (.int p2), .val (.int p3), .val (.int p4), .val (.int p5), .val (.int p6), .val (.int v7), .val (.int v16), .val (.int v26), .val (.int v38), .val (.int u7210), .val (.int v81), .val (.int v92), .val (.ref b8), .val (.int v114), .val (.int u191s0), .val (.int u167s0)] [(.int (0 : Int32))])) _
            exact k
        have pre32 : ∀ t, Steps p.tables e below (T30.setTop (mkF m 233 #[.val (.int p1), .val (.int p2), .val (.int p3), .val (.int p4), .val (.int p5), .val (.int p6), .val (.int v7), .val (.int v16), .val (.int v26), .val (.int v38), .val (.int u7210), .val (.int v81), .val (.int v92), .val (.ref b8), .val (.int v114), .val (.int u229s0), .val (.int u167s0)] [(.int u229s0)])) t → Steps p.tables e below (s₁.setTop (entryFrame m #[(.int p1), (.int p2), (.int p3), (.int p4), (.int p5), (.int p6)] maxLocals)) t := by
          intro t k
          refine pre31 t ?_
          refine XS.istore X30.here hx rfl (hb hby at_229) rfl (l' := #[.val (.int p1), .val (.int p2), .val (.int p3), .val (.int p4), .val (.int p5), .val (.int p6), .val (.int v7), .val (.int v16), .val (.int v26), .val (.int v38), .val (.int u7210), .val (.int v81), .val (.int v92), .val (.ref b8), .val (.int v114), .val (.int u229s0), .val (.int u167s0)]) rfl ?_
          show Steps p.tables e below (T30.setTop (mkF m 231 #[.val (.int p1), .val (.int p2), .val (.int p3), .val (.int p4), .val (.int p5), .val (.int p6), .val (.int v7), .val (.int v16), .val (.int v26), .val (.int v38), .val (.int u7210), .val (.int v81), .val (.int v92), .val (.ref b8), .val (.int v114), .val (.int u229s0), .val (.int u167s0)] [])) _
          refine XS.iload X30.here hx rfl (hb hby at_231) rfl ?_
          show Steps p.tables e below (T30.setTop (mkF m 233 #[.val (.int p1), .val (.int p2), .val (.int p3), .val (.int p4), .val (.int p5), .val (.int p6), .val (.int v7), .val (.int v16), .val (.int v26), .val (.int v38), .val (.int u7210), .val (.int v81), .val (.int v92), .val (.ref b8), .val (.int v114), .val (.int u229s0), .val (.int u167s0)] [(.int u229s0)])) _
          exact k
        obtain ⟨fs, hr, hrun, hended, hW, hsame⟩ := X30.leave (v := some (.int (nar .boolean u229s0))) (fun h => by rw [Bd.returns] at h; cases h)
        refine ⟨_, _, pre32 _ ?_, hrun, hended, _, _, rfl, ?_, ⟨_, rfl⟩, hW, hsame.mono (by decide) (by decide)⟩
        · show Steps p.tables e below (T30.setTop (mkF m 233 #[.val (.int p1), .val (.int p2), .val (.int p3), .val (.int p4), .val (.int p5), .val (.int p6), .val (.int v7), .val (.int v16), .val (.int v26), .val (.int v38), .val (.int u7210), .val (.int v81), .val (.int v92), .val (.ref b8), .val (.int v114), .val (.int u229s0), .val (.int u167s0)] [(.int u229s0)])) _
          exact retN X30 hx (t := .boolean) Bd.returns (by simp) (hb hby at_233) hr
        · show Q0 Z p1 p2 p3 p4 p5 p6 h0 n0 _ T30.heap _
          rw [e30]
          refine ⟨?_, N30⟩
          subst hu229s0 hu191s0 hu167s0 hu151s0 hv114 hv92 hv81 hu7210 hv38 hv26 hv16 hv7
          simp only [fn0, if_pos hM, if_neg hc197, if_neg hc204]
  · obtain ⟨T33, h33, X33, e33, E33, A33, D33, -, st33⟩ := newO X0 hx hZ hown (hw _ (List.mem_of_getElem? (i := 1) rfl)) (hw _ (List.mem_of_getElem? (i := 2) rfl)) (hw _ (List.mem_of_getElem? (i := 3) rfl)) e0 (g := (mkF m 94 #[.val (.int p1), .val (.int p2), .val (.int p3), .val (.int p4), .val (.int p5), .val (.int p6), .val (.int v7), .val (.int v16), .val (.int v26), .val (.int v38), .val (.int u7210), .val (.int v81), .val (.int v92), .unset, .unset, .unset, .unset] [])) rfl (hb hby at_94) (by decide) (by decide)
    obtain ⟨b33, g33⟩ : ∃ z, z = h0.size := ⟨_, rfl⟩
    rw [← g33] at A33 D33 st33
    have gg33 : n0 ≤ b33 := Nat.le_trans Z0 (Nat.le_of_eq g33.symm)
    have Z33 : n0 ≤ h33.size := Nat.le_trans Z0 E33.1
    have F33_small : Fld Z h33 b33 "com/example/ballast/ballast/model/Ports" "small" "[B" .null := D33 (Or.inr (hw _ (List.mem_of_getElem? (i := 12) rfl))) (ty := (.array .byte)) (by decide)
    have F33_large : Fld Z h33 b33 "com/example/ballast/ballast/model/Ports" "large" "[I" .null := D33 (Or.inr (hw _ (List.mem_of_getElem? (i := 14) rfl))) (ty := (.array .int)) (by decide)
    have pre33 : ∀ t, Steps p.tables e below (T33.setTop (mkF m 97 #[.val (.int p1), .val (.int p2), .val (.int p3), .val (.int p4), .val (.int p5), .val (.int p6), .val (.int v7), .val (.int v16), .val (.int v26), .val (.int v38), .val (.int u7210), .val (.int v81), .val (.int v92), .unset, .unset, .unset, .unset] [(.ref b33)])) t → Steps p.tables e below (s₁.setTop (entryFrame m #[(.int p1), (.int p2), (.int p3), (.int p4), (.int p5), (.int p6)] maxLocals)) t := fun t k => pre7 t (st33 _ k)
    have pre34 : ∀ t, Steps p.tables e below (T33.setTop (mkF m 102 #[.val (.int p1), .val (.int p2), .val (.int p3), .val (.int p4), .val (.int p5), .val (.int p6), .val (.int v7), .val (.int v16), .val (.int v26), .val (.int v38), .val (.int u7210), .val (.int v81), .val (.int v92), .unset, .unset, .unset, .unset] [(.int u7210), (.int v7), (.ref b33), (.ref b33)])) t → Steps p.tables e below (s₁.setTop (entryFrame m #[(.int p1), (.int p2), (.int p3), (.int p4), (.int p5), (.int p6)] maxLocals)) t := by
      intro t k
      refine pre33 t ?_
      refine XS.dup X33.here hx rfl (hb hby at_97) rfl rfl ?_
      show Steps p.tables e below (T33.setTop (mkF m 98 #[.val (.int p1), .val (.int p2), .val (.int p3), .val (.int p4), .val (.int p5), .val (.int p6), .val (.int v7), .val (.int v16), .val (.int v26), .val (.int v38), .val (.int u7210), .val (.int v81), .val (.int v92), .unset, .unset, .unset, .unset] [(.ref b33), (.ref b33)])) _
      refine XS.iload X33.here hx rfl (hb hby at_98) rfl ?_
      show Steps p.tables e below (T33.setTop (mkF m 100 #[.val (.int p1), .val (.int p2), .val (.int p3), .val (.int p4), .val (.int p5), .val (.int p6), .val (.int v7), .val (.int v16), .val (.int v26), .val (.int v38), .val (.int u7210), .val (.int v81), .val (.int v92), .unset, .unset, .unset, .unset] [(.int v7), (.ref b33), (.ref b33)])) _
      refine XS.iload X33.here hx rfl (hb hby at_100) rfl ?_
      show Steps p.tables e below (T33.setTop (mkF m 102 #[.val (.int p1), .val (.int p2), .val (.int p3), .val (.int p4), .val (.int p5), .val (.int p6), .val (.int v7), .val (.int v16), .val (.int v26), .val (.int v38), .val (.int u7210), .val (.int v81), .val (.int v92), .unset, .unset, .unset, .unset] [(.int u7210), (.int v7), (.ref b33), (.ref b33)])) _
      exact k
    obtain ⟨_, _, ⟨T35, L35, k35, n35⟩, -, X35, ⟨Lc35, hQ35, l35, y35, z35⟩, st35⟩ := X33.specialBack hx (y := (⟨"com/example/ballast/ballast/model/Ports", "<init>", "(II)V"⟩ : MethodName)) rfl hown (mvT hZ (hw _ (List.mem_of_getElem? (i := 4) rfl))) (mvT hZ (hw _ (List.mem_of_getElem? (i := 5) rfl))) (mvT hZ (hw _ (List.mem_of_getElem? (i := 6) rfl))) (by decide) (backOf (W := 1) (rm1s l Z a0 hw [] b33 v7 u7210 h33 n0 Z33 A33 F33_small F33_large gg33 (own_sc hv7).1 (own_sc hv7).2 hM) hZ (hw _ (List.mem_of_getElem? (i := 6) rfl)) (hw _ (List.mem_of_getElem? (i := 3) rfl)) (by decide) (by decide)) (g := (mkF m 102 #[.val (.int p1), .val (.int p2), .val (.int p3), .val (.int p4), .val (.int p5), .val (.int p6), .val (.int v7), .val (.int v16), .val (.int v26), .val (.int v38), .val (.int u7210), .val (.int v81), .val (.int v92), .unset, .unset, .unset, .unset] [(.int u7210), (.int v7), (.ref b33), (.ref b33)])) rfl (by rw [hml]; rfl) (Steps.refl _) (a := b33) (argsL := [(.int v7), (.int u7210)]) (rest := [(.ref b33)]) (lenOf pd0_0 rfl) rfl (by show 2 * 0 + _ ≤ _; exact Nat.le_of_eq rfl) (hb hby at_102) (fun _ _ => ⟨rfl, e33, (by decide : 1 + 1 ≤ _), (by decide : 2 + 8 ≤ _)⟩)
    dsimp only [Pt.U, Pt.locs, Pt.cells, Pt.slots] at X35 l35 y35 z35 st35 hQ35
    subst l35 y35 z35
    obtain ⟨b35, rfl, Nq35, Kc35, gg35, ne35, Ec35, Fa35, Fb35, V35⟩ := hQ35
    have F35_0 := A33.keep Kc35
    have Z35 : n0 ≤ T35.heap.size := Nat.le_trans Z33 Kc35.1
    have N35 := Fr.app N0 Nq35
    have pre35 : ∀ t, Steps p.tables e below (T35.setTop (mkF m 105 #[.val (.int p1), .val (.int p2), .val (.int p3), .val (.int p4), .val (.int p5), .val (.int p6), .val (.int v7), .val (.int v16), .val (.int v26), .val (.int v38), .val (.int u7210), .val (.int v81), .val (.int v92), .unset, .unset, .unset, .unset] [(.ref b33)])) t → Steps p.tables e below (s₁.setTop (entryFrame m #[(.int p1), (.int p2), (.int p3), (.int p4), (.int p5), (.int p6)] maxLocals)) t := fun t k => pre34 t (st35.trans k)
    have pre36 : ∀ t, Steps p.tables e below (T35.setTop (mkF m 111 #[.val (.int p1), .val (.int p2), .val (.int p3), .val (.int p4), .val (.int p5), .val (.int p6), .val (.int v7), .val (.int v16), .val (.int v26), .val (.int v38), .val (.int u7210), .val (.int v81), .val (.int v92), .val (.ref b33), .unset, .unset, .unset] [(.int v38), (.ref b33)])) t → Steps p.tables e below (s₁.setTop (entryFrame m #[(.int p1), (.int p2), (.int p3), (.int p4), (.int p5), (.int p6)] maxLocals)) t := by
      intro t k
      refine pre35 t ?_
      refine XS.astore X35.here hx rfl (hb hby at_105) rfl rfl (l' := #[.val (.int p1), .val (.int p2), .val (.int p3), .val (.int p4), .val (.int p5), .val (.int p6), .val (.int v7), .val (.int v16), .val (.int v26), .val (.int v38), .val (.int u7210), .val (.int v81), .val (.int v92), .val (.ref b33), .unset, .unset, .unset]) rfl ?_
      show Steps p.tables e below (T35.setTop (mkF m 107 #[.val (.int p1), .val (.int p2), .val (.int p3), .val (.int p4), .val (.int p5), .val (.int p6), .val (.int v7), .val (.int v16), .val (.int v26), .val (.int v38), .val (.int u7210), .val (.int v81), .val (.int v92), .val (.ref b33), .unset, .unset, .unset] [])) _
      refine XS.aload X35.here hx rfl (hb hby at_107) rfl rfl ?_
      show Steps p.tables e below (T35.setTop (mkF m 109 #[.val (.int p1), .val (.int p2), .val (.int p3), .val (.int p4), .val (.int p5), .val (.int p6), .val (.int v7), .val (.int v16), .val (.int v26), .val (.int v38), .val (.int u7210), .val (.int v81), .val (.int v92), .val (.ref b33), .unset, .unset, .unset] [(.ref b33)])) _
      refine XS.iload X35.here hx rfl (hb hby at_109) rfl ?_
      show Steps p.tables e below (T35.setTop (mkF m 111 #[.val (.int p1), .val (.int p2), .val (.int p3), .val (.int p4), .val (.int p5), .val (.int p6), .val (.int v7), .val (.int v16), .val (.int v26), .val (.int v38), .val (.int u7210), .val (.int v81), .val (.int v92), .val (.ref b33), .unset, .unset, .unset] [(.int v38), (.ref b33)])) _
      exact k
    obtain ⟨cq37, kq37, qa37, qb37, qc37⟩ := isOf hZ rfl Ec35
    obtain ⟨_, _, ⟨T37, L37, k37, n37⟩, -, X37, ⟨Lc37, hQ37, l37, y37, z37⟩, st37⟩ := X35.virtualBack hx (y := (⟨"com/example/ballast/ballast/model/Ports", "get", "(I)I"⟩ : MethodName)) (z := (⟨"com/example/ballast/ballast/model/Ports", "get", "(I)I"⟩ : MethodName)) hown (mvT hZ (hw _ (List.mem_of_getElem? (i := 15) rfl))) (mvT hZ (hw _ (List.mem_of_getElem? (i := 16) rfl))) (notFace_of_selects (args := #[]) (mvT hZ (hw _ (List.mem_of_getElem? (i := 18) rfl)))) (mvT hZ (hw _ (List.mem_of_getElem? (i := 18) rfl))) (mvT hZ (hw _ (List.mem_of_getElem? (i := 17) rfl))) (by decide) (backOf (W := 0) (rm3s l Z a0 hw [] b33 v38 b35 v7 (fun _ => 0) T35.heap n0 Z35 Fa35 V35 (own_ix hv7 hv38).1 (own_ix hv7 hv38).2) hZ (hw _ (List.mem_of_getElem? (i := 19) rfl)) (hw _ (List.mem_of_getElem? (i := 3) rfl)) (by decide) (by decide)) qa37 qc37 (g := (mkF m 111 #[.val (.int p1), .val (.int p2), .val (.int p3), .val (.int p4), .val (.int p5), .val (.int p6), .val (.int v7), .val (.int v16), .val (.int v26), .val (.int v38), .val (.int u7210), .val (.int v81), .val (.int v92), .val (.ref b33), .unset, .unset, .unset] [(.int v38), (.ref b33)])) rfl (by rw [hml]; rfl) (Steps.refl _) (argsL := [(.int v38)]) (rest := []) (lenOf pd0_1 rfl) rfl (by show 2 * 0 + _ ≤ _; exact Nat.le_of_eq rfl) (hb hby at_111) (fun _ _ => ⟨rfl, rfl, (by decide : 2 + 0 ≤ _), (by decide : 10 + 0 ≤ _)⟩)
    dsimp only [Pt.U, Pt.locs, Pt.cells, Pt.slots] at X37 l37 y37 z37 st37 hQ37
    subst l37 y37 z37
    obtain ⟨rfl, Nq37, e37⟩ := hQ37
    have N37 := Fr.app N35 Nq37
    have pre37 : ∀ t, Steps p.tables e below (T37.setTop (mkF m 114 #[.val (.int p1), .val (.int p2), .val (.int p3), .val (.int p4), .val (.int p5), .val (.int p6), .val (.int v7), .val (.int v16), .val (.int v26), .val (.int v38), .val (.int u7210), .val (.int v81), .val (.int v92), .val (.ref b33), .unset, .unset, .unset] [(.int (fn3s v38 (fun _ => 0)))])) t → Steps p.tables e below (s₁.setTop (entryFrame m #[(.int p1), (.int p2), (.int p3), (.int p4), (.int p5), (.int p6)] maxLocals)) t := fun t k => pre36 t (st37.trans k)
    obtain ⟨v114_1, hv114_1⟩ : ∃ z : Int32, z = (fn3s v38 (fun _ => 0)) := ⟨_, rfl⟩
    have pre38 : ∀ t, Steps p.tables e below (T37.setTop (mkF m 116 #[.val (.int p1), .val (.int p2), .val (.int p3), .val (.int p4), .val (.int p5), .val (.int p6), .val (.int v7), .val (.int v16), .val (.int v26), .val (.int v38), .val (.int u7210), .val (.int v81), .val (.int v92), .val (.ref b33), .val (.int v114_1), .unset, .unset] [])) t → Steps p.tables e below (s₁.setTop (entryFrame m #[(.int p1), (.int p2), (.int p3), (.int p4), (.int p5), (.int p6)] maxLocals)) t := by
      intro t k
      subst hv114_1
      refine pre37 t ?_
      refine XS.istore X37.here hx rfl (hb hby at_114) rfl (l' := #[.val (.int p1), .val (.int p2), .val (.int p3), .val (.int p4), .val (.int p5), .val (.int p6), .val (.int v7), .val (.int v16), .val (.int v26), .val (.int v38), .val (.int u7210), .val (.int v81), .val (.int v92), .val (.ref b33), .val (.int (fn3s v38 (fun _ => 0))), .unset, .unset]) rfl ?_
      show Steps p.tables e below (T37.setTop (mkF m 116 #[.val (.int p1), .val (.int p2), .val (.int p3), .val (.int p4), .val (.int p5), .val (.int p6), .val (.int v7), .val (.int v16), .val (.int v26), .val (.int v38), .val (.int u7210), .val (.int v81), .val (.int v92), .val (.ref b33), .val (.int (fn3s v38 (fun _ => 0))), .unset, .unset] [])) _
      exact k
    have pre39 : ∀ t, Steps p.tables e below (T37.setTop (mkF m 122 #[.val (.int p1), .val (.int p2), .val (.int p3), .val (.int p4), .val (.int p5), .val (.int p6), .val (.int v7), .val (.int v16), .val (.int v26), .val (.int v38), .val (.int u7210), .val (.int v81), .val (.int v92), .val (.ref b33), .val (.int v114_1), .unset, .unset] [(.int v81), (.int v16), (.ref b33)])) t → Steps p.tables e below (s₁.setTop (entryFrame m #[(.int p1), (.int p2), (.int p3), (.int p4), (.int p5), (.int p6)] maxLocals)) t := by
      intro t k
      refine pre38 t ?_
      refine XS.aload X37.here hx rfl (hb hby at_116) rfl rfl ?_
      show Steps p.tables e below (T37.setTop (mkF m 118 #[.val (.int p1), .val (.int p2), .val (.int p3), .val (.int p4), .val (.int p5), .val (.int p6), .val (.int v7), .val (.int v16), .val (.int v26), .val (.int v38), .val (.int u7210), .val (.int v81), .val (.int v92), .val (.ref b33), .val (.int v114_1), .unset, .unset] [(.ref b33)])) _
      refine XS.iload X37.here hx rfl (hb hby at_118) rfl ?_
      show Steps p.tables e below (T37.setTop (mkF m 120 #[.val (.int p1), .val (.int p2), .val (.int p3), .val (.int p4), .val (.int p5), .val (.int p6), .val (.int v7), .val (.int v16), .val (.int v26), .val (.int v38), .val (.int u7210), .val (.int v81), .val (.int v92), .val (.ref b33), .val (.int v114_1), .unset, .unset] [(.int v16), (.ref b33)])) _
      refine XS.iload X37.here hx rfl (hb hby at_120) rfl ?_
      show Steps p.tables e below (T37.setTop (mkF m 122 #[.val (.int p1), .val (.int p2), .val (.int p3), .val (.int p4), .val (.int p5), .val (.int p6), .val (.int v7), .val (.int v16), .val (.int v26), .val (.int v38), .val (.int u7210), .val (.int v81), .val (.int v92), .val (.ref b33), .val (.int v114_1), .unset, .unset] [(.int v81), (.int v16), (.ref b33)])) _
      exact k
    obtain ⟨cq40, kq40, qa40, qb40, qc40⟩ := isOf hZ e37 Ec35
    obtain ⟨_, _, ⟨T40, L40, k40, n40⟩, -, X40, ⟨Lc40, hQ40, l40, y40, z40⟩, st40⟩ := X37.virtualBack hx (y := (⟨"com/example/ballast/ballast/model/Ports", "set", "(II)V"⟩ : MethodName)) (z := (⟨"com/example/ballast/ballast/model/Ports", "set", "(II)V"⟩ : MethodName)) hown (mvT hZ (hw _ (List.mem_of_getElem? (i := 24) rfl))) (mvT hZ (hw _ (List.mem_of_getElem? (i := 25) rfl))) (notFace_of_selects (args := #[]) (mvT hZ (hw _ (List.mem_of_getElem? (i := 27) rfl)))) (mvT hZ (hw _ (List.mem_of_getElem? (i := 27) rfl))) (mvT hZ (hw _ (List.mem_of_getElem? (i := 26) rfl))) (by decide) (backOf (W := 0) (rm2s l Z a0 hw [] b33 v16 v81 b35 v7 (fun _ => 0) T35.heap n0 Z35 Fa35 V35 (own_ix hv7 hv16).1 (own_ix hv7 hv16).2 gg35 ne35) hZ (hw _ (List.mem_of_getElem? (i := 28) rfl)) (hw _ (List.mem_of_getElem? (i := 3) rfl)) (by decide) (by decide)) qa40 qc40 (g := (mkF m 122 #[.val (.int p1), .val (.int p2), .val (.int p3), .val (.int p4), .val (.int p5), .val (.int p6), .val (.int v7), .val (.int v16), .val (.int v26), .val (.int v38), .val (.int u7210), .val (.int v81), .val (.int v92), .val (.ref b33), .val (.int v114_1), .unset, .unset] [(.int v81), (.int v16), (.ref b33)])) rfl (by rw [hml]; rfl) (Steps.refl _) (argsL := [(.int v16), (.int v81)]) (rest := []) (lenOf pd0_0 rfl) rfl (by show 2 * 0 + _ ≤ _; exact Nat.le_of_eq rfl) (hb hby at_122) (fun _ _ => ⟨rfl, e37, (by decide : 2 + 0 ≤ _), (by decide : 10 + 0 ≤ _)⟩)
    dsimp only [Pt.U, Pt.locs, Pt.cells, Pt.slots] at X40 l40 y40 z40 st40 hQ40
    subst l40 y40 z40
    obtain ⟨rfl, Nq40, Kc40, V40⟩ := hQ40
    have F40_0 := Fa35.keep Kc40 (ninS ne35 nin0)
    have F40_1 := Fb35.keep Kc40 (ninS ne35 nin0)
    have F40_2 := Ec35.keep Kc40
    have Z40 : n0 ≤ T40.heap.size := Nat.le_trans Z35 Kc40.1
    have N40 := Fr.app N37 Nq40
    have pre40 : ∀ t, Steps p.tables e below (T40.setTop (mkF m 125 #[.val (.int p1), .val (.int p2), .val (.int p3), .val (.int p4), .val (.int p5), .val (.int p6), .val (.int v7), .val (.int v16), .val (.int v26), .val (.int v38), .val (.int u7210), .val (.int v81), .val (.int v92), .val (.ref b33), .val (.int v114_1), .unset, .unset] [])) t → Steps p.tables e below (s₁.setTop (entryFrame m #[(.int p1), (.int p2), (.int p3), (.int p4), (.int p5), (.int p6)] maxLocals)) t := fun t k => pre39 t (st40.trans k)
    have pre41 : ∀ t, Steps p.tables e below (T40.setTop (mkF m 131 #[.val (.int p1), .val (.int p2), .val (.int p3), .val (.int p4), .val (.int p5), .val (.int p6), .val (.int v7), .val (.int v16), .val (.int v26), .val (.int v38), .val (.int u7210), .val (.int v81), .val (.int v92), .val (.ref b33), .val (.int v114_1), .unset, .unset] [(.int v92), (.int v26), (.ref b33)])) t → Steps p.tables e below (s₁.setTop (entryFrame m #[(.int p1), (.int p2), (.int p3), (.int p4), (.int p5), (.int p6)] maxLocals)) t := by
      intro t k
      refine pre40 t ?_
      refine XS.aload X40.here hx rfl (hb hby at_125) rfl rfl ?_
      show Steps p.tables e below (T40.setTop (mkF m 127 #[.val (.int p1), .val (.int p2), .val (.int p3), .val (.int p4), .val (.int p5), .val (.int p6), .val (.int v7), .val (.int v16), .val (.int v26), .val (.int v38), .val (.int u7210), .val (.int v81), .val (.int v92), .val (.ref b33), .val (.int v114_1), .unset, .unset] [(.ref b33)])) _
      refine XS.iload X40.here hx rfl (hb hby at_127) rfl ?_
      show Steps p.tables e below (T40.setTop (mkF m 129 #[.val (.int p1), .val (.int p2), .val (.int p3), .val (.int p4), .val (.int p5), .val (.int p6), .val (.int v7), .val (.int v16), .val (.int v26), .val (.int v38), .val (.int u7210), .val (.int v81), .val (.int v92), .val (.ref b33), .val (.int v114_1), .unset, .unset] [(.int v26), (.ref b33)])) _
      refine XS.iload X40.here hx rfl (hb hby at_129) rfl ?_
      show Steps p.tables e below (T40.setTop (mkF m 131 #[.val (.int p1), .val (.int p2), .val (.int p3), .val (.int p4), .val (.int p5), .val (.int p6), .val (.int v7), .val (.int v16), .val (.int v26), .val (.int v38), .val (.int u7210), .val (.int v81), .val (.int v92), .val (.ref b33), .val (.int v114_1), .unset, .unset] [(.int v92), (.int v26), (.ref b33)])) _
      exact k
    obtain ⟨cq42, kq42, qa42, qb42, qc42⟩ := isOf hZ rfl F40_2
    obtain ⟨_, _, ⟨T42, L42, k42, n42⟩, -, X42, ⟨Lc42, hQ42, l42, y42, z42⟩, st42⟩ := X40.virtualBack hx (y := (⟨"com/example/ballast/ballast/model/Ports", "set", "(II)V"⟩ : MethodName)) (z := (⟨"com/example/ballast/ballast/model/Ports", "set", "(II)V"⟩ : MethodName)) hown (mvT hZ (hw _ (List.mem_of_getElem? (i := 24) rfl))) (mvT hZ (hw _ (List.mem_of_getElem? (i := 25) rfl))) (notFace_of_selects (args := #[]) (mvT hZ (hw _ (List.mem_of_getElem? (i := 27) rfl)))) (mvT hZ (hw _ (List.mem_of_getElem? (i := 27) rfl))) (mvT hZ (hw _ (List.mem_of_getElem? (i := 26) rfl))) (by decide) (backOf (W := 0) (rm2s l Z a0 hw [] b33 v26 v92 b35 v7 (own_upd (fun _ => 0) v16.toNatClampNeg (nar .byte ((v81 - (1 : Int32)).toInt8.toInt32))) T40.heap n0 Z40 F40_0 V40 (own_ix hv7 hv26).1 (own_ix hv7 hv26).2 gg35 ne35) hZ (hw _ (List.mem_of_getElem? (i := 28) rfl)) (hw _ (List.mem_of_getElem? (i := 3) rfl)) (by decide) (by decide)) qa42 qc42 (g := (mkF m 131 #[.val (.int p1), .val (.int p2), .val (.int p3), .val (.int p4), .val (.int p5), .val (.int p6), .val (.int v7), .val (.int v16), .val (.int v26), .val (.int v38), .val (.int u7210), .val (.int v81), .val (.int v92), .val (.ref b33), .val (.int v114_1), .unset, .unset] [(.int v92), (.int v26), (.ref b33)])) rfl (by rw [hml]; rfl) (Steps.refl _) (argsL := [(.int v26), (.int v92)]) (rest := []) (lenOf pd0_0 rfl) rfl (by show 2 * 0 + _ ≤ _; exact Nat.le_of_eq rfl) (hb hby at_131) (fun _ _ => ⟨rfl, rfl, (by decide : 2 + 0 ≤ _), (by decide : 10 + 0 ≤ _)⟩)
    dsimp only [Pt.U, Pt.locs, Pt.cells, Pt.slots] at X42 l42 y42 z42 st42 hQ42
    subst l42 y42 z42
    obtain ⟨rfl, Nq42, Kc42, V42⟩ := hQ42
    have F42_0 := F40_0.keep Kc42 (ninS ne35 nin0)
    have F42_1 := F40_1.keep Kc42 (ninS ne35 nin0)
    have F42_2 := F40_2.keep Kc42
    have Z42 : n0 ≤ T42.heap.size := Nat.le_trans Z40 Kc42.1
    have N42 := Fr.app N40 Nq42
    have pre42 : ∀ t, Steps p.tables e below (T42.setTop (mkF m 134 #[.val (.int p1), .val (.int p2), .val (.int p3), .val (.int p4), .val (.int p5), .val (.int p6), .val (.int v7), .val (.int v16), .val (.int v26), .val (.int v38), .val (.int u7210), .val (.int v81), .val (.int v92), .val (.ref b33), .val (.int v114_1), .unset, .unset] [])) t → Steps p.tables e below (s₁.setTop (entryFrame m #[(.int p1), (.int p2), (.int p3), (.int p4), (.int p5), (.int p6)] maxLocals)) t := fun t k => pre41 t (st42.trans k)
    have pre43 : ∀ t, Steps p.tables e below (T42.setTop (mkF m 138 #[.val (.int p1), .val (.int p2), .val (.int p3), .val (.int p4), .val (.int p5), .val (.int p6), .val (.int v7), .val (.int v16), .val (.int v26), .val (.int v38), .val (.int u7210), .val (.int v81), .val (.int v92), .val (.ref b33), .val (.int v114_1), .unset, .unset] [(.int v26), (.ref b33)])) t → Steps p.tables e below (s₁.setTop (entryFrame m #[(.int p1), (.int p2), (.int p3), (.int p4), (.int p5), (.int p6)] maxLocals)) t := by
      intro t k
      refine pre42 t ?_
      refine XS.aload X42.here hx rfl (hb hby at_134) rfl rfl ?_
      show Steps p.tables e below (T42.setTop (mkF m 136 #[.val (.int p1), .val (.int p2), .val (.int p3), .val (.int p4), .val (.int p5), .val (.int p6), .val (.int v7), .val (.int v16), .val (.int v26), .val (.int v38), .val (.int u7210), .val (.int v81), .val (.int v92), .val (.ref b33), .val (.int v114_1), .unset, .unset] [(.ref b33)])) _
      refine XS.iload X42.here hx rfl (hb hby at_136) rfl ?_
      show Steps p.tables e below (T42.setTop (mkF m 138 #[.val (.int p1), .val (.int p2), .val (.int p3), .val (.int p4), .val (.int p5), .val (.int p6), .val (.int v7), .val (.int v16), .val (.int v26), .val (.int v38), .val (.int u7210), .val (.int v81), .val (.int v92), .val (.ref b33), .val (.int v114_1), .unset, .unset] [(.int v26), (.ref b33)])) _
      exact k
    obtain ⟨cq44, kq44, qa44, qb44, qc44⟩ := isOf hZ rfl F42_2
    obtain ⟨_, _, ⟨T44, L44, k44, n44⟩, -, X44, ⟨Lc44, hQ44, l44, y44, z44⟩, st44⟩ := X42.virtualBack hx (y := (⟨"com/example/ballast/ballast/model/Ports", "get", "(I)I"⟩ : MethodName)) (z := (⟨"com/example/ballast/ballast/model/Ports", "get", "(I)I"⟩ : MethodName)) hown (mvT hZ (hw _ (List.mem_of_getElem? (i := 15) rfl))) (mvT hZ (hw _ (List.mem_of_getElem? (i := 16) rfl))) (notFace_of_selects (args := #[]) (mvT hZ (hw _ (List.mem_of_getElem? (i := 18) rfl)))) (mvT hZ (hw _ (List.mem_of_getElem? (i := 18) rfl))) (mvT hZ (hw _ (List.mem_of_getElem? (i := 17) rfl))) (by decide) (backOf (W := 0) (rm3s l Z a0 hw [] b33 v26 b35 v7 (own_upd (own_upd (fun _ => 0) v16.toNatClampNeg (nar .byte ((v81 - (1 : Int32)).toInt8.toInt32))) v26.toNatClampNeg (nar .byte ((v92 - (1 : Int32)).toInt8.toInt32))) T42.heap n0 Z42 F42_0 V42 (own_ix hv7 hv26).1 (own_ix hv7 hv26).2) hZ (hw _ (List.mem_of_getElem? (i := 19) rfl)) (hw _ (List.mem_of_getElem? (i := 3) rfl)) (by decide) (by decide)) qa44 qc44 (g := (mkF m 138 #[.val (.int p1), .val (.int p2), .val (.int p3), .val (.int p4), .val (.int p5), .val (.int p6), .val (.int v7), .val (.int v16), .val (.int v26), .val (.int v38), .val (.int u7210), .val (.int v81), .val (.int v92), .val (.ref b33), .val (.int v114_1), .unset, .unset] [(.int v26), (.ref b33)])) rfl (by rw [hml]; rfl) (Steps.refl _) (argsL := [(.int v26)]) (rest := []) (lenOf pd0_1 rfl) rfl (by show 2 * 0 + _ ≤ _; exact Nat.le_of_eq rfl) (hb hby at_138) (fun _ _ => ⟨rfl, rfl, (by decide : 2 + 0 ≤ _), (by decide : 10 + 0 ≤ _)⟩)
    dsimp only [Pt.U, Pt.locs, Pt.cells, Pt.slots] at X44 l44 y44 z44 st44 hQ44
    subst l44 y44 z44
    obtain ⟨rfl, Nq44, e44⟩ := hQ44
    have N44 := Fr.app N42 Nq44
    have pre44 : ∀ t, Steps p.tables e below (T44.setTop (mkF m 141 #[.val (.int p1), .val (.int p2), .val (.int p3), .val (.int p4), .val (.int p5), .val (.int p6), .val (.int v7), .val (.int v16), .val (.int v26), .val (.int v38), .val (.int u7210), .val (.int v81), .val (.int v92), .val (.ref b33), .val (.int v114_1), .unset, .unset] [(.int (fn3s v26 (own_upd (own_upd (fun _ => 0) v16.toNatClampNeg (nar .byte ((v81 - (1 : Int32)).toInt8.toInt32))) v26.toNatClampNeg (nar .byte ((v92 - (1 : Int32)).toInt8.toInt32)))))])) t → Steps p.tables e below (s₁.setTop (entryFrame m #[(.int p1), (.int p2), (.int p3), (.int p4), (.int p5), (.int p6)] maxLocals)) t := fun t k => pre43 t (st44.trans k)
    obtain ⟨u151s0_1, hu151s0_1⟩ : ∃ z : Int32, z = (if (fn3s v26 (own_upd (own_upd (fun _ => 0) v16.toNatClampNeg (nar .byte ((v81 - (1 : Int32)).toInt8.toInt32))) v26.toNatClampNeg (nar .byte ((v92 - (1 : Int32)).toInt8.toInt32)))) = v92 then (1 : Int32) else (0 : Int32)) := ⟨_, rfl⟩
    have pre45 : ∀ t, Steps p.tables e below (T44.setTop (mkF m 151 #[.val (.int p1), .val (.int p2), .val (.int p3), .val (.int p4), .val (.int p5), .val (.int p6), .val (.int v7), .val (.int v16), .val (.int v26), .val (.int v38), .val (.int u7210), .val (.int v81), .val (.int v92), .val (.ref b33), .val (.int v114_1), .unset, .unset] [(.int u151s0_1)])) t → Steps p.tables e below (s₁.setTop (entryFrame m #[(.int p1), (.int p2), (.int p3), (.int p4), (.int p5), (.int p6)] maxLocals)) t := by
      intro t k
      subst hu151s0_1
      refine pre44 t ?_
      refine XS.iload X44.here hx rfl (hb hby at_141) rfl ?_
      show Steps p.tables e below (T44.setTop (mkF m 143 #[.val (.int p1), .val (.int p2), .val (.int p3), .val (.int p4), .val (.int p5), .val (.int p6), .val (.int v7), .val (.int v16), .val (.int v26), .val (.int v38), .val (.int u7210), .val (.int v81), .val (.int v92), .val (.ref b33), .val (.int v114_1), .unset, .unset] [(.int v92), (.int (fn3s v26 (own_upd (own_upd (fun _ => 0) v16.toNatClampNeg (nar .byte ((v81 - (1 : Int32)).toInt8.toInt32))) v26.toNatClampNeg (nar .byte ((v92 - (1 : Int32)).toInt8.toInt32)))))])) _
      by_cases hb143 : (fn3s v26 (own_upd (own_upd (fun _ => 0) v16.toNatClampNeg (nar .byte ((v81 - (1 : Int32)).toInt8.toInt32))) v26.toNatClampNeg (nar .byte ((v92 - (1 : Int32)).toInt8.toInt32)))) = v92
      · simp only [if_pos hb143] at k
        refine XS.icmpNo X44.here hx rfl (hb hby at_143) rfl (teq hb143).2 ?_
        show Steps p.tables e below (T44.setTop (mkF m 146 #[.val (.int p1), .val (.int p2), .val (.int p3), .val (.int p4), .val (.int p5), .val (.int p6), .val (.int v7), .val (.int v16), .val (.int v26), .val (.int v38), .val (.int u7210), .val (.int v81), .val (.int v92), .val (.ref b33), .val (.int v114_1), .unset, .unset] [])) _
        refine XS.iconst X44.here hx rfl (hb hby at_146) ?_
        show Steps p.tables e below (T44.setTop (mkF m 147 #[.val (.int p1), .val (.int p2), .val (.int p3), .val (.int p4), .val (.int p5), .val (.int p6), .val (.int v7), .val (.int v16), .val (.int v26), .val (.int v38), .val (.int u7210), .val (.int v81), .val (.int v92), .val (.ref b33), .val (.int v114_1), .unset, .unset] [(.int (1 : Int32))])) _
        refine XS.goto X44.here hx rfl (pc0 := 147) (pc' := 151) rfl (hb hby at_147) (by decide) (by decide) ?_
        show Steps p.tables e below (T44.setTop (mkF m 151 #[.val (.int p1), .val (.int p2), .val (.int p3), .val (.int p4), .val (.int p5), .val (.int p6), .val (.int v7), .val (.int v16), .val (.int v26), .val (.int v38), .val (.int u7210), .val (.int v81), .val (.int v92), .val (.ref b33), .val (.int v114_1), .unset, .unset] [(.int (1 : Int32))])) _
        exact k
      · simp only [if_neg hb143] at k
        refine XS.icmpYes X44.here hx rfl (pc0 := 143) (pc' := 150) rfl (hb hby at_143) rfl (feq hb143).2 (by decide) (by decide) ?_
        show Steps p.tables e below (T44.setTop (mkF m 150 #[.val (.int p1), .val (.int p2), .val (.int p3), .val (.int p4), .val (.int p5), .val (.int p6), .val (.int v7), .val (.int v16), .val (.int v26), .val (.int v38), .val (.int u7210), .val (.int v81), .val (.int v92), .val (.ref b33), .val (.int v114_1), .unset, .unset] [])) _
        refine XS.iconst X44.here hx rfl (hb hby at_150) ?_
        show Steps p.tables e below (T44.setTop (mkF m 151 #[.val (.int p1), .val (.int p2), .val (.int p3), .val (.int p4), .val (.int p5), .val (.int p6), .val (.int v7), .val (.int v16), .val (.int v26), .val (.int v38), .val (.int u7210), .val (.int v81), .val (.int v92), .val (.ref b33), .val (.int v114_1), .unset, .unset] [(.int (0 : Int32))])) _
        exact k
    obtain ⟨u167s0_1, hu167s0_1⟩ : ∃ z : Int32, z = (if v16 = v26 then v92 else v81) := ⟨_, rfl⟩
    have pre46 : ∀ t, Steps p.tables e below (T44.setTop (mkF m 167 #[.val (.int p1), .val (.int p2), .val (.int p3), .val (.int p4), .val (.int p5), .val (.int p6), .val (.int v7), .val (.int v16), .val (.int v26), .val (.int v38), .val (.int u7210), .val (.int v81), .val (.int v92), .val (.ref b33), .val (.int v114_1), .val (.int u151s0_1), .unset] [(.int u167s0_1)])) t → Steps p.tables e below (s₁.setTop (entryFrame m #[(.int p1), (.int p2), (.int p3), (.int p4), (.int p5), (.int p6)] maxLocals)) t := by
      intro t k
      subst hu167s0_1
      refine pre45 t ?_
      refine XS.istore X44.here hx rfl (hb hby at_151) rfl (l' := #[.val (.int p1), .val (.int p2), .val (.int p3), .val (.int p4), .val (.int p5), .val (.int p6), .val (.int v7), .val (.int v16), .val (.int v26), .val (.int v38), .val (.int u7210), .val (.int v81), .val (.int v92), .val (.ref b33), .val (.int v114_1), .val (.int u151s0_1), .unset]) rfl ?_
      show Steps p.tables e below (T44.setTop (mkF m 153 #[.val (.int p1), .val (.int p2), .val (.int p3), .val (.int p4), .val (.int p5), .val (.int p6), .val (.int v7), .val (.int v16), .val (.int v26), .val (.int v38), .val (.int u7210), .val (.int v81), .val (.int v92), .val (.ref b33), .val (.int v114_1), .val (.int u151s0_1), .unset] [])) _
      refine XS.iload X44.here hx rfl (hb hby at_153) rfl ?_
      show Steps p.tables e below (T44.setTop (mkF m 155 #[.val (.int p1), .val (.int p2), .val (.int p3), .val (.int p4), .val (.int p5), .val (.int p6), .val (.int v7), .val (.int v16), .val (.int v26), .val (.int v38), .val (.int u7210), .val (.int v81), .val (.int v92), .val (.ref b33), .val (.int v114_1), .val (.int u151s0_1), .unset] [(.int v16)])) _
      refine XS.iload X44.here hx rfl (hb hby at_155) rfl ?_
      show Steps p.tables e below (T44.setTop (mkF m 157 #[.val (.int p1), .val (.int p2), .val (.int p3), .val (.int p4), .val (.int p5), .val (.int p6), .val (.int v7), .val (.int v16), .val (.int v26), .val (.int v38), .val (.int u7210), .val (.int v81), .val (.int v92), .val (.ref b33), .val (.int v114_1), .val (.int u151s0_1), .unset] [(.int v26), (.int v16)])) _
      by_cases hb157 : v16 = v26
      · simp only [if_pos hb157] at k
        refine XS.icmpNo X44.here hx rfl (hb hby at_157) rfl (teq hb157).2 ?_
        show Steps p.tables e below (T44.setTop (mkF m 160 #[.val (.int p1), .val (.int p2), .val (.int p3), .val (.int p4), .val (.int p5), .val (.int p6), .val (.int v7), .val (.int v16), .val (.int v26), .val (.int v38), .val (.int u7210), .val (.int v81), .val (.int v92), .val (.ref b33), .val (.int v114_1), .val (.int u151s0_1), .unset] [])) _
        refine XS.iload X44.here hx rfl (hb hby at_160) rfl ?_
        show Steps p.tables e below (T44.setTop (mkF m 162 #[.val (.int p1), .val (.int p2), .val (.int p3), .val (.int p4), .val (.int p5), .val (.int p6), .val (.int v7), .val (.int v16), .val (.int v26), .val (.int v38), .val (.int u7210), .val (.int v81), .val (.int v92), .val (.ref b33), .val (.int v114_1), .val (.int u151s0_1), .unset] [(.int v92)])) _
        refine XS.goto X44.here hx rfl (pc0 := 162) (pc' := 167) rfl (hb hby at_162) (by decide) (by decide) ?_
        show Steps p.tables e below (T44.setTop (mkF m 167 #[.val (.int p1), .val (.int p2), .val (.int p3), .val (.int p4), .val (.int p5), .val (.int p6), .val (.int v7), .val (.int v16), .val (.int v26), .val (.int v38), .val (.int u7210), .val (.int v81), .val (.int v92), .val (.ref b33), .val (.int v114_1), .val (.int u151s0_1), .unset] [(.int v92)])) _
        exact k
      · simp only [if_neg hb157] at k
        refine XS.icmpYes X44.here hx rfl (pc0 := 157) (pc' := 165) rfl (hb hby at_157) rfl (feq hb157).2 (by decide) (by decide) ?_
        show Steps p.tables e below (T44.setTop (mkF m 165 #[.val (.int p1), .val (.int p2), .val (.int p3), .val (.int p4), .val (.int p5), .val (.int p6), .val (.int v7), .val (.int v16), .val (.int v26), .val (.int v38), .val (.int u7210), .val (.int v81), .val (.int v92), .val (.ref b33), .val (.int v114_1), .val (.int u151s0_1), .unset] [])) _
        refine XS.iload X44.here hx rfl (hb hby at_165) rfl ?_
        show Steps p.tables e below (T44.setTop (mkF m 167 #[.val (.int p1), .val (.int p2), .val (.int p3), .val (.int p4), .val (.int p5), .val (.int p6), .val (.int v7), .val (.int v16), .val (.int v26), .val (.int v38), .val (.int u7210), .val (.int v81), .val (.int v92), .val (.ref b33), .val (.int v114_1), .val (.int u151s0_1), .unset] [(.int v81)])) _
        exact k
    have hd171 : ¬ u151s0_1 = (0 : Int32) := own_g1s hv7 hv16 hv26 hv81 hv92 hwd hM hu151s0_1
    have pre47 : ∀ t, Steps p.tables e below (T44.setTop (mkF m 178 #[.val (.int p1), .val (.int p2), .val (.int p3), .val (.int p4), .val (.int p5), .val (.int p6), .val (.int v7), .val (.int v16), .val (.int v26), .val (.int v38), .val (.int u7210), .val (.int v81), .val (.int v92), .val (.ref b33), .val (.int v114_1), .val (.int u151s0_1), .val (.int u167s0_1)] [(.int v16), (.ref b33)])) t → Steps p.tables e below (s₁.setTop (entryFrame m #[(.int p1), (.int p2), (.int p3), (.int p4), (.int p5), (.int p6)] maxLocals)) t := by
      intro t k
      refine pre46 t ?_
      refine XS.istore X44.here hx rfl (hb hby at_167) rfl (l' := #[.val (.int p1), .val (.int p2), .val (.int p3), .val (.int p4), .val (.int p5), .val (.int p6), .val (.int v7), .val (.int v16), .val (.int v26), .val (.int v38), .val (.int u7210), .val (.int v81), .val (.int v92), .val (.ref b33), .val (.int v114_1), .val (.int u151s0_1), .val (.int u167s0_1)]) rfl ?_
      show Steps p.tables e below (T44.setTop (mkF m 169 #[.val (.int p1), .val (.int p2), .val (.int p3), .val (.int p4), .val (.int p5), .val (.int p6), .val (.int v7), .val (.int v16), .val (.int v26), .val (.int v38), .val (.int u7210), .val (.int v81), .val (.int v92), .val (.ref b33), .val (.int v114_1), .val (.int u151s0_1), .val (.int u167s0_1)] [])) _
      refine XS.iload X44.here hx rfl (hb hby at_169) rfl ?_
      show Steps p.tables e below (T44.setTop (mkF m 171 #[.val (.int p1), .val (.int p2), .val (.int p3), .val (.int p4), .val (.int p5), .val (.int p6), .val (.int v7), .val (.int v16), .val (.int v26), .val (.int v38), .val (.int u7210), .val (.int v81), .val (.int v92), .val (.ref b33), .val (.int v114_1), .val (.int u151s0_1), .val (.int u167s0_1)] [(.int u151s0_1)])) _
      refine XS.ifNo X44.here hx rfl (hb hby at_171) rfl ((if0 _ _).trans (feq hd171).1) ?_
      show Steps p.tables e below (T44.setTop (mkF m 174 #[.val (.int p1), .val (.int p2), .val (.int p3), .val (.int p4), .val (.int p5), .val (.int p6), .val (.int v7), .val (.int v16), .val (.int v26), .val (.int v38), .val (.int u7210), .val (.int v81), .val (.int v92), .val (.ref b33), .val (.int v114_1), .val (.int u151s0_1), .val (.int u167s0_1)] [])) _
      refine XS.aload X44.here hx rfl (hb hby at_174) rfl rfl ?_
      show Steps p.tables e below (T44.setTop (mkF m 176 #[.val (.int p1), .val (.int p2), .val (.int p3), .val (.int p4), .val (.int p5), .val (.int p6), .val (.int v7), .val (.int v16), .val (.int v26), .val (.int v38), .val (.int u7210), .val (.int v81), .val (.int v92), .val (.ref b33), .val (.int v114_1), .val (.int u151s0_1), .val (.int u167s0_1)] [(.ref b33)])) _
      refine XS.iload X44.here hx rfl (hb hby at_176) rfl ?_
      show Steps p.tables e below (T44.setTop (mkF m 178 #[.val (.int p1), .val (.int p2), .val (.int p3), .val (.int p4), .val (.int p5), .val (.int p6), .val (.int v7), .val (.int v16), .val (.int v26), .val (.int v38), .val (.int u7210), .val (.int v81), .val (.int v92), .val (.ref b33), .val (.int v114_1), .val (.int u151s0_1), .val (.int u167s0_1)] [(.int v16), (.ref b33)])) _
      exact k
    obtain ⟨cq48, kq48, qa48, qb48, qc48⟩ := isOf hZ e44 F42_2
    obtain ⟨_, _, ⟨T48, L48, k48, n48⟩, -, X48, ⟨Lc48, hQ48, l48, y48, z48⟩, st48⟩ := X44.virtualBack hx (y := (⟨"com/example/ballast/ballast/model/Ports", "get", "(I)I"⟩ : MethodName)) (z := (⟨"com/example/ballast/ballast/model/Ports", "get", "(I)I"⟩ : MethodName)) hown (mvT hZ (hw _ (List.mem_of_getElem? (i := 15) rfl))) (mvT hZ (hw _ (List.mem_of_getElem? (i := 16) rfl))) (notFace_of_selects (args := #[]) (mvT hZ (hw _ (List.mem_of_getElem? (i := 18) rfl)))) (mvT hZ (hw _ (List.mem_of_getElem? (i := 18) rfl))) (mvT hZ (hw _ (List.mem_of_getElem? (i := 17) rfl))) (by decide) (backOf (W := 0) (rm3s l Z a0 hw [] b33 v16 b35 v7 (own_upd (own_upd (fun _ => 0) v16.toNatClampNeg (nar .byte ((v81 - (1 : Int32)).toInt8.toInt32))) v26.toNatClampNeg (nar .byte ((v92 - (1 : Int32)).toInt8.toInt32))) T42.heap n0 Z42 F42_0 V42 (own_ix hv7 hv16).1 (own_ix hv7 hv16).2) hZ (hw _ (List.mem_of_getElem? (i := 19) rfl)) (hw _ (List.mem_of_getElem? (i := 3) rfl)) (by decide) (by decide)) qa48 qc48 (g := (mkF m 178 #[.val (.int p1), .val (.int p2), .val (.int p3), .val (.int p4), .val (.int p5), .val (.int p6), .val (.int v7), .val (.int v16), .val (.int v26), .val (.int v38), .val (.int u7210), .val (.int v81), .val (.int v92), .val (.ref b33), .val (.int v114_1), .val (.int u151s0_1), .val (.int u167s0_1)] [(.int v16), (.ref b33)])) rfl (by rw [hml]; rfl) (Steps.refl _) (argsL := [(.int v16)]) (rest := []) (lenOf pd0_1 rfl) rfl (by show 2 * 0 + _ ≤ _; exact Nat.le_of_eq rfl) (hb hby at_178) (fun _ _ => ⟨rfl, e44, (by decide : 2 + 0 ≤ _), (by decide : 10 + 0 ≤ _)⟩)
    dsimp only [Pt.U, Pt.locs, Pt.cells, Pt.slots] at X48 l48 y48 z48 st48 hQ48
    subst l48 y48 z48
    obtain ⟨rfl, Nq48, e48⟩ := hQ48
    have N48 := Fr.app N44 Nq48
    have pre48 : ∀ t, Steps p.tables e below (T48.setTop (mkF m 181 #[.val (.int p1), .val (.int p2), .val (.int p3), .val (.int p4), .val (.int p5), .val (.int p6), .val (.int v7), .val (.int v16), .val (.int v26), .val (.int v38), .val (.int u7210), .val (.int v81), .val (.int v92), .val (.ref b33), .val (.int v114_1), .val (.int u151s0_1), .val (.int u167s0_1)] [(.int (fn3s v16 (own_upd (own_upd (fun _ => 0) v16.toNatClampNeg (nar .byte ((v81 - (1 : Int32)).toInt8.toInt32))) v26.toNatClampNeg (nar .byte ((v92 - (1 : Int32)).toInt8.toInt32)))))])) t → Steps p.tables e below (s₁.setTop (entryFrame m #[(.int p1), (.int p2), (.int p3), (.int p4), (.int p5), (.int p6)] maxLocals)) t := fun t k => pre47 t (st48.trans k)
    obtain ⟨u191s0_1, hu191s0_1⟩ : ∃ z : Int32, z = (if (fn3s v16 (own_upd (own_upd (fun _ => 0) v16.toNatClampNeg (nar .byte ((v81 - (1 : Int32)).toInt8.toInt32))) v26.toNatClampNeg (nar .byte ((v92 - (1 : Int32)).toInt8.toInt32)))) = u167s0_1 then (1 : Int32) else (0 : Int32)) := ⟨_, rfl⟩
    have pre49 : ∀ t, Steps p.tables e below (T48.setTop (mkF m 191 #[.val (.int p1), .val (.int p2), .val (.int p3), .val (.int p4), .val (.int p5), .val (.int p6), .val (.int v7), .val (.int v16), .val (.int v26), .val (.int v38), .val (.int u7210), .val (.int v81), .val (.int v92), .val (.ref b33), .val (.int v114_1), .val (.int u151s0_1), .val (.int u167s0_1)] [(.int u191s0_1)])) t → Steps p.tables e below (s₁.setTop (entryFrame m #[(.int p1), (.int p2), (.int p3), (.int p4), (.int p5), (.int p6)] maxLocals)) t := by
      intro t k
      subst hu191s0_1
      refine pre48 t ?_
      refine XS.iload X48.here hx rfl (hb hby at_181) rfl ?_
      show Steps p.tables e below (T48.setTop (mkF m 183 #[.val (.int p1), .val (.int p2), .val (.int p3), .val (.int p4), .val (.int p5), .val (.int p6), .val (.int v7), .val (.int v16), .val (.int v26), .val (.int v38), .val (.int u7210), .val (.int v81), .val (.int v92), .val (.ref b33), .val (.int v114_1), .val (.int u151s0_1), .val (.int u167s0_1)] [(.int u167s0_1), (.int (fn3s v16 (own_upd (own_upd (fun _ => 0) v16.toNatClampNeg (nar .byte ((v81 - (1 : Int32)).toInt8.toInt32))) v26.toNatClampNeg (nar .byte ((v92 - (1 : Int32)).toInt8.toInt32)))))])) _
      by_cases hb183 : (fn3s v16 (own_upd (own_upd (fun _ => 0) v16.toNatClampNeg (nar .byte ((v81 - (1 : Int32)).toInt8.toInt32))) v26.toNatClampNeg (nar .byte ((v92 - (1 : Int32)).toInt8.toInt32)))) = u167s0_1
      · simp only [if_pos hb183] at k
        refine XS.icmpNo X48.here hx rfl (hb hby at_183) rfl (teq hb183).2 ?_
        show Steps p.tables e below (T48.setTop (mkF m 186 #[.val (.int p1), .val (.int p2), .val (.int p3), .val (.int p4), .val (.int p5), .val (.int p6), .val (.int v7), .val (.int v16), .val (.int v26), .val (.int v38), .val (.int u7210), .val (.int v81), .val (.int v92), .val (.ref b33), .val (.int v114_1), .val (.int u151s0_1), .val (.int u167s0_1)] [])) _
        refine XS.iconst X48.here hx rfl (hb hby at_186) ?_
        show Steps p.tables e below (T48.setTop (mkF m 187 #[.val (.int p1), .val (.int p2), .val (.int p3), .val (.int p4), .val (.int p5), .val (.int p6), .val (.int v7), .val (.int v16), .val (.int v26), .val (.int v38), .val (.int u7210), .val (.int v81), .val (.int v92), .val (.ref b33), .val (.int v114_1), .val (.int u151s0_1), .val (.int u167s0_1)] [(.int (1 : Int32))])) _
        refine XS.goto X48.here hx rfl (pc0 := 187) (pc' := 191) rfl (hb hby at_187) (by decide) (by decide) ?_
        show Steps p.tables e below (T48.setTop (mkF m 191 #[.val (.int p1), .val (.int p2), .val (.int p3), .val (.int p4), .val (.int p5), .val (.int p6), .val (.int v7), .val (.int v16), .val (.int v26), .val (.int v38), .val (.int u7210), .val (.int v81), .val (.int v92), .val (.ref b33), .val (.int v114_1), .val (.int u151s0_1), .val (.int u167s0_1)] [(.int (1 : Int32))])) _
        exact k
      · simp only [if_neg hb183] at k
        refine XS.icmpYes X48.here hx rfl (pc0 := 183) (pc' := 190) rfl (hb hby at_183) rfl (feq hb183).2 (by decide) (by decide) ?_
        show Steps p.tables e below (T48.setTop (mkF m 190 #[.val (.int p1), .val (.int p2), .val (.int p3), .val (.int p4), .val (.int p5), .val (.int p6), .val (.int v7), .val (.int v16), .val (.int v26), .val (.int v38), .val (.int u7210), .val (.int v81), .val (.int v92), .val (.ref b33), .val (.int v114_1), .val (.int u151s0_1), .val (.int u167s0_1)] [])) _
        refine XS.iconst X48.here hx rfl (hb hby at_190) ?_
        show Steps p.tables e below (T48.setTop (mkF m 191 #[.val (.int p1), .val (.int p2), .val (.int p3), .val (.int p4), .val (.int p5), .val (.int p6), .val (.int v7), .val (.int v16), .val (.int v26), .val (.int v38), .val (.int u7210), .val (.int v81), .val (.int v92), .val (.ref b33), .val (.int v114_1), .val (.int u151s0_1), .val (.int u167s0_1)] [(.int (0 : Int32))])) _
        exact k
    have pre50 : ∀ t, Steps p.tables e below (T48.setTop (mkF m 197 #[.val (.int p1), .val (.int p2), .val (.int p3), .val (.int p4), .val (.int p5), .val (.int p6), .val (.int v7), .val (.int v16), .val (.int v26), .val (.int v38), .val (.int u7210), .val (.int v81), .val (.int v92), .val (.ref b33), .val (.int v114_1), .val (.int u191s0_1), .val (.int u167s0_1)] [(.int v16), (.int v38)])) t → Steps p.tables e below (s₁.setTop (entryFrame m #[(.int p1), (.int p2), (.int p3), (.int p4), (.int p5), (.int p6)] maxLocals)) t := by
      intro t k
      refine pre49 t ?_
      refine XS.istore X48.here hx rfl (hb hby at_191) rfl (l' := #[.val (.int p1), .val (.int p2), .val (.int p3), .val (.int p4), .val (.int p5), .val (.int p6), .val (.int v7), .val (.int v16), .val (.int v26), .val (.int v38), .val (.int u7210), .val (.int v81), .val (.int v92), .val (.ref b33), .val (.int v114_1), .val (.int u191s0_1), .val (.int u167s0_1)]) rfl ?_
      show Steps p.tables e below (T48.setTop (mkF m 193 #[.val (.int p1), .val (.int p2), .val (.int p3), .val (.int p4), .val (.int p5), .val (.int p6), .val (.int v7), .val (.int v16), .val (.int v26), .val (.int v38), .val (.int u7210), .val (.int v81), .val (.int v92), .val (.ref b33), .val (.int v114_1), .val (.int u191s0_1), .val (.int u167s0_1)] [])) _
      refine XS.iload X48.here hx rfl (hb hby at_193) rfl ?_
      show Steps p.tables e below (T48.setTop (mkF m 195 #[.val (.int p1), .val (.int p2), .val (.int p3), .val (.int p4), .val (.int p5), .val (.int p6), .val (.int v7), .val (.int v16), .val (.int v26), .val (.int v38), .val (.int u7210), .val (.int v81), .val (.int v92), .val (.ref b33), .val (.int v114_1), .val (.int u191s0_1), .val (.int u167s0_1)] [(.int v38)])) _
      refine XS.iload X48.here hx rfl (hb hby at_195) rfl ?_
      show Steps p.tables e below (T48.setTop (mkF m 197 #[.val (.int p1), .val (.int p2), .val (.int p3), .val (.int p4), .val (.int p5), .val (.int p6), .val (.int v7), .val (.int v16), .val (.int v26), .val (.int v38), .val (.int u7210), .val (.int v81), .val (.int v92), .val (.ref b33), .val (.int v114_1), .val (.int u191s0_1), .val (.int u167s0_1)] [(.int v16), (.int v38)])) _
      exact k
    by_cases hc197_1 : v38 = v16
    · have pre51 : ∀ t, Steps p.tables e below (T48.setTop (mkF m 233 #[.val (.int p1), .val (.int p2), .val (.int p3), .val (.int p4), .val (.int p5), .val (.int p6), .val (.int v7), .val (.int v16), .val (.int v26), .val (.int v38), .val (.int u7210), .val (.int v81), .val (.int v92), .val (.ref b33), .val (.int v114_1), .val (.int u191s0_1), .val (.int u167s0_1)] [(.int u191s0_1)])) t → Steps p.tables e below (s₁.setTop (entryFrame m #[(.int p1), (.int p2), (.int p3), (.int p4), (.int p5), (.int p6)] maxLocals)) t := by
        intro t k
        refine pre50 t ?_
        refine XS.icmpYes X48.here hx rfl (pc0 := 197) (pc' := 231) rfl (hb hby at_197) rfl (teq hc197_1).1 (by decide) (by decide) ?_
        show Steps p.tables e below (T48.setTop (mkF m 231 #[.val (.int p1), .val (.int p2), .val (.int p3), .val (.int p4), .val (.int p5), .val (.int p6), .val (.int v7), .val (.int v16), .val (.int v26), .val (.int v38), .val (.int u7210), .val (.int v81), .val (.int v92), .val (.ref b33), .val (.int v114_1), .val (.int u191s0_1), .val (.int u167s0_1)] [])) _
        refine XS.iload X48.here hx rfl (hb hby at_231) rfl ?_
        show Steps p.tables e below (T48.setTop (mkF m 233 #[.val (.int p1), .val (.int p2), .val (.int p3), .val (.int p4), .val (.int p5), .val (.int p6), .val (.int v7), .val (.int v16), .val (.int v26), .val (.int v38), .val (.int u7210), .val (.int v81), .val (.int v92), .val (.ref b33), .val (.int v114_1), .val (.int u191s0_1), .val (.int u167s0_1)] [(.int u191s0_1)])) _
        exact k
      obtain ⟨fs, hr, hrun, hended, hW, hsame⟩ := X48.leave (v := some (.int (nar .boolean u191s0_1))) (fun h => by rw [Bd.returns] at h; cases h)
      refine ⟨_, _, pre51 _ ?_, hrun, hended, _, _, rfl, ?_, ⟨_, rfl⟩, hW, hsame.mono (by decide) (by decide)⟩
      · show Steps p.tables e below (T48.setTop (mkF m 233 #[.val (.int p1), .val (.int p2), .val (.int p3), .val (.int p4), .val (.int p5), .val (.int p6), .val (.int v7), .val (.int v16), .val (.int v26), .val (.int v38), .val (.int u7210), .val (.int v81), .val (.int v92), .val (.ref b33), .val (.int v114_1), .val (.int u191s0_1), .val (.int u167s0_1)] [(.int u191s0_1)])) _
        exact retN X48 hx (t := .boolean) Bd.returns (by simp) (hb hby at_233) hr
      · show Q0 Z p1 p2 p3 p4 p5 p6 h0 n0 _ T48.heap _
        rw [e48]
        refine ⟨?_, N48⟩
        subst hu191s0_1 hu167s0_1 hu151s0_1 hv114_1 hv92 hv81 hu7210 hv38 hv26 hv16 hv7
        simp only [fn0, if_neg hM, if_pos hc197_1]
    · have pre52 : ∀ t, Steps p.tables e below (T48.setTop (mkF m 204 #[.val (.int p1), .val (.int p2), .val (.int p3), .val (.int p4), .val (.int p5), .val (.int p6), .val (.int v7), .val (.int v16), .val (.int v26), .val (.int v38), .val (.int u7210), .val (.int v81), .val (.int v92), .val (.ref b33), .val (.int v114_1), .val (.int u191s0_1), .val (.int u167s0_1)] [(.int v26), (.int v38)])) t → Steps p.tables e below (s₁.setTop (entryFrame m #[(.int p1), (.int p2), (.int p3), (.int p4), (.int p5), (.int p6)] maxLocals)) t := by
        intro t k
        refine pre50 t ?_
        refine XS.icmpNo X48.here hx rfl (hb hby at_197) rfl (feq hc197_1).1 ?_
        show Steps p.tables e below (T48.setTop (mkF m 200 #[.val (.int p1), .val (.int p2), .val (.int p3), .val (.int p4), .val (.int p5), .val (.int p6), .val (.int v7), .val (.int v16), .val (.int v26), .val (.int v38), .val (.int u7210), .val (.int v81), .val (.int v92), .val (.ref b33), .val (.int v114_1), .val (.int u191s0_1), .val (.int u167s0_1)] [])) _
        refine XS.iload X48.here hx rfl (hb hby at_200) rfl ?_
        show Steps p.tables e below (T48.setTop (mkF m 202 #[.val (.int p1), .val (.int p2), .val (.int p3), .val (.int p4), .val (.int p5), .val (.int p6), .val (.int v7), .val (.int v16), .val (.int v26), .val (.int v38), .val (.int u7210), .val (.int v81), .val (.int v92), .val (.ref b33), .val (.int v114_1), .val (.int u191s0_1), .val (.int u167s0_1)] [(.int v38)])) _
        refine XS.iload X48.here hx rfl (hb hby at_202) rfl ?_
        show Steps p.tables e below (T48.setTop (mkF m 204 #[.val (.int p1), .val (.int p2), .val (.int p3), .val (.int p4), .val (.int p5), .val (.int p6), .val (.int v7), .val (.int v16), .val (.int v26), .val (.int v38), .val (.int u7210), .val (.int v81), .val (.int v92), .val (.ref b33), .val (.int v114_1), .val (.int u191s0_1), .val (.int u167s0_1)] [(.int v26), (.int v38)])) _
        exact k
      by_cases hc204_1 : v38 = v26
      · have pre53 : ∀ t, Steps p.tables e below (T48.setTop (mkF m 233 #[.val (.int p1), .val (.int p2), .val (.int p3), .val (.int p4), .val (.int p5), .val (.int p6), .val (.int v7), .val (.int v16), .val (.int v26), .val (.int v38), .val (.int u7210), .val (.int v81), .val (.int v92), .val (.ref b33), .val (.int v114_1), .val (.int u191s0_1), .val (.int u167s0_1)] [(.int u191s0_1)])) t → Steps p.tables e below (s₁.setTop (entryFrame m #[(.int p1), (.int p2), (.int p3), (.int p4), (.int p5), (.int p6)] maxLocals)) t := by
          intro t k
          refine pre52 t ?_
          refine XS.icmpYes X48.here hx rfl (pc0 := 204) (pc' := 231) rfl (hb hby at_204) rfl (teq hc204_1).1 (by decide) (by decide) ?_
          show Steps p.tables e below (T48.setTop (mkF m 231 #[.val (.int p1), .val (.int p2), .val (.int p3), .val (.int p4), .val (.int p5), .val (.int p6), .val (.int v7), .val (.int v16), .val (.int v26), .val (.int v38), .val (.int u7210), .val (.int v81), .val (.int v92), .val (.ref b33), .val (.int v114_1), .val (.int u191s0_1), .val (.int u167s0_1)] [])) _
          refine XS.iload X48.here hx rfl (hb hby at_231) rfl ?_
          show Steps p.tables e below (T48.setTop (mkF m 233 #[.val (.int p1), .val (.int p2), .val (.int p3), .val (.int p4), .val (.int p5), .val (.int p6), .val (.int v7), .val (.int v16), .val (.int v26), .val (.int v38), .val (.int u7210), .val (.int v81), .val (.int v92), .val (.ref b33), .val (.int v114_1), .val (.int u191s0_1), .val (.int u167s0_1)] [(.int u191s0_1)])) _
          exact k
        obtain ⟨fs, hr, hrun, hended, hW, hsame⟩ := X48.leave (v := some (.int (nar .boolean u191s0_1))) (fun h => by rw [Bd.returns] at h; cases h)
        refine ⟨_, _, pre53 _ ?_, hrun, hended, _, _, rfl, ?_, ⟨_, rfl⟩, hW, hsame.mono (by decide) (by decide)⟩
        · show Steps p.tables e below (T48.setTop (mkF m 233 #[.val (.int p1), .val (.int p2), .val (.int p3), .val (.int p4), .val (.int p5), .val (.int p6), .val (.int v7), .val (.int v16), .val (.int v26), .val (.int v38), .val (.int u7210), .val (.int v81), .val (.int v92), .val (.ref b33), .val (.int v114_1), .val (.int u191s0_1), .val (.int u167s0_1)] [(.int u191s0_1)])) _
          exact retN X48 hx (t := .boolean) Bd.returns (by simp) (hb hby at_233) hr
        · show Q0 Z p1 p2 p3 p4 p5 p6 h0 n0 _ T48.heap _
          rw [e48]
          refine ⟨?_, N48⟩
          subst hu191s0_1 hu167s0_1 hu151s0_1 hv114_1 hv92 hv81 hu7210 hv38 hv26 hv16 hv7
          simp only [fn0, if_neg hM, if_neg hc197_1, if_pos hc204_1]
      · have hd209 : ¬ u191s0_1 = (0 : Int32) := own_g2s hv7 hv16 hv26 hv81 hv92 hwd hM hu167s0_1 hu191s0_1
        have pre54 : ∀ t, Steps p.tables e below (T48.setTop (mkF m 216 #[.val (.int p1), .val (.int p2), .val (.int p3), .val (.int p4), .val (.int p5), .val (.int p6), .val (.int v7), .val (.int v16), .val (.int v26), .val (.int v38), .val (.int u7210), .val (.int v81), .val (.int v92), .val (.ref b33), .val (.int v114_1), .val (.int u191s0_1), .val (.int u167s0_1)] [(.int v38), (.ref b33)])) t → Steps p.tables e below (s₁.setTop (entryFrame m #[(.int p1), (.int p2), (.int p3), (.int p4), (.int p5), (.int p6)] maxLocals)) t := by
          intro t k
          refine pre52 t ?_
          refine XS.icmpNo X48.here hx rfl (hb hby at_204) rfl (feq hc204_1).1 ?_
          show Steps p.tables e below (T48.setTop (mkF m 207 #[.val (.int p1), .val (.int p2), .val (.int p3), .val (.int p4), .val (.int p5), .val (.int p6), .val (.int v7), .val (.int v16), .val (.int v26), .val (.int v38), .val (.int u7210), .val (.int v81), .val (.int v92), .val (.ref b33), .val (.int v114_1), .val (.int u191s0_1), .val (.int u167s0_1)] [])) _
          refine XS.iload X48.here hx rfl (hb hby at_207) rfl ?_
          show Steps p.tables e below (T48.setTop (mkF m 209 #[.val (.int p1), .val (.int p2), .val (.int p3), .val (.int p4), .val (.int p5), .val (.int p6), .val (.int v7), .val (.int v16), .val (.int v26), .val (.int v38), .val (.int u7210), .val (.int v81), .val (.int v92), .val (.ref b33), .val (.int v114_1), .val (.int u191s0_1), .val (.int u167s0_1)] [(.int u191s0_1)])) _
          refine XS.ifNo X48.here hx rfl (hb hby at_209) rfl ((if0 _ _).trans (feq hd209).1) ?_
          show Steps p.tables e below (T48.setTop (mkF m 212 #[.val (.int p1), .val (.int p2), .val (.int p3), .val (.int p4), .val (.int p5), .val (.int p6), .val (.int v7), .val (.int v16), .val (.int v26), .val (.int v38), .val (.int u7210), .val (.int v81), .val (.int v92), .val (.ref b33), .val (.int v114_1), .val (.int u191s0_1), .val (.int u167s0_1)] [])) _
          refine XS.aload X48.here hx rfl (hb hby at_212) rfl rfl ?_
          show Steps p.tables e below (T48.setTop (mkF m 214 #[.val (.int p1), .val (.int p2), .val (.int p3), .val (.int p4), .val (.int p5), .val (.int p6), .val (.int v7), .val (.int v16), .val (.int v26), .val (.int v38), .val (.int u7210), .val (.int v81), .val (.int v92), .val (.ref b33), .val (.int v114_1), .val (.int u191s0_1), .val (.int u167s0_1)] [(.ref b33)])) _
          refine XS.iload X48.here hx rfl (hb hby at_214) rfl ?_
          show Steps p.tables e below (T48.setTop (mkF m 216 #[.val (.int p1), .val (.int p2), .val (.int p3), .val (.int p4), .val (.int p5), .val (.int p6), .val (.int v7), .val (.int v16), .val (.int v26), .val (.int v38), .val (.int u7210), .val (.int v81), .val (.int v92), .val (.ref b33), .val (.int v114_1), .val (.int u191s0_1), .val (.int u167s0_1)] [(.int v38), (.ref b33)])) _
          exact k
        obtain ⟨cq55, kq55, qa55, qb55, qc55⟩ := isOf hZ e48 F42_2
        obtain ⟨_, _, ⟨T55, L55, k55, n55⟩, -, X55, ⟨Lc55, hQ55, l55, y55, z55⟩, st55⟩ := X48.virtualBack hx (y := (⟨"com/example/ballast/ballast/model/Ports", "get", "(I)I"⟩ : MethodName)) (z := (⟨"com/example/ballast/ballast/model/Ports", "get", "(I)I"⟩ : MethodName)) hown (mvT hZ (hw _ (List.mem_of_getElem? (i := 15) rfl))) (mvT hZ (hw _ (List.mem_of_getElem? (i := 16) rfl))) (notFace_of_selects (args := #[]) (mvT hZ (hw _ (List.mem_of_getElem? (i := 18) rfl)))) (mvT hZ (hw _ (List.mem_of_getElem? (i := 18) rfl))) (mvT hZ (hw _ (List.mem_of_getElem? (i := 17) rfl))) (by decide) (backOf (W := 0) (rm3s l Z a0 hw [] b33 v38 b35 v7 (own_upd (own_upd (fun _ => 0) v16.toNatClampNeg (nar .byte ((v81 - (1 : Int32)).toInt8.toInt32))) v26.toNatClampNeg (nar .byte ((v92 - (1 : Int32)).toInt8.toInt32))) T42.heap n0 Z42 F42_0 V42 (own_ix hv7 hv38).1 (own_ix hv7 hv38).2) hZ (hw _ (List.mem_of_getElem? (i := 19) rfl)) (hw _ (List.mem_of_getElem? (i := 3) rfl)) (by decide) (by decide)) qa55 qc55 (g := (mkF m 216 #[.val (.int p1), .val (.int p2), .val (.int p3), .val (.int p4), .val (.int p5), .val (.int p6), .val (.int v7), .val (.int v16), .val (.int v26), .val (.int v38), .val (.int u7210), .val (.int v81), .val (.int v92), .val (.ref b33), .val (.int v114_1), .val (.int u191s0_1), .val (.int u167s0_1)] [(.int v38), (.ref b33)])) rfl (by rw [hml]; rfl) (Steps.refl _) (argsL := [(.int v38)]) (rest := []) (lenOf pd0_1 rfl) rfl (by show 2 * 0 + _ ≤ _; exact Nat.le_of_eq rfl) (hb hby at_216) (fun _ _ => ⟨rfl, e48, (by decide : 2 + 0 ≤ _), (by decide : 10 + 0 ≤ _)⟩)
        dsimp only [Pt.U, Pt.locs, Pt.cells, Pt.slots] at X55 l55 y55 z55 st55 hQ55
        subst l55 y55 z55
        obtain ⟨rfl, Nq55, e55⟩ := hQ55
        have N55 := Fr.app N48 Nq55
        have pre55 : ∀ t, Steps p.tables e below (T55.setTop (mkF m 219 #[.val (.int p1), .val (.int p2), .val (.int p3), .val (.int p4), .val (.int p5), .val (.int p6), .val (.int v7), .val (.int v16), .val (.int v26), .val (.int v38), .val (.int u7210), .val (.int v81), .val (.int v92), .val (.ref b33), .val (.int v114_1), .val (.int u191s0_1), .val (.int u167s0_1)] [(.int (fn3s v38 (own_upd (own_upd (fun _ => 0) v16.toNatClampNeg (nar .byte ((v81 - (1 : Int32)).toInt8.toInt32))) v26.toNatClampNeg (nar .byte ((v92 - (1 : Int32)).toInt8.toInt32)))))])) t → Steps p.tables e below (s₁.setTop (entryFrame m #[(.int p1), (.int p2), (.int p3), (.int p4), (.int p5), (.int p6)] maxLocals)) t := fun t k => pre54 t (st55.trans k)
        obtain ⟨u229s0_1, hu229s0_1⟩ : ∃ z : Int32, z = (if (fn3s v38 (own_upd (own_upd (fun _ => 0) v16.toNatClampNeg (nar .byte ((v81 - (1 : Int32)).toInt8.toInt32))) v26.toNatClampNeg (nar .byte ((v92 - (1 : Int32)).toInt8.toInt32)))) = v114_1 then (1 : Int32) else (0 : Int32)) := ⟨_, rfl⟩
        have pre56 : ∀ t, Steps p.tables e below (T55.setTop (mkF m 229 #[.val (.int p1), .val (.int p2), .val (.int p3), .val (.int p4), .val (.int p5), .val (.int p6), .val (.int v7), .val (.int v16), .val (.int v26), .val (.int v38), .val (.int u7210), .val (.int v81), .val (.int v92), .val (.ref b33), .val (.int v114_1), .val (.int u191s0_1), .val (.int u167s0_1)] [(.int u229s0_1)])) t → Steps p.tables e below (s₁.setTop (entryFrame m #[(.int p1), (.int p2), (.int p3), (.int p4), (.int p5), (.int p6)] maxLocals)) t := by
          intro t k
          subst hu229s0_1
          refine pre55 t ?_
          refine XS.iload X55.here hx rfl (hb hby at_219) rfl ?_
          show Steps p.tables e below (T55.setTop (mkF m 221 #[.val (.int p1), .val (.int p2), .val (.int p3), .val (.int p4), .val (.int p5), .val (.int p6), .val (.int v7), .val (.int v16), .val (.int v26), .val (.int v38), .val (.int u7210), .val (.int v81), .val (.int v92), .val (.ref b33), .val (.int v114_1), .val (.int u191s0_1), .val (.int u167s0_1)] [(.int v114_1), (.int (fn3s v38 (own_upd (own_upd (fun _ => 0) v16.toNatClampNeg (nar .byte ((v81 - (1 : Int32)).toInt8.toInt32))) v26.toNatClampNeg (nar .byte ((v92 - (1 : Int32)).toInt8.toInt32)))))])) _
          by_cases hb221 : (fn3s v38 (own_upd (own_upd (fun _ => 0) v16.toNatClampNeg (nar .byte ((v81 - (1 : Int32)).toInt8.toInt32))) v26.toNatClampNeg (nar .byte ((v92 - (1 : Int32)).toInt8.toInt32)))) = v114_1
          · simp only [if_pos hb221] at k
            refine XS.icmpNo X55.here hx rfl (hb hby at_221) rfl (teq hb221).2 ?_
            show Steps p.tables e below (T55.setTop (mkF m 224 #[.val (.int p1), .val (.int p2), .val (.int p3), .val (.int p4), .val (.int p5), .val (.int p6), .val (.int v7), .val (.int v16), .val (.int v26), .val (.int v38), .val (.int u7210), .val (.int v81), .val (.int v92), .val (.ref b33), .val (.int v114_1), .val (.int u191s0_1), .val (.int u167s0_1)] [])) _
            refine XS.iconst X55.here hx rfl (hb hby at_224) ?_
            show Steps p.tables e below (T55.setTop (mkF m 225 #[.val (.int p1), .val (.int p2), .val (.int p3), .val (.int p4), .val (.int p5), .val (.int p6), .val (.int v7), .val (.int v16), .val (.int v26), .val (.int v38), .val (.int u7210), .val (.int v81), .val (.int v92), .val (.ref b33), .val (.int v114_1), .val (.int u191s0_1), .val (.int u167s0_1)] [(.int (1 : Int32))])) _
            refine XS.goto X55.here hx rfl (pc0 := 225) (pc' := 229) rfl (hb hby at_225) (by decide) (by decide) ?_
            show Steps p.tables e below (T55.setTop (mkF m 229 #[.val (.int p1), .val (.int p2), .val (.int p3), .val (.int p4), .val (.int p5), .val (.int p6), .val (.int v7), .val (.int v16), .val (.int v26), .val (.int v38), .val (.int u7210), .val (.int v81), .val (.int v92), .val (.ref b33), .val (.int v114_1), .val (.int u191s0_1), .val (.int u167s0_1)] [(.int (1 : Int32))])) _
            exact k
          · simp only [if_neg hb221] at k
            refine XS.icmpYes X55.here hx rfl (pc0 := 221) (pc' := 228) rfl (hb hby at_221) rfl (feq hb221).2 (by decide) (by decide) ?_
            show Steps p.tables e below (T55.setTop (mkF m 228 #[.val (.int p1), .val (.int p2), .val (.int p3), .val (.int p4), .val (.int p5), .val (.int p6), .val (.int v7), .val (.int v16), .val (.int v26), .val (.int v38), .val (.int u7210), .val (.int v81), .val (.int v92), .val (.ref b33), .val (.int v114_1), .val (.int u191s0_1), .val (.int u167s0_1)] [])) _
            refine XS.iconst X55.here hx rfl (hb hby at_228) ?_
            show Steps p.tables e below (T55.setTop (mkF m 229 #[.val (.int p1), .val (.int p2), .val (.int p3), .val (.int p4), .val (.int p5), .val (.int p6), .val (.int v7), .val (.int v16), .val (.int v26), .val (.int v38), .val (.int u7210), .val (.int v81), .val (.int v92), .val (.ref b33), .val (.int v114_1), .val (.int u191s0_1), .val (.int u167s0_1)] [(.int (0 : Int32))])) _
            exact k
        have pre57 : ∀ t, Steps p.tables e below (T55.setTop (mkF m 233 #[.val (.int p1), .val (.int p2), .val (.int p3), .val (.int p4), .val (.int p5), .val (.int p6), .val (.int v7), .val (.int v16), .val (.int v26), .val (.int v38), .val (.int u7210), .val (.int v81), .val (.int v92), .val (.ref b33), .val (.int v114_1), .val (.int u229s0_1), .val (.int u167s0_1)] [(.int u229s0_1)])) t → Steps p.tables e below (s₁.setTop (entryFrame m #[(.int p1), (.int p2), (.int p3), (.int p4), (.int p5), (.int p6)] maxLocals)) t := by
          intro t k
          refine pre56 t ?_
          refine XS.istore X55.here hx rfl (hb hby at_229) rfl (l' := #[.val (.int p1), .val (.int p2), .val (.int p3), .val (.int p4), .val (.int p5), .val (.int p6), .val (.int v7), .val (.int v16), .val (.int v26), .val (.int v38), .val (.int u7210), .val (.int v81), .val (.int v92), .val (.ref b33), .val (.int v114_1), .val (.int u229s0_1), .val (.int u167s0_1)]) rfl ?_
          show Steps p.tables e below (T55.setTop (mkF m 231 #[.val (.int p1), .val (.int p2), .val (.int p3), .val (.int p4), .val (.int p5), .val (.int p6), .val (.int v7), .val (.int v16), .val (.int v26), .val (.int v38), .val (.int u7210), .val (.int v81), .val (.int v92), .val (.ref b33), .val (.int v114_1), .val (.int u229s0_1), .val (.int u167s0_1)] [])) _
          refine XS.iload X55.here hx rfl (hb hby at_231) rfl ?_
          show Steps p.tables e below (T55.setTop (mkF m 233 #[.val (.int p1), .val (.int p2), .val (.int p3), .val (.int p4), .val (.int p5), .val (.int p6), .val (.int v7), .val (.int v16), .val (.int v26), .val (.int v38), .val (.int u7210), .val (.int v81), .val (.int v92), .val (.ref b33), .val (.int v114_1), .val (.int u229s0_1), .val (.int u167s0_1)] [(.int u229s0_1)])) _
          exact k
        obtain ⟨fs, hr, hrun, hended, hW, hsame⟩ := X55.leave (v := some (.int (nar .boolean u229s0_1))) (fun h => by rw [Bd.returns] at h; cases h)
        refine ⟨_, _, pre57 _ ?_, hrun, hended, _, _, rfl, ?_, ⟨_, rfl⟩, hW, hsame.mono (by decide) (by decide)⟩
        · show Steps p.tables e below (T55.setTop (mkF m 233 #[.val (.int p1), .val (.int p2), .val (.int p3), .val (.int p4), .val (.int p5), .val (.int p6), .val (.int v7), .val (.int v16), .val (.int v26), .val (.int v38), .val (.int u7210), .val (.int v81), .val (.int v92), .val (.ref b33), .val (.int v114_1), .val (.int u229s0_1), .val (.int u167s0_1)] [(.int u229s0_1)])) _
          exact retN X55 hx (t := .boolean) Bd.returns (by simp) (hb hby at_233) hr
        · show Q0 Z p1 p2 p3 p4 p5 p6 h0 n0 _ T55.heap _
          rw [e55]
          refine ⟨?_, N55⟩
          subst hu229s0_1 hu191s0_1 hu167s0_1 hu151s0_1 hv114_1 hv92 hv81 hu7210 hv38 hv26 hv16 hv7
          simp only [fn0, if_neg hM, if_neg hc197_1, if_neg hc204_1]
set_option maxRecDepth 65536 in
set_option maxHeartbeats 40000000 in
theorem comes_1 {Post : Tables → Env → Array Value → State → Outcome → State → Prop} (hpost : ∀ tb e args s v u, (limb_1_1.after args s (.returned v) u = true ∧ limb_1_2.after args s (.returned v) u = true ∧ True) → FrameEnd s (.returned v) u (Jvm.fieldLocs frame_1_writes args s ++ Jvm.arrayLocs frame_1_arrays args s ++ Jvm.staticLocs frame_1_statics s) 16 128 → Post tb e args s (.returned v) u) :
    ArmFor flags0 classFile x code maxLocals ret World_1 tables_1 room_1 Calls_1 rest_1 Pre_1 Post := by
  intro l hfl _ _ p e ha hc hk s m args below hf hA hF happ hP
  obtain ⟨hcalls, hrest, hpre⟩ := hP
  obtain ⟨-, -, -, hnamed, -, -, -, hat⟩ := (Spec.applies_iff hf).mp happ
  obtain ⟨hg, hn⟩ := and_e (Cond.before_iff.mp (show (Jvm.Cond.and given_1 narrow_1).before args s = true from hpre))
  obtain ⟨hcount, g0⟩ := and_e hg
  obtain ⟨a0, g1⟩ := and_e g0
  obtain ⟨a1, g2⟩ := and_e g1
  obtain ⟨a2, g3⟩ := and_e g2
  obtain ⟨a3, g4⟩ := and_e g3
  obtain ⟨a4, g5⟩ := and_e g4
  have a5 := g5
  obtain ⟨w0, w1, w2, w3, w4, w5, rfl⟩ : ∃ w0 w1 w2 w3 w4 w5 : Value, args = #[w0, w1, w2, w3, w4, w5] := by
    have hs : args.size = 6 := by simpa [Cond.value, given_1] using hcount
    obtain ⟨L⟩ := args
    match L, hs with
    | [w0, w1, w2, w3, w4, w5], _ => exact ⟨w0, w1, w2, w3, w4, w5, rfl⟩
  have hw := fun d (hd : d ∈ tables_1) => atoms_spec (ws := Jvm.Cond.code x code maxLocals ret :: tables_1) hat d (List.mem_cons_of_mem _ hd)
  obtain ⟨i0, ei0⟩ := is_v a0
  obtain rfl : w0 = (.int i0) := Option.some.inj ei0
  obtain ⟨i1, ei1⟩ := is_v a1
  obtain rfl : w1 = (.int i1) := Option.some.inj ei1
  obtain ⟨i2, ei2⟩ := is_v a2
  obtain rfl : w2 = (.int i2) := Option.some.inj ei2
  obtain ⟨i3, ei3⟩ := is_v a3
  obtain rfl : w3 = (.int i3) := Option.some.inj ei3
  obtain ⟨i4, ei4⟩ := is_v a4
  obtain rfl : w4 = (.int i4) := Option.some.inj ei4
  obtain ⟨i5, ei5⟩ := is_v a5
  obtain rfl : w5 = (.int i5) := Option.some.inj ei5
  obtain ⟨n, o, h1, h2, h3, v, L, rfl, ⟨hv, N⟩, hq⟩ := rm0 l s _ hw tables_1 i0 i1 i2 i3 i4 i5 s.heap s.heap.size (Nat.le_refl _) p e ha hc hk s m _ below hf ((Spec.applies_iff_loose hf).mp happ).1 ⟨rfl, State.Warmed39.refl s, rfl⟩ trivial
  rw [own_law] at hv
  subst hv
  refine ⟨n, _, h1, h2, h3, hpost _ _ _ _ _ _ ⟨Cond.after_iff.mpr rfl, Cond.after_iff.mpr (eq_i res_at (Term.int_eval (1)) rfl), trivial⟩ ⟨hq.1, hq.2.1, (hq.2.2.sift fun y hy => Or.inr (N y hy)).mono (by decide) (by decide)⟩⟩
theorem main_1_1 : Claimed_1_1 := comes_1 fun _ _ _ _ _ _ h hF => ⟨h.1, hF⟩
theorem main_1_2 : Claimed_1_2 := comes_1 fun _ _ _ _ _ _ h hF => ⟨h.2.1, hF⟩
end Jvm.Pilot.@@N@@
namespace Jvm.Pilot.@@N@@
open Jvm Jvm.ClassFile Sem Op Lib Jvm.Free Jvm.Stand Jvm.Pilot.@@N@@.Jvm.D
/-! MADE BY PROGRAM (witnessworld.py) out of the Statement's table words and the real class files: 13 classes; the members and pool entries that the words name. The judged class is class 1, her method 1. -/
namespace start1
open Jvm.ClassFile
def u (s : String) : CpInfo := .utf8 (stringToUtf16 s)
/-- a pool by its gaps: so many unusable entries, then the entry; so many at the end -/
def gap : Nat → List CpInfo → List CpInfo
  | 0, r => r
  | n + 1, r => .unusable :: gap n r
def poolList (es : List (Nat × CpInfo)) (last : Nat) : List CpInfo := es.foldr (fun e r => gap e.1 (e.2 :: r)) (gap last [])
def pool (es : List (Nat × CpInfo)) (last : Nat) : Array CpInfo := ⟨poolList es last⟩
def fileOf (pool : Array CpInfo) (this : Nat) (attrs : Array Attribute := #[]) (ms : Array MethodInfo := #[]) (fl : Nat := 33) (sup : Nat := 0) (ifs : Array Nat := #[]) (fds : Array FieldInfo := #[]) : ClassFile where
  minorVersion := 0
  majorVersion := 65
  constantPool := pool
  accessFlags := fl
  thisClass := this
  superClass := sup
  interfaces := ifs
  fields := fds
  methods := ms
  attributes := attrs
def plain (name : String) (sup : Option ClassId) : Class where
  name := name
  kind := .ordinary
  loader := none
  accessFlags := 33
  super := sup
  interfaces := #[]
  cf := none
  fields := #[]
  methods := #[]
  instanceTypes := #[]
  staticTypes := #[]
  resolved := #[]
  callSites := []
  init := .initialized
  statics := none
  mirror := none

def pool0 : Array CpInfo := pool [(5, u "<init>"), (0, u "()V"), (1, .class_ 10), (1, u "java/lang/Object")] 113

def k0c0 : Code := { maxStack := 0, maxLocals := 1, code := object_method_1_code, exceptionTable := #[], attributes := #[] }
def k0m0 : Method := { name := "<init>", desc := "()V", sig := { parameters := [], returnType := none }, accessFlags := 1, code := some k0c0 }
/-- java/lang/Object -/
def k0 : Class := { plain "java/lang/Object" none with
  accessFlags := 33
  interfaces := #[]
  cf := some (fileOf pool0 8 #[] #[{ accessFlags := 1, nameIndex := 5, descriptorIndex := 6, attributes := #[] }] 33 0 #[] #[])
  fields := #[]
  methods := #[k0m0]
  instanceTypes := #[]
  staticTypes := #[]
  resolved := Array.replicate 124 none
  statics := none }

def pool1 : Array CpInfo := pool [(2, .class_ 4), (1, u "java/lang/Object"), (0, u "<init>"), (0, u "()V"), (0, .integer 2147483647), (2, .integer 2147483391), (0, .class_ 12), (0, u "com/example/ballast/ballast/model/Ports"), (0, .methodref 11 14), (0, .nameAndType 5 15), (0, u "(II)V"), (0, .methodref 11 17), (0, .nameAndType 18 19), (0, u "get"), (0, u "(I)I"), (0, .methodref 11 21), (0, .nameAndType 22 15), (0, u "set"), (0, .class_ 24), (0, u "com/example/ballast/ballast/model/PortsSetPinLaw"), (2, u "law"), (0, u "(IIIIII)Z")] 3

def k1m0 : Method := { name := "<init>", desc := "()V", sig := { parameters := [], returnType := none }, accessFlags := 2, code := none }
def k1c1 : Code := { maxStack := 4, maxLocals := 17, code := code, exceptionTable := #[], attributes := #[] }
def k1m1 : Method := { name := "law", desc := "(IIIIII)Z", sig := { parameters := [.int, .int, .int, .int, .int, .int], returnType := some .boolean }, accessFlags := 9, code := some k1c1 }
/-- com/example/ballast/ballast/model/PortsSetPinLaw -/
def k1 : Class := { plain "com/example/ballast/ballast/model/PortsSetPinLaw" (some 0) with
  accessFlags := 49
  interfaces := #[]
  cf := some (fileOf pool1 23 #[] #[{ accessFlags := 2, nameIndex := 5, descriptorIndex := 6, attributes := #[] }, { accessFlags := 9, nameIndex := 27, descriptorIndex := 28, attributes := #[] }] 49 2 #[] #[])
  fields := #[]
  methods := #[k1m0, k1m1]
  instanceTypes := #[]
  staticTypes := #[]
  resolved := Array.replicate 32 none
  statics := none }

def pool2 : Array CpInfo := pool [(1, .methodref 2 3), (0, .class_ 4), (0, .nameAndType 5 6), (0, u "java/lang/Object"), (0, u "<init>"), (0, u "()V"), (0, .class_ 8), (0, u "com/example/ballast/ballast/model/Ports"), (0, .fieldref 7 10), (0, .nameAndType 11 12), (0, u "small"), (0, u "[B"), (0, .fieldref 7 14), (0, .nameAndType 15 16), (0, u "large"), (0, u "[I"), (0, .methodref 18 19), (0, .class_ 20), (0, .nameAndType 21 22), (0, u "java/lang/Byte"), (0, u "toUnsignedInt"), (0, u "(B)I"), (0, u "BYTE_PORTS"), (0, u "I"), (2, u "(II)V"), (5, u "set"), (0, u "get"), (0, u "(I)I")] 2

def k2c0 : Code := { maxStack := 3, maxLocals := 3, code := prog_73_method_1_code, exceptionTable := #[], attributes := #[] }
def k2m0 : Method := { name := "<init>", desc := "(II)V", sig := { parameters := [.int, .int], returnType := none }, accessFlags := 0, code := some k2c0 }
def k2c1 : Code := { maxStack := 4, maxLocals := 3, code := prog_73_method_2_code, exceptionTable := #[], attributes := #[] }
def k2m1 : Method := { name := "set", desc := "(II)V", sig := { parameters := [.int, .int], returnType := none }, accessFlags := 0, code := some k2c1 }
def k2c2 : Code := { maxStack := 2, maxLocals := 2, code := prog_73_method_3_code, exceptionTable := #[], attributes := #[] }
def k2m2 : Method := { name := "get", desc := "(I)I", sig := { parameters := [.int], returnType := some .int }, accessFlags := 0, code := some k2c2 }
/-- com/example/ballast/ballast/model/Ports -/
def k2 : Class := { plain "com/example/ballast/ballast/model/Ports" (some 0) with
  accessFlags := 48
  interfaces := #[]
  cf := some (fileOf pool2 7 #[] #[{ accessFlags := 0, nameIndex := 5, descriptorIndex := 27, attributes := #[] }, { accessFlags := 0, nameIndex := 33, descriptorIndex := 27, attributes := #[] }, { accessFlags := 0, nameIndex := 34, descriptorIndex := 35, attributes := #[] }] 48 2 #[] #[{ accessFlags := 26, nameIndex := 23, descriptorIndex := 24, attributes := #[] }, { accessFlags := 18, nameIndex := 11, descriptorIndex := 12, attributes := #[] }, { accessFlags := 18, nameIndex := 15, descriptorIndex := 16, attributes := #[] }])
  fields := #[{ name := "BYTE_PORTS", type := .int, accessFlags := 26, slot := 0, constantValue := 0 }, { name := "small", type := (.array .byte), accessFlags := 18, slot := 0, constantValue := 0 }, { name := "large", type := (.array .int), accessFlags := 18, slot := 1, constantValue := 0 }]
  methods := #[k2m0, k2m1, k2m2]
  instanceTypes := #[(.array .byte), (.array .int)]
  staticTypes := #[.int]
  resolved := Array.replicate 38 none
  statics := none }

def pool3 : Array CpInfo := pool [(1, .class_ 2), (0, u "java/io/Serializable"), (0, .class_ 4), (0, u "java/lang/Object")] 2

/-- java/io/Serializable -/
def k3 : Class := { plain "java/io/Serializable" (some 0) with
  accessFlags := 1537
  interfaces := #[]
  cf := some (fileOf pool3 1 #[] #[] 1537 3 #[] #[])
  fields := #[]
  methods := #[]
  instanceTypes := #[]
  staticTypes := #[]
  resolved := Array.replicate 7 none
  statics := none }

def pool4 : Array CpInfo := pool [(2, .class_ 4), (1, u "java/lang/Object"), (0, u "<init>"), (0, u "()V"), (1, .class_ 10), (1, u "java/lang/Number"), (2, .class_ 14), (0, u "java/io/Serializable"), (0, u "serialVersionUID"), (0, u "J")] 20

def k4m0 : Method := { name := "<init>", desc := "()V", sig := { parameters := [], returnType := none }, accessFlags := 1, code := none }
/-- java/lang/Number -/
def k4 : Class := { plain "java/lang/Number" (some 0) with
  accessFlags := 1057
  interfaces := #[3]
  cf := some (fileOf pool4 8 #[] #[{ accessFlags := 1, nameIndex := 5, descriptorIndex := 6, attributes := #[] }] 1057 2 #[13] #[{ accessFlags := 26, nameIndex := 15, descriptorIndex := 16, attributes := #[] }])
  fields := #[{ name := "serialVersionUID", type := .long, accessFlags := 26, slot := 0, constantValue := 0 }]
  methods := #[k4m0]
  instanceTypes := #[]
  staticTypes := #[.long]
  resolved := Array.replicate 37 none
  statics := none }

def pool5 : Array CpInfo := pool [(1, .class_ 2), (0, u "java/lang/Comparable"), (0, .class_ 4), (0, u "java/lang/Object")] 7

/-- java/lang/Comparable -/
def k5 : Class := { plain "java/lang/Comparable" (some 0) with
  accessFlags := 1537
  interfaces := #[]
  cf := some (fileOf pool5 1 #[] #[] 1537 3 #[] #[])
  fields := #[]
  methods := #[]
  instanceTypes := #[]
  staticTypes := #[]
  resolved := Array.replicate 12 none
  statics := none }

def pool6 : Array CpInfo := pool [(1, .class_ 2), (0, u "java/lang/constant/Constable"), (0, .class_ 4), (0, u "java/lang/Object")] 6

/-- java/lang/constant/Constable -/
def k6 : Class := { plain "java/lang/constant/Constable" (some 0) with
  accessFlags := 1537
  interfaces := #[]
  cf := some (fileOf pool6 1 #[] #[] 1537 3 #[] #[])
  fields := #[]
  methods := #[]
  instanceTypes := #[]
  staticTypes := #[]
  resolved := Array.replicate 11 none
  statics := none }

def pool7 : Array CpInfo := pool [(1, .class_ 2), (0, u "java/lang/Byte"), (41, .class_ 46), (1, u "java/lang/Byte$ByteCache"), (51, .class_ 99), (0, u "java/lang/Number"), (2, u "value"), (0, u "B"), (3, u "(B)I"), (10, u "toUnsignedInt"), (16, u "TYPE"), (0, u "Ljava/lang/Class;"), (0, .class_ 138), (0, u "java/lang/Comparable"), (0, .class_ 140), (0, u "java/lang/constant/Constable"), (0, u "MIN_VALUE"), (2, u "MAX_VALUE"), (3, u "SIZE"), (0, u "I"), (1, u "BYTES"), (1, u "serialVersionUID"), (0, u "J")] 58

def k7c0 : Code := { maxStack := 2, maxLocals := 1, code := jdk_2056_method_24_code, exceptionTable := #[], attributes := #[] }
def k7m0 : Method := { name := "toUnsignedInt", desc := "(B)I", sig := { parameters := [.byte], returnType := some .int }, accessFlags := 9, code := some k7c0 }
/-- java/lang/Byte -/
def k7 : Class := { plain "java/lang/Byte" (some 4) with
  accessFlags := 49
  interfaces := #[5, 6]
  cf := some (fileOf pool7 1 #[.nestMembers #[44]] #[{ accessFlags := 9, nameIndex := 118, descriptorIndex := 107, attributes := #[] }] 49 98 #[137, 139] #[{ accessFlags := 25, nameIndex := 141, descriptorIndex := 103, attributes := #[] }, { accessFlags := 25, nameIndex := 144, descriptorIndex := 103, attributes := #[] }, { accessFlags := 25, nameIndex := 135, descriptorIndex := 136, attributes := #[] }, { accessFlags := 18, nameIndex := 102, descriptorIndex := 103, attributes := #[] }, { accessFlags := 25, nameIndex := 148, descriptorIndex := 149, attributes := #[] }, { accessFlags := 25, nameIndex := 151, descriptorIndex := 149, attributes := #[] }, { accessFlags := 26, nameIndex := 153, descriptorIndex := 154, attributes := #[] }])
  fields := #[{ name := "MIN_VALUE", type := .byte, accessFlags := 25, slot := 0, constantValue := 0 }, { name := "MAX_VALUE", type := .byte, accessFlags := 25, slot := 1, constantValue := 0 }, { name := "TYPE", type := (.object "java/lang/Class"), accessFlags := 25, slot := 2, constantValue := 0 }, { name := "value", type := .byte, accessFlags := 18, slot := 0, constantValue := 0 }, { name := "SIZE", type := .int, accessFlags := 25, slot := 3, constantValue := 0 }, { name := "BYTES", type := .int, accessFlags := 25, slot := 4, constantValue := 0 }, { name := "serialVersionUID", type := .long, accessFlags := 26, slot := 5, constantValue := 0 }]
  methods := #[k7m0]
  instanceTypes := #[.byte]
  staticTypes := #[.byte, .byte, (.object "java/lang/Class"), .int, .int, .long]
  resolved := Array.replicate 213 none
  statics := none }

def pool8 : Array CpInfo := pool [(1, u "java/lang/Cloneable"), (0, .class_ 1), (0, u "java/lang/Object"), (0, .class_ 3)] 3

/-- java/lang/Cloneable -/
def k8 : Class := { plain "java/lang/Cloneable" (some 0) with
  accessFlags := 1537
  interfaces := #[]
  cf := some (fileOf pool8 2 #[] #[] 1537 4 #[] #[])
  fields := #[]
  methods := #[]
  instanceTypes := #[]
  staticTypes := #[]
  resolved := Array.replicate 8 none
  statics := none }

/-- the primitive byte -/
def k9 : Class := { plain "byte" none with kind := .primitive 'B', accessFlags := 0x411 }
/-- [B -/
def k10 : Class := { plain "[B" (some 0) with kind := .array 9 .byte, interfaces := #[8, 3], accessFlags := 1041 }

/-- the primitive int -/
def k11 : Class := { plain "int" none with kind := .primitive 'I', accessFlags := 0x411 }
/-- [I -/
def k12 : Class := { plain "[I" (some 0) with kind := .array 11 .int, interfaces := #[8, 3], accessFlags := 1041 }

def heap : Heap := #[]
def classes : Array Class := #[k0, k1, k2, k3, k4, k5, k6, k7, k8, k9, k10, k11, k12]
def interned : List (Array UInt16 × Addr) := []
def slotsUsed : Nat := 0
def theMethod : MethodId := ⟨1, 1⟩
def args0 : Array Value := #[.int 3, .int 1, .int 2, .int 3, .int 4, .int 5]
def aboutOver (below : List Frame) : State where
  vm := { classes := classes, interned := interned.toArray }
  heap := heap
  slotsUsed := slotsUsed
  threads := #[{ frames := .invoking theMethod args0 :: below }]
def below0 : List Frame := [.native { method := ⟨0, 0⟩, args := #[] }]
def about1 : State := aboutOver below0
def p0 : Program := .bare "" "" ""
def e0 : Env := launch0.env 0 0 0
theorem w_frames : about1.frames = Frame.invoking theMethod args0 :: below0 := rfl
set_option maxRecDepth 65536 in
theorem w_args : argsFit about1.vm theMethod args0 = true := by decide +kernel
set_option maxRecDepth 65536 in
theorem w_heap : heapFits about1 = true := by decide +kernel
set_option maxRecDepth 65536 in
theorem w_runnable : about1.curStatus? = some .runnable := by decide +kernel
set_option maxRecDepth 65536 in
theorem w_alone : about1.alone = true := by decide +kernel
set_option maxRecDepth 65536 in
theorem w_named : about1.methodNamed? x = some theMethod := by decide +kernel
set_option maxRecDepth 65536 in
theorem w_hears : about1.hears theMethod below0 = true := by decide +kernel
set_option maxRecDepth 65536 in
theorem w_ripe : about1.ripe theMethod args0 below0 = true := by decide +kernel
theorem w_running : about1.status = .running := rfl
set_option maxRecDepth 65536 in
theorem w_room : about1.hasRoom e0.platform room_1 = true :=
  launch0.hasRoom_least _ room_1 (by decide +kernel) (by decide +kernel) (by decide +kernel) (by decide +kernel) (by decide +kernel) (by decide +kernel)
theorem allAtoms_all (ts : List Jvm.Cond) (a : Array Jvm.Value) (st : Jvm.State) : (allAtoms ts).before a st = ts.all (fun c => c.before a st) := by
  induction ts with
  | nil => rfl
  | cons c t ih =>
    show (Jvm.Cond.and c (allAtoms t)).before a st = _
    rw [Jvm.Cond.before_and, ih, List.all_cons]
def words1 : List Jvm.Cond := Jvm.Cond.code x code maxLocals ret :: tables_1
/-- a 'code' word, met by the world's own term for the bytes: nothing is compared byte by byte -/
theorem code_word {y : MethodName} {bytes : ByteArray} {mx : Nat} {rt : Option FieldType} {a : Array Value} {s : State} {m : MethodId} {meth : Method} {c : Code} (h1 : s.methodNamed? y = some m) (h2 : s.vm.method? m = some meth) (h3 : meth.code = some c) (h4 : c.code = bytes)
    (h5 : (c.maxLocals == mx && c.exceptionTable.isEmpty && decide (c.maxStack ≤ mostOperands) && decide (meth.sig.returnType = rt) && !meth.locks && decide (parseMethodDescriptor y.desc = some meth.sig)) = true) : (Jvm.Cond.code y bytes mx rt).before a s = true := by
  simp only [Bool.and_eq_true, beq_iff_eq, Bool.not_eq_true', decide_eq_true_eq] at h5
  obtain ⟨⟨⟨⟨⟨g1, g2⟩, g3⟩, g4⟩, g5⟩, g6⟩ := h5
  simp [Cond.before, Cond.holds, Cond.value, h1, h2, h3, h4, g1, g2, g3, g4, g5, g6]
def isCode : Jvm.Cond → Bool
  | .code _ _ _ _ => true
  | _ => false
theorem all_split {L : List Jvm.Cond} {P : Jvm.Cond → Bool} (h1 : L.all (fun c => isCode c || P c) = true) (h2 : ∀ c ∈ L.filter isCode, P c = true) : L.all P = true := by
  refine List.all_eq_true.mpr fun c hc => ?_
  have h := List.all_eq_true.mp h1 c hc
  rcases Bool.eq_false_or_eq_true (isCode c) with hi | hi
  · exact h2 c (List.mem_filter.mpr ⟨hc, hi⟩)
  · simpa [hi] using h
set_option maxRecDepth 65536 in
theorem w_c0 : (Jvm.Cond.code x code maxLocals ret).before args0 about1 = true := code_word (m := ⟨1, 1⟩) (meth := k1m1) (c := k1c1) (by decide +kernel) rfl rfl rfl (by decide +kernel)
set_option maxRecDepth 65536 in
theorem w_c1 : (Jvm.Cond.code ({ cls := "com/example/ballast/ballast/model/Ports", name := "<init>", desc := "(II)V" } : Jvm.MethodName) prog_73_method_1_code (3 : Nat) (Option.none : Option Jvm.ClassFile.FieldType)).before args0 about1 = true := code_word (m := ⟨2, 0⟩) (meth := k2m0) (c := k2c0) (by decide +kernel) rfl rfl rfl (by decide +kernel)
set_option maxRecDepth 65536 in
theorem w_c2 : (Jvm.Cond.code ({ cls := "java/lang/Object", name := "<init>", desc := "()V" } : Jvm.MethodName) object_method_1_code (1 : Nat) (Option.none : Option Jvm.ClassFile.FieldType)).before args0 about1 = true := code_word (m := ⟨0, 0⟩) (meth := k0m0) (c := k0c0) (by decide +kernel) rfl rfl rfl (by decide +kernel)
set_option maxRecDepth 65536 in
theorem w_c3 : (Jvm.Cond.code ({ cls := "com/example/ballast/ballast/model/Ports", name := "get", desc := "(I)I" } : Jvm.MethodName) prog_73_method_3_code (2 : Nat) (Option.some Jvm.ClassFile.FieldType.int)).before args0 about1 = true := code_word (m := ⟨2, 2⟩) (meth := k2m2) (c := k2c2) (by decide +kernel) rfl rfl rfl (by decide +kernel)
set_option maxRecDepth 65536 in
theorem w_c4 : (Jvm.Cond.code ({ cls := "java/lang/Byte", name := "toUnsignedInt", desc := "(B)I" } : Jvm.MethodName) jdk_2056_method_24_code (1 : Nat) (Option.some Jvm.ClassFile.FieldType.int)).before args0 about1 = true := code_word (m := ⟨7, 0⟩) (meth := k7m0) (c := k7c0) (by decide +kernel) rfl rfl rfl (by decide +kernel)
set_option maxRecDepth 65536 in
theorem w_c5 : (Jvm.Cond.code ({ cls := "com/example/ballast/ballast/model/Ports", name := "set", desc := "(II)V" } : Jvm.MethodName) prog_73_method_2_code (3 : Nat) (Option.none : Option Jvm.ClassFile.FieldType)).before args0 about1 = true := code_word (m := ⟨2, 1⟩) (meth := k2m1) (c := k2c1) (by decide +kernel) rfl rfl rfl (by decide +kernel)
def codes1 : List Jvm.Cond := [Jvm.Cond.code x code maxLocals ret, Jvm.Cond.code ({ cls := "com/example/ballast/ballast/model/Ports", name := "<init>", desc := "(II)V" } : Jvm.MethodName) prog_73_method_1_code (3 : Nat) (Option.none : Option Jvm.ClassFile.FieldType), Jvm.Cond.code ({ cls := "java/lang/Object", name := "<init>", desc := "()V" } : Jvm.MethodName) object_method_1_code (1 : Nat) (Option.none : Option Jvm.ClassFile.FieldType), Jvm.Cond.code ({ cls := "com/example/ballast/ballast/model/Ports", name := "get", desc := "(I)I" } : Jvm.MethodName) prog_73_method_3_code (2 : Nat) (Option.some Jvm.ClassFile.FieldType.int), Jvm.Cond.code ({ cls := "java/lang/Byte", name := "toUnsignedInt", desc := "(B)I" } : Jvm.MethodName) jdk_2056_method_24_code (1 : Nat) (Option.some Jvm.ClassFile.FieldType.int), Jvm.Cond.code ({ cls := "com/example/ballast/ballast/model/Ports", name := "set", desc := "(II)V" } : Jvm.MethodName) prog_73_method_2_code (3 : Nat) (Option.none : Option Jvm.ClassFile.FieldType)]
set_option maxRecDepth 65536 in
theorem codes_eq : words1.filter isCode = codes1 := rfl
theorem w_codes : ∀ c ∈ words1.filter isCode, c.before args0 about1 = true := by
  rw [codes_eq]
  intro c hc
  simp only [codes1, List.mem_cons, List.not_mem_nil, or_false] at hc
  rcases hc with rfl | rfl | rfl | rfl | rfl | rfl
  · exact w_c0
  · exact w_c1
  · exact w_c2
  · exact w_c3
  · exact w_c4
  · exact w_c5
set_option maxRecDepth 65536 in
theorem w_t1 : (words1.take 24).all (fun c => isCode c || c.before args0 about1) = true := by decide +kernel
set_option maxRecDepth 65536 in
theorem w_t2 : (words1.drop 24).all (fun c => isCode c || c.before args0 about1) = true := by decide +kernel
theorem w_tables : (allAtoms (Jvm.Cond.code x code maxLocals ret :: tables_1)).before args0 about1 = true := by
  rw [allAtoms_all]
  show words1.all (fun c => c.before args0 about1) = true
  refine all_split ?_ w_codes
  rw [← List.take_append_drop 24 words1, List.all_append, w_t1, w_t2]
  rfl
set_option maxRecDepth 65536 in
theorem w_case : (Jvm.Cond.and given_1 narrow_1).before args0 about1 = true := by decide +kernel
theorem w_applies : (headSpec (Jvm.Cond.code x code maxLocals ret :: tables_1) room_1).applies x e0.platform about1 = true :=
  (Spec.applies_iff w_frames).mpr ⟨w_running, w_runnable, w_alone, w_named, w_hears, w_ripe, w_room, w_tables⟩
theorem atStart : AtStart classFile x code maxLocals ret World_1 tables_1 room_1 Calls_1 rest_1 Pre_1 launch0 p0 e0 about1 theMethod args0 below0 :=
  ⟨lists_1, trivial, launch0.admits_env _ _ _, launch0.least_env, fairChoices_fair.cas, fairChoices_fair.clock, w_frames, w_args, w_heap, w_applies, trivial, trivial, w_case⟩
end start1
theorem witness_1 : WitnessClaimed_1 := ⟨start1.p0, start1.e0, start1.about1, start1.theMethod, start1.args0, start1.below0, start1.atStart⟩
end Jvm.Pilot.@@N@@
