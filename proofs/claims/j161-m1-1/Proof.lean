import JvmDerived
import JvmDerived.Pilot.@@N@@Statement
import JvmDerived.Pilot.@@N@@Code
set_option linter.unusedVariables false
set_option linter.unusedSimpArgs false
@@BLOCK:NumsL.lean.txt@@
namespace Jvm.Pilot.@@N@@
open Jvm Jvm.ClassFile Sem Op Lib Jvm.Free Jvm.Stand Jvm.LawKit Jvm.RoadKit Bundle Jvm.Pilot.@@N@@.Jvm.D
/-! small laws of this text's own: returns, lrem as %, lcmp and the branch behind it -/
section Own
variable {p : Program} {l : Launch} {e : Env} {R : Room} {s : State} {m : MethodId} {args : Array Value} {below : List Frame} {meth : Method} {c : Code} {T : State} {locs : List Loc} {cells slots : Nat}
theorem own_retI (X : Stand p l e R s m args below meth c T locs cells slots) (hx : p.tables.exec = Jvm.exec) {pc : Nat} {Ls : Array Slot} {z : Int32} {rest : List Value} (hret : meth.sig.returnType = some .int) (hd : decode c.code pc = .ok (.ireturn, 1)) {fs : List Frame}
    (hl : ∀ (f : JFrame) (acts : List Action), f.method = m → f.locked = none → f.entered = [] → (doReturn e (T.setTop f) acts (some (.int z))).1 = T.setFrames fs) : Steps p.tables e below (T.setTop (mkF m pc Ls (.int z :: rest))) (T.setFrames fs) :=
  retOut X hx hret rfl (Or.inl ⟨rfl, Or.inl rfl, z, rfl⟩) hd hl
theorem own_retJ (X : Stand p l e R s m args below meth c T locs cells slots) (hx : p.tables.exec = Jvm.exec) {pc : Nat} {Ls : Array Slot} {z : Int64} {rest : List Value} (hret : meth.sig.returnType = some .long) (hd : decode c.code pc = .ok (.lreturn, 1)) {fs : List Frame}
    (hl : ∀ (f : JFrame) (acts : List Action), f.method = m → f.locked = none → f.entered = [] → (doReturn e (T.setTop f) acts (some (.long z))).1 = T.setFrames fs) : Steps p.tables e below (T.setTop (mkF m pc Ls (.long z :: rest))) (T.setFrames fs) :=
  retOut X hx hret rfl (Or.inr (Or.inl ⟨rfl, rfl, z, rfl⟩)) hd hl
theorem own_retR (X : Stand p l e R s m args below meth c T locs cells slots) (hx : p.tables.exec = Jvm.exec) {pc : Nat} {Ls : Array Slot} {b : Addr} {rest : List Value} {t : FieldType} (hret : meth.sig.returnType = some t) (ht : t.isReference = true) (hn : narrow t (.ref b) = .ref b) (hd : decode c.code pc = .ok (.areturn, 1)) {fs : List Frame}
    (hl : ∀ (f : JFrame) (acts : List Action), f.method = m → f.locked = none → f.entered = [] → (doReturn e (T.setTop f) acts (some (.ref b))).1 = T.setFrames fs) : Steps p.tables e below (T.setTop (mkF m pc Ls (.ref b :: rest))) (T.setFrames fs) :=
  retOut X hx hret hn (Or.inr (Or.inr (Or.inr (Or.inr ⟨rfl, ht, rfl⟩)))) hd hl
theorem own_lrem_mod (x y : Int64) : x - (x / y) * y = x % y := by
  apply Int64.toInt_inj.mp
  have h1 := Int64.le_toInt (x % y)
  have h2 := Int64.toInt_lt (x % y)
  rw [Int64.toInt_sub, Int64.toInt_mul, Int64.toInt_div, Int.bmod_mul_bmod, Int.sub_bmod_bmod, Int.mul_comm (x.toInt.tdiv y.toInt), ← Int.tmod_def, ← Int64.toInt_mod]
  exact Int.bmod_eq_of_le_mul_two (by omega) (by omega)
theorem own_lremM {tb : Tables} [Ours tb] {e : Env} {below : List Frame} {T target : State} {m : MethodId} {c : Code} {g : JFrame} (h : At T m c below) (hx : tb.exec = Jvm.exec) (hg : g.method = m) {x y : Int64} {rest : List Value} (hd : decode c.code g.pc = .ok (.lrem, 1)) (hs : g.stack = .long y :: .long x :: rest) (hy : y ≠ 0)
    (hr : Steps tb e below (T.setTop { g with pc := g.pc + 1, stack := .long (x % y) :: rest }) target) : Steps tb e below (T.setTop g) target :=
  XS.lrem h hx hg hd hs hy (by rw [own_lrem_mod]; exact hr)
end Own
theorem own_hgt (z : Int32) : ifCond.holds .gt z = decide (z > 0) := rfl
theorem own_hlt (z : Int32) : ifCond.holds .lt z = decide (z < 0) := rfl
theorem own_heq (z : Int32) : ifCond.holds .eq z = (z == 0) := rfl
theorem own_hge (z : Int32) : ifCond.holds .ge z = decide (z ≥ 0) := rfl
theorem own_hle (z : Int32) : ifCond.holds .le z = decide (z ≤ 0) := rfl
theorem own_hne (z : Int32) : ifCond.holds .ne z = (z != 0) := rfl
theorem own_lc1 {x y : Int64} (h : y < x) : lcmpW x y = 1 := if_pos h
theorem own_lc0 {x y : Int64} (h : x = y) : lcmpW x y = 0 := by
  have h1 : ¬ y < x := by rw [h, Int64.lt_iff_toInt_lt]; omega
  exact (if_neg h1).trans (if_pos h)
theorem own_lcm {x y : Int64} (h : x < y) : lcmpW x y = -1 := by
  have h1 : ¬ y < x := by rw [Int64.lt_iff_toInt_lt] at *; omega
  have h2 : ¬ x = y := fun q => by rw [q, Int64.lt_iff_toInt_lt] at h; omega
  exact (if_neg h1).trans (if_neg h2)
theorem own_tri (x y : Int64) : x < y ∨ x = y ∨ y < x := by
  rw [Int64.lt_iff_toInt_lt, Int64.lt_iff_toInt_lt, ← Int64.toInt_inj]; omega
theorem own_nlt {x y : Int64} (h : x < y) : ¬ y < x ∧ ¬ x = y := by
  rw [Int64.lt_iff_toInt_lt] at *
  exact ⟨by omega, fun q => by rw [q] at h; omega⟩
theorem own_Tlt {x y : Int64} (h : x < y) : ifCond.holds .lt (lcmpW x y) = true ∧ ifCond.holds .ge (lcmpW x y) = false := by rw [own_lcm h]; decide
theorem own_Flt {x y : Int64} (h : ¬ x < y) : ifCond.holds .lt (lcmpW x y) = false ∧ ifCond.holds .ge (lcmpW x y) = true := by
  rcases own_tri x y with q | q | q
  · exact absurd q h
  · rw [own_lc0 q]; decide
  · rw [own_lc1 q]; decide
theorem own_Tgt {x y : Int64} (h : y < x) : ifCond.holds .gt (lcmpW x y) = true ∧ ifCond.holds .le (lcmpW x y) = false := by rw [own_lc1 h]; decide
theorem own_Fgt {x y : Int64} (h : ¬ y < x) : ifCond.holds .gt (lcmpW x y) = false ∧ ifCond.holds .le (lcmpW x y) = true := by
  rcases own_tri x y with q | q | q
  · rw [own_lcm q]; decide
  · rw [own_lc0 q]; decide
  · exact absurd q h
theorem own_Teq {x y : Int64} (h : x = y) : ifCond.holds .eq (lcmpW x y) = true ∧ ifCond.holds .ne (lcmpW x y) = false := by rw [own_lc0 h]; decide
theorem own_Feq {x y : Int64} (h : ¬ x = y) : ifCond.holds .eq (lcmpW x y) = false ∧ ifCond.holds .ne (lcmpW x y) = true := by
  rcases own_tri x y with q | q | q
  · rw [own_lcm q]; decide
  · exact absurd q h
  · rw [own_lc1 q]; decide
/-! arrays as functions: what place i of the array holds -/
section OwnH
variable {p : Program} {l : Launch} {e : Env} {R : Room} {s : State} {m : MethodId} {args : Array Value} {below : List Frame} {meth : Method} {c : Code} {T : State} {locs : List Loc} {cells slots : Nat} {Z : State} {h h' : Heap} {a b : Addr} {z j : Int32} {ty : FieldType} {ws : List Addr} {sl : Nat} {w : Value}
def own_AI (Z : State) (h : Heap) (a : Addr) (ty : FieldType) (z : Int32) (f : Nat → Int32) : Prop := ∃ c : Cell, Arr Z h a c ty ∧ c.slots.size = z.toNatClampNeg ∧ ¬ z < 0 ∧ ∀ i, i < c.slots.size → c.slots[i]? = some (.int (f i))
def own_AJ (Z : State) (h : Heap) (a : Addr) (z : Int32) (f : Nat → Int64) : Prop := ∃ c : Cell, Arr Z h a c .long ∧ c.slots.size = z.toNatClampNeg ∧ ¬ z < 0 ∧ ∀ i, i < c.slots.size → c.slots[i]? = some (.long (f i))
def own_upd {α : Type} (f : Nat → α) (k : Nat) (v : α) : Nat → α := fun i => if i = k then v else f i
theorem own_slots (c : Cell) (k : Nat) (v : Value) : (c.setSlot k v).slots = c.slots.setIfInBounds k v := rfl
theorem own_AI.ext {f : Nat → Int32} (A : own_AI Z h a ty z f) (E : Ext h h') : own_AI Z h' a ty z f := by obtain ⟨c, A1, r⟩ := A; exact ⟨c, A1.ext E, r⟩
theorem own_AI.other {f : Nat → Int32} (A : own_AI Z h a ty z f) (W : Wr h h' b sl w) (q : a ≠ b) : own_AI Z h' a ty z f := by obtain ⟨c, A1, r⟩ := A; exact ⟨c, A1.other W q, r⟩
theorem own_AI.keep {f : Nat → Int32} (A : own_AI Z h a ty z f) (K : Keep h h' ws) (q : a ∉ ws) : own_AI Z h' a ty z f := by obtain ⟨c, A1, r⟩ := A; exact ⟨c, ⟨K.2.1 a c A1.1 q, A1.2⟩, r⟩
theorem own_AI.lt {f : Nat → Int32} (A : own_AI Z h a ty z f) : a < h.size := by obtain ⟨c, A1, -⟩ := A; exact A1.lt
theorem own_AI.set {f : Nat → Int32} {k : Nat} {v : Int32} (A : own_AI Z h a ty z f) (W : Wr h h' a k (.int v)) : own_AI Z h' a ty z (own_upd f k v) := by
  obtain ⟨c, A1, S, M, H⟩ := A
  refine ⟨_, A1.same W, by rw [sz_set]; exact S, M, fun i hi => ?_⟩
  rw [sz_set] at hi
  rw [own_slots]
  by_cases q : i = k
  · subst q
    rw [Array.getElem?_setIfInBounds_self_of_lt hi]
    exact congrArg (fun u => some (Value.int u)) (if_pos rfl).symm
  · rw [Array.getElem?_setIfInBounds_ne (fun u => q u.symm), H i hi]
    exact congrArg (fun u => some (Value.int u)) (if_neg q).symm
theorem own_AI.new {k : ClassId} (A : Arr Z h a (newA k ty z) ty) (q : ¬ z < 0) (hd : defaultValue ty = .int 0) : own_AI Z h a ty z (fun _ => 0) := by
  obtain ⟨c, A1, -, S, M, H, -⟩ := Arv.new A q
  refine ⟨c, A1, S, M, fun i hi => ?_⟩
  rw [H i hi, ← hd]; rfl
theorem own_AI.congr {f f' : Nat → Int32} (A : own_AI Z h a ty z f) (q : ∀ i, i < z.toNatClampNeg → f i = f' i) : own_AI Z h a ty z f' := by
  obtain ⟨c, A1, S, M, H⟩ := A
  exact ⟨c, A1, S, M, fun i hi => by rw [H i hi, q i (S ▸ hi)]⟩
theorem own_AJ.ext {f : Nat → Int64} (A : own_AJ Z h a z f) (E : Ext h h') : own_AJ Z h' a z f := by obtain ⟨c, A1, r⟩ := A; exact ⟨c, A1.ext E, r⟩
theorem own_AJ.other {f : Nat → Int64} (A : own_AJ Z h a z f) (W : Wr h h' b sl w) (q : a ≠ b) : own_AJ Z h' a z f := by obtain ⟨c, A1, r⟩ := A; exact ⟨c, A1.other W q, r⟩
theorem own_AJ.keep {f : Nat → Int64} (A : own_AJ Z h a z f) (K : Keep h h' ws) (q : a ∉ ws) : own_AJ Z h' a z f := by obtain ⟨c, A1, r⟩ := A; exact ⟨c, ⟨K.2.1 a c A1.1 q, A1.2⟩, r⟩
theorem own_AJ.lt {f : Nat → Int64} (A : own_AJ Z h a z f) : a < h.size := by obtain ⟨c, A1, -⟩ := A; exact A1.lt
theorem own_AJ.set {f : Nat → Int64} {k : Nat} {v : Int64} (A : own_AJ Z h a z f) (W : Wr h h' a k (.long v)) : own_AJ Z h' a z (own_upd f k v) := by
  obtain ⟨c, A1, S, M, H⟩ := A
  refine ⟨_, A1.same W, by rw [sz_set]; exact S, M, fun i hi => ?_⟩
  rw [sz_set] at hi
  rw [own_slots]
  by_cases q : i = k
  · subst q
    rw [Array.getElem?_setIfInBounds_self_of_lt hi]
    exact congrArg (fun u => some (Value.long u)) (if_pos rfl).symm
  · rw [Array.getElem?_setIfInBounds_ne (fun u => q u.symm), H i hi]
    exact congrArg (fun u => some (Value.long u)) (if_neg q).symm
theorem own_AJ.new {k : ClassId} (A : Arr Z h a (newA k .long z) .long) (q : ¬ z < 0) : own_AJ Z h a z (fun _ => 0) := by
  obtain ⟨c, A1, -, S, M, H, -⟩ := Arv.new A q
  refine ⟨c, A1, S, M, fun i hi => ?_⟩
  rw [H i hi]; rfl
theorem own_ldI {f : Nat → Int32} (X : Stand p l e R s m args below meth c T locs cells slots) (hx : p.tables.exec = Jvm.exec) (hZ : Z.Warmed39 s.vm) (eT : T.heap = h) (A : own_AI Z h a .int z f) (h0 : ¬ j < 0) (h1 : j < z) {g : JFrame} (hg : g.method = m) {rest : List Value} (hs : g.stack = .int j :: .ref a :: rest) (hd : decode c.code g.pc = .ok (.iaload, 1)) :
    ∀ t, Steps p.tables e below (T.setTop { g with pc := g.pc + 1, stack := .int (f j.toNatClampNeg) :: rest }) t → Steps p.tables e below (T.setTop g) t := by
  obtain ⟨c, A1, S, M, H⟩ := A
  have hin := inb_of S ⟨h0, h1⟩
  exact fun t k => X.iaload hx (by rw [eT]; exact A1.1) (State.isArrayOf_alike hZ.alike A1.2.1) A1.2.2 hin (H _ (Nat.lt_of_not_le fun q => hin (Or.inr q))) hg hs hd t k
theorem own_ldB {f : Nat → Int32} (X : Stand p l e R s m args below meth c T locs cells slots) (hx : p.tables.exec = Jvm.exec) (hZ : Z.Warmed39 s.vm) (eT : T.heap = h) (A : own_AI Z h a .byte z f) (h0 : ¬ j < 0) (h1 : j < z) {g : JFrame} (hg : g.method = m) {rest : List Value} (hs : g.stack = .int j :: .ref a :: rest) (hd : decode c.code g.pc = .ok (.baload, 1)) :
    ∀ t, Steps p.tables e below (T.setTop { g with pc := g.pc + 1, stack := .int (f j.toNatClampNeg) :: rest }) t → Steps p.tables e below (T.setTop g) t := by
  obtain ⟨c, A1, S, M, H⟩ := A
  have hin := inb_of S ⟨h0, h1⟩
  exact fun t k => X.baloadBytes hx (by rw [eT]; exact A1.1) (State.isArrayOf_alike hZ.alike A1.2.1) A1.2.2 hin (H _ (Nat.lt_of_not_le fun q => hin (Or.inr q))) hg hs hd t k
theorem own_ldJ {f : Nat → Int64} (X : Stand p l e R s m args below meth c T locs cells slots) (hx : p.tables.exec = Jvm.exec) (hZ : Z.Warmed39 s.vm) (eT : T.heap = h) (A : own_AJ Z h a z f) (h0 : ¬ j < 0) (h1 : j < z) {g : JFrame} (hg : g.method = m) {rest : List Value} (hs : g.stack = .int j :: .ref a :: rest) (hd : decode c.code g.pc = .ok (.laload, 1)) :
    ∀ t, Steps p.tables e below (T.setTop { g with pc := g.pc + 1, stack := .long (f j.toNatClampNeg) :: rest }) t → Steps p.tables e below (T.setTop g) t := by
  obtain ⟨c, A1, S, M, H⟩ := A
  have hin := inb_of S ⟨h0, h1⟩
  exact fun t k => X.laload hx (by rw [eT]; exact A1.1) (State.isArrayOf_alike hZ.alike A1.2.1) A1.2.2 hin (H _ (Nat.lt_of_not_le fun q => hin (Or.inr q))) hg hs hd t k
theorem own_lenI {f : Nat → Int32} (X : Stand p l e R s m args below meth c T locs cells slots) (hx : p.tables.exec = Jvm.exec) (hZ : Z.Warmed39 s.vm) (eT : T.heap = h) (A : own_AI Z h a ty z f) {g : JFrame} (hg : g.method = m) {rest : List Value} (hs : g.stack = .ref a :: rest) (hd : decode c.code g.pc = .ok (.arraylength, 1)) :
    ∀ t, Steps p.tables e below (T.setTop { g with pc := g.pc + 1, stack := .int z :: rest }) t → Steps p.tables e below (T.setTop g) t := by
  obtain ⟨c, A1, S, M, H⟩ := A
  exact fun t k => X.arraylength hx (by rw [eT]; exact A1.1) (State.isArrayOf_alike hZ.alike A1.2.1) hg hs hd t (by rw [len_of S M]; exact k)
theorem own_lenJ {f : Nat → Int64} (X : Stand p l e R s m args below meth c T locs cells slots) (hx : p.tables.exec = Jvm.exec) (hZ : Z.Warmed39 s.vm) (eT : T.heap = h) (A : own_AJ Z h a z f) {g : JFrame} (hg : g.method = m) {rest : List Value} (hs : g.stack = .ref a :: rest) (hd : decode c.code g.pc = .ok (.arraylength, 1)) :
    ∀ t, Steps p.tables e below (T.setTop { g with pc := g.pc + 1, stack := .int z :: rest }) t → Steps p.tables e below (T.setTop g) t := by
  obtain ⟨c, A1, S, M, H⟩ := A
  exact fun t k => X.arraylength hx (by rw [eT]; exact A1.1) (State.isArrayOf_alike hZ.alike A1.2.1) hg hs hd t (by rw [len_of S M]; exact k)
theorem own_stI {f : Nat → Int32} {x : Int32} (X : Stand p l e R s m args below meth c T locs cells slots) (hx : p.tables.exec = Jvm.exec) (hZ : Z.Warmed39 s.vm) (eT : T.heap = h) (A : own_AI Z h a .int z f) (h0 : ¬ j < 0) (h1 : j < z) {g : JFrame} (hg : g.method = m) {rest : List Value} (hs : g.stack = .int x :: .int j :: .ref a :: rest) (hd : decode c.code g.pc = .ok (.iastore, 1)) :
    ∃ T' h', Stand p l e R s m args below meth c T' (locs ++ [⟨a, j.toNatClampNeg⟩]) cells slots ∧ T'.heap = h' ∧ Wr h h' a j.toNatClampNeg (.int x) ∧ own_AI Z h' a .int z (own_upd f j.toNatClampNeg x) ∧ ∀ t, Steps p.tables e below (T'.setTop { g with pc := g.pc + 1, stack := rest }) t → Steps p.tables e below (T.setTop g) t := by
  obtain ⟨c, A1, S, M, H⟩ := A
  obtain ⟨T', h', X', e', W, st⟩ := stI X hx hZ eT A1 (inb_of S ⟨h0, h1⟩) hg hs hd
  exact ⟨T', h', X', e', W, own_AI.set ⟨c, A1, S, M, H⟩ W, st⟩
theorem own_stB {f : Nat → Int32} {x : Int32} (X : Stand p l e R s m args below meth c T locs cells slots) (hx : p.tables.exec = Jvm.exec) (hZ : Z.Warmed39 s.vm) (eT : T.heap = h) (A : own_AI Z h a .byte z f) (h0 : ¬ j < 0) (h1 : j < z) {g : JFrame} (hg : g.method = m) {rest : List Value} (hs : g.stack = .int x :: .int j :: .ref a :: rest) (hd : decode c.code g.pc = .ok (.bastore, 1)) :
    ∃ T' h', Stand p l e R s m args below meth c T' (locs ++ [⟨a, j.toNatClampNeg⟩]) cells slots ∧ T'.heap = h' ∧ Wr h h' a j.toNatClampNeg (.int (nar .byte x)) ∧ own_AI Z h' a .byte z (own_upd f j.toNatClampNeg (nar .byte x)) ∧ ∀ t, Steps p.tables e below (T'.setTop { g with pc := g.pc + 1, stack := rest }) t → Steps p.tables e below (T.setTop g) t := by
  obtain ⟨c, A1, S, M, H⟩ := A
  obtain ⟨T', h', X', e', W, st⟩ := stB X hx hZ eT A1 (inb_of S ⟨h0, h1⟩) hg hs hd
  exact ⟨T', h', X', e', W, own_AI.set ⟨c, A1, S, M, H⟩ W, st⟩
theorem own_stJ {f : Nat → Int64} {x : Int64} (X : Stand p l e R s m args below meth c T locs cells slots) (hx : p.tables.exec = Jvm.exec) (hZ : Z.Warmed39 s.vm) (eT : T.heap = h) (A : own_AJ Z h a z f) (h0 : ¬ j < 0) (h1 : j < z) {g : JFrame} (hg : g.method = m) {rest : List Value} (hs : g.stack = .long x :: .int j :: .ref a :: rest) (hd : decode c.code g.pc = .ok (.lastore, 1)) :
    ∃ T' h', Stand p l e R s m args below meth c T' (locs ++ [⟨a, j.toNatClampNeg⟩]) cells slots ∧ T'.heap = h' ∧ Wr h h' a j.toNatClampNeg (.long x) ∧ own_AJ Z h' a z (own_upd f j.toNatClampNeg x) ∧ ∀ t, Steps p.tables e below (T'.setTop { g with pc := g.pc + 1, stack := rest }) t → Steps p.tables e below (T.setTop g) t := by
  obtain ⟨c, A1, S, M, H⟩ := A
  obtain ⟨T', h', X', e', W, st⟩ := stJ X hx hZ eT A1 (inb_of S ⟨h0, h1⟩) hg hs hd
  exact ⟨T', h', X', e', W, own_AJ.set ⟨c, A1, S, M, H⟩ W, st⟩
end OwnH
theorem own_clamp {n : Nat} (h : n < 2147483648) : (Int32.ofNat n).toNatClampNeg = n := by
  have e : (Int32.ofNat n).toInt = n := Int32.toInt_ofNat_of_lt (by omega)
  show (Int32.ofNat n).toInt.toNat = n
  rw [e]; rfl
theorem own_ofNat {n : Nat} (h : n < 2147483648) : (Int32.ofNat n).toInt = n := Int32.toInt_ofNat_of_lt (by omega)
theorem own_nn {n : Nat} (h : n < 2147483648) : ¬ Int32.ofNat n < 0 := by
  have e0 : (0 : Int32).toInt = 0 := by decide
  rw [Int32.lt_iff_toInt_lt, own_ofNat h, e0]; omega
theorem own_ltN {i n : Nat} (h : i < n) (hn : n < 2147483648) : Int32.ofNat i < Int32.ofNat n := by
  rw [Int32.lt_iff_toInt_lt, own_ofNat (by omega), own_ofNat hn]; omega
theorem own_succ (i : Nat) : Int32.ofNat i + (1 : Int32) = Int32.ofNat (i + 1) := (Int32.ofNat_add i 1).symm
theorem own_wS {Z : State} {a0 : Array Value} (hw : ∀ d ∈ tables_1, d.before a0 Z = true) : ∀ a ∈ Bundle.stringAtoms, a.before a0 Z = true := by
  intro a ha
  rcases List.mem_cons.mp ha with rfl | ha
  · exact (hw _ (List.mem_of_getElem? (i := 6) rfl))
  rcases List.mem_cons.mp ha with rfl | ha
  · exact (hw _ (List.mem_of_getElem? (i := 7) rfl))
  rcases List.mem_cons.mp ha with rfl | ha
  · exact (hw _ (List.mem_of_getElem? (i := 8) rfl))
  rcases List.mem_cons.mp ha with rfl | ha
  · exact (hw _ (List.mem_of_getElem? (i := 9) rfl))
  rcases List.mem_cons.mp ha with rfl | ha
  · exact (hw _ (List.mem_of_getElem? (i := 10) rfl))
  rcases List.mem_cons.mp ha with rfl | ha
  · exact (hw _ (List.mem_of_getElem? (i := 11) rfl))
  rcases List.mem_cons.mp ha with rfl | ha
  · exact (hw _ (List.mem_of_getElem? (i := 12) rfl))
  · exact absurd ha (List.not_mem_nil)
def own_tab : Nat → Int32
  | 0 => 33 | 1 => 35 | 2 => 36 | 3 => 37 | 4 => 38 | 5 => 39 | 6 => 42 | 7 => 43 | 8 => 45 | 9 => 46 | 10 => 94 | 11 => 95 | 12 => 96 | 13 => 124 | 14 => 126 | _ => 0
def own_vs : List Value := [.int 33, .int 35, .int 36, .int 37, .int 38, .int 39, .int 42, .int 43, .int 45, .int 46, .int 94, .int 95, .int 96, .int 124, .int 126]
theorem own_vs_tab : ∀ i : Nat, i < 15 → own_vs.getD i (.int 0) = .int (own_tab i) := by
  intro i hi
  match i, hi with
  | 0, _ => rfl
  | 1, _ => rfl
  | 2, _ => rfl
  | 3, _ => rfl
  | 4, _ => rfl
  | 5, _ => rfl
  | 6, _ => rfl
  | 7, _ => rfl
  | 8, _ => rfl
  | 9, _ => rfl
  | 10, _ => rfl
  | 11, _ => rfl
  | 12, _ => rfl
  | 13, _ => rfl
  | 14, _ => rfl
theorem own_ofArv {Z : State} {h : Heap} {b : Addr} {k : ClassId} (A : Arv Z h b k .byte (15 : Int32) own_vs (.int 0)) : own_AI Z h b .byte (15 : Int32) own_tab := by
  obtain ⟨c, A1, -, S, M, H, -⟩ := A
  refine ⟨c, A1, S, M, fun i hi => ?_⟩
  rw [H i hi, own_vs_tab i (by rw [S] at hi; exact hi)]
theorem own_IB {Z : State} {vm : Vm} (h : vm.interned = Z.vm.interned) : IB Z vm [] := ⟨#[], by rw [h]; simp, fun q hq => by simp at hq⟩
theorem own_ncx {args : Array Value} {s : State} {cx : Int32} (e : (Term.static "java/lang/String" "COMPACT_STRINGS" "Z").eval args s none [] s = some (.int cx)) (w : Jvm.Lit.compactW.before args s = true) : ¬ cx = (0 : Int32) := by
  intro q
  have w' := Cond.before_iff.mp w
  have h1 := not_v w'
  have h2 := eq_i (first := s) (o := none) (idx := []) e (Term.int_eval (0 : Int32)) (congrArg Value.int q)
  rw [h2] at h1
  cases h1
section Own161
variable {p : Program} {l : Launch} {e : Env} {R : Room} {s : State} {args : Array Value} {below : List Frame} {Z : State} {h : Heap} {a0 : Array Value}
/-- a callee that may intern, whose law asks that the intern table is the start's -/
theorem own_backOfI {y : MethodName} {bytes : ByteArray} {maxL : Nat} {ret : Option FieldType} {rm : Room} {len W : Nat} {as' : Array Value} {Q : Option Value → Heap → List Loc → Prop}
    (hM : MetFree l y (head1 [Cond.code y bytes maxL ret] rm) (fun a U => a = as' ∧ Z.Warmed39 U.vm ∧ U.heap = h ∧ U.vm.interned = Z.vm.interned) (fun _ _ _ _ _ => True) (fun _ U o U' => ∃ v L, o = .returned v ∧ Q v U'.heap L ∧ ReturnedEndW U o U' L rm.cells rm.slots))
    (hZ : Z.Warmed39 s.vm) (hI : s.vm.interned = Z.vm.interned) (wc : (Cond.code y bytes maxL ret).before a0 Z = true) (wz : (Cond.initialized y.cls).before a0 Z = true) (hf : rm.frames + 1 ≤ R.frames) (hl : W + (maxL + 11) + rm.locals ≤ R.locals) :
    BackS l R p e below s args y len W (fun A a => a = as' ∧ A.U.heap = h ∧ A.cells + rm.cells ≤ R.cells ∧ A.slots + rm.slots ≤ R.slots)
      (fun A _ v B => ∃ L, Q v B.U.heap L ∧ B.locs = A.locs ++ L ∧ B.cells = A.cells + rm.cells ∧ B.slots = A.slots + rm.slots) :=
  BackS.of_freeW (bytes := bytes) (maxL := maxL) (ret := ret) (E := fun _ _ o t L k n => k = rm.cells ∧ n = rm.slots ∧ ∃ v, o = .returned v ∧ Q v t.heap L) hM hf hl
    (fun m meth c A a Y hp => have hU : Z.Warmed39 A.U.vm := wtrans hZ Y.warmed
      ⟨by show (Cond.and _ .tt).before a A.U = true; rw [Cond.before_and, mv hU wc]; rfl, mv hU wc, mv hU wz, hp.2.2.1, hp.2.2.2⟩)
    (fun m meth c A a g mk Y hp => ⟨hp.1, wtrans hZ Y.warmed, hp.2.1, (show A.U.vm.interned = Z.vm.interned from Y.warmed.interned_eq.trans hI)⟩) (fun _ _ _ _ _ _ _ _ _ => trivial)
    (fun _ _ _ _ ⟨v, L, h1, h2, h3⟩ => ⟨L, _, _, h3, rfl, rfl, v, h1, h2⟩)
    (fun m meth c A a g mk v t L k n Y hp _ _ ⟨e1, e2, v', e3, e4⟩ => by cases e3; subst e1 e2; exact ⟨L, e4, rfl, rfl, rfl⟩)
end Own161
/-! body 6: coder -/
theorem d6_0 : decode jdk_42_method_152_code 0 = .ok (.getstatic 38, 3) := by decide +kernel
theorem d6_3 : decode jdk_42_method_152_code 3 = .ok (.ifCond .eq 10, 3) := by decide +kernel
theorem d6_6 : decode jdk_42_method_152_code 6 = .ok (.aload_n 0, 1) := by decide +kernel
theorem d6_7 : decode jdk_42_method_152_code 7 = .ok (.getfield 15, 3) := by decide +kernel
theorem d6_10 : decode jdk_42_method_152_code 10 = .ok (.goto 4, 3) := by decide +kernel
theorem d6_14 : decode jdk_42_method_152_code 14 = .ok (.ireturn, 1) := by decide +kernel
theorem pncod : plainName "java/lang/String" = true := by first | (simp [plainName, overriddenIn]; done) | decide +kernel
theorem efcod (m : MethodId) (a1 : Addr) : entryFrame m #[(.ref a1)] 1 = mkF m 0 #[.val (.ref a1)] [] := by first | (simp [entryFrame, mkF, argsToLocals, Value.category]; done) | rfl
def fncod  : Int32 :=
  (nar .byte (0 : Int32))
def Qcod (Z : State) (a1 : Addr) (cx : Int32) (h0 : Heap) (n0 : Nat) (v : Option Value) (h : Heap) (L : List Loc) : Prop := v = some (.int (fncod )) ∧ Fr n0 L ∧ h = h0
set_option maxRecDepth 65536 in
set_option maxHeartbeats 40000000 in
theorem rmcod (l : Launch) (Z : State) (a0 : Array Value) (hw : ∀ d ∈ tables_1, d.before a0 Z = true) (ws : List Jvm.Cond) (a1 : Addr) (cx : Int32) (h0 : Heap) (n0 : Nat) (Z0 : n0 ≤ h0.size) (S0 : Sta Z h0 "java/lang/String" "COMPACT_STRINGS" "Z" (.int cx)) (hcx : ¬ cx = (0 : Int32)) (Fc : Fld Z h0 a1 "java/lang/String" "coder" "B" (.int (0 : Int32))) :
    MetFree l (⟨"java/lang/String", "coder", "()B"⟩ : MethodName) (head1 (Jvm.Cond.code (⟨"java/lang/String", "coder", "()B"⟩ : MethodName) jdk_42_method_152_code 1 (some .byte) :: ws) ({ frames := 0, cells := 0, slots := 0, locals := 0 } : Room)) (fun a U => a = #[(.ref a1)] ∧ Z.Warmed39 U.vm ∧ U.heap = h0) (fun _ _ _ _ _ => True) (fun _ U o U' => ∃ v L, o = .returned v ∧ Qcod Z a1 cx h0 n0 v U'.heap L ∧ FrameEnd U o U' L ({ frames := 0, cells := 0, slots := 0, locals := 0 } : Room).cells ({ frames := 0, cells := 0, slots := 0, locals := 0 } : Room).slots) := by
  refine MetFree.of_bodySF (plainFor_of_name pncod) hisR ?_
  intro p e s m args below meth c s₁ Bd hml0 hP hK
  obtain ⟨rfl, hZ, hh⟩ := hP
  have hx := Bd.exec
  have hby := Bd.bytes
  have hml : c.maxLocals = 1 := hml0
  have hown : s.vm.findClass "java/lang/String" = some m.cls := findClass_of_methodNamed Bd.named
  have hnm := (name_of_methodNamed Bd.named Bd.method).1
  have X0 : Stand p l e ({ frames := 0, cells := 0, slots := 0, locals := 0 } : Room) s m #[(.ref a1)] below meth c s₁ [] 0 0 := Stand.of_body Bd
  have e0 : s₁.heap = h0 := by rw [← hh, Bd.state]; rfl
  have N0 := Fr.nil n0
  have pre0 : ∀ t, Steps p.tables e below (s₁.setTop (mkF m 0 #[.val (.ref a1)] [])) t → Steps p.tables e below (s₁.setTop (entryFrame m #[(.ref a1)] 1)) t := fun t k => castTop (efcod m a1) k
  have pre1 : ∀ t, Steps p.tables e below (s₁.setTop (mkF m 0 #[.val (.ref a1)] [])) t → Steps p.tables e below (s₁.setTop (entryFrame m #[(.ref a1)] 1)) t := by
    intro t k
    refine pre0 t ?_
    show Steps p.tables e below (s₁.setTop (mkF m 0 #[.val (.ref a1)] [])) _
    exact k
  obtain ⟨T2, X2, e2, st2⟩ := getS2 X0 hx hZ hown (host := "") (Or.inl (hw _ (List.mem_of_getElem? (i := 28) rfl))) Via.refl e0 S0 (g := (mkF m 0 #[.val (.ref a1)] [])) rfl (hb hby d6_0)
  have pre2 : ∀ t, Steps p.tables e below (T2.setTop (mkF m 3 #[.val (.ref a1)] [(.int cx)])) t → Steps p.tables e below (s₁.setTop (entryFrame m #[(.ref a1)] 1)) t := fun t k => pre1 t (st2 _ k)
  have pre3 : ∀ t, Steps p.tables e below (T2.setTop (mkF m 7 #[.val (.ref a1)] [(.ref a1)])) t → Steps p.tables e below (s₁.setTop (entryFrame m #[(.ref a1)] 1)) t := by
    intro t k
    refine pre2 t ?_
    refine XS.ifNo X2.here hx rfl (hb hby d6_3) rfl ((if0 _ _).trans (feq hcx).1) ?_
    show Steps p.tables e below (T2.setTop (mkF m 6 #[.val (.ref a1)] [])) _
    refine XS.aloadN X2.here hx rfl (hb hby d6_6) rfl rfl ?_
    show Steps p.tables e below (T2.setTop (mkF m 7 #[.val (.ref a1)] [(.ref a1)])) _
    exact k
  obtain ⟨T4, X4, e4, st4⟩ := getF X2 hx hZ hown (host := "") (Or.inl (hw _ (List.mem_of_getElem? (i := 29) rfl))) Via.refl e2 Fc (g := (mkF m 7 #[.val (.ref a1)] [(.ref a1)])) rfl rfl (hb hby d6_7)
  have pre4 : ∀ t, Steps p.tables e below (T4.setTop (mkF m 10 #[.val (.ref a1)] [(.int (0 : Int32))])) t → Steps p.tables e below (s₁.setTop (entryFrame m #[(.ref a1)] 1)) t := fun t k => pre3 t (st4 _ k)
  have pre5 : ∀ t, Steps p.tables e below (T4.setTop (mkF m 14 #[.val (.ref a1)] [(.int (0 : Int32))])) t → Steps p.tables e below (s₁.setTop (entryFrame m #[(.ref a1)] 1)) t := by
    intro t k
    refine pre4 t ?_
    refine XS.goto X4.here hx rfl (pc0 := 10) (pc' := 14) rfl (hb hby d6_10) (by decide) (by decide) ?_
    show Steps p.tables e below (T4.setTop (mkF m 14 #[.val (.ref a1)] [(.int (0 : Int32))])) _
    exact k
  obtain ⟨fs, hr, hrun, hended, hW, hsame⟩ := X4.leave (v := some (.int (nar .byte (0 : Int32)))) (fun h => by rw [Bd.returns] at h; cases h)
  refine ⟨_, _, pre5 _ ?_, hrun, hended, _, _, rfl, ?_, ⟨_, rfl⟩, hW, hsame.mono (by decide) (by decide)⟩
  · show Steps p.tables e below (T4.setTop (mkF m 14 #[.val (.ref a1)] [(.int (0 : Int32))])) _
    exact retN X4 hx (t := .byte) Bd.returns (by simp) (hb hby d6_14) hr
  · show Qcod Z a1 cx h0 n0 _ T4.heap _
    rw [e4]
    refine ⟨?_, N0, rfl⟩
    simp only [fncod]
/-! body 4: isLatin1 -/
theorem d4_0 : decode jdk_42_method_154_code 0 = .ok (.getstatic 38, 3) := by decide +kernel
theorem d4_3 : decode jdk_42_method_154_code 3 = .ok (.ifCond .eq 14, 3) := by decide +kernel
theorem d4_6 : decode jdk_42_method_154_code 6 = .ok (.aload_n 0, 1) := by decide +kernel
theorem d4_7 : decode jdk_42_method_154_code 7 = .ok (.getfield 15, 3) := by decide +kernel
theorem d4_10 : decode jdk_42_method_154_code 10 = .ok (.ifCond .ne 7, 3) := by decide +kernel
theorem d4_13 : decode jdk_42_method_154_code 13 = .ok (.iconst 1, 1) := by decide +kernel
theorem d4_14 : decode jdk_42_method_154_code 14 = .ok (.goto 4, 3) := by decide +kernel
theorem d4_18 : decode jdk_42_method_154_code 18 = .ok (.ireturn, 1) := by decide +kernel
theorem pnlat : plainName "java/lang/String" = true := by first | (simp [plainName, overriddenIn]; done) | decide +kernel
theorem eflat (m : MethodId) (a1 : Addr) : entryFrame m #[(.ref a1)] 1 = mkF m 0 #[.val (.ref a1)] [] := by first | (simp [entryFrame, mkF, argsToLocals, Value.category]; done) | rfl
def fnlat  : Int32 :=
  (nar .boolean (1 : Int32))
def Qlat (Z : State) (a1 : Addr) (cx : Int32) (h0 : Heap) (n0 : Nat) (v : Option Value) (h : Heap) (L : List Loc) : Prop := v = some (.int (fnlat )) ∧ Fr n0 L ∧ h = h0
set_option maxRecDepth 65536 in
set_option maxHeartbeats 40000000 in
theorem rmlat (l : Launch) (Z : State) (a0 : Array Value) (hw : ∀ d ∈ tables_1, d.before a0 Z = true) (ws : List Jvm.Cond) (a1 : Addr) (cx : Int32) (h0 : Heap) (n0 : Nat) (Z0 : n0 ≤ h0.size) (S0 : Sta Z h0 "java/lang/String" "COMPACT_STRINGS" "Z" (.int cx)) (hcx : ¬ cx = (0 : Int32)) (Fc : Fld Z h0 a1 "java/lang/String" "coder" "B" (.int (0 : Int32))) :
    MetFree l (⟨"java/lang/String", "isLatin1", "()Z"⟩ : MethodName) (head1 (Jvm.Cond.code (⟨"java/lang/String", "isLatin1", "()Z"⟩ : MethodName) jdk_42_method_154_code 1 (some .boolean) :: ws) ({ frames := 0, cells := 0, slots := 0, locals := 0 } : Room)) (fun a U => a = #[(.ref a1)] ∧ Z.Warmed39 U.vm ∧ U.heap = h0) (fun _ _ _ _ _ => True) (fun _ U o U' => ∃ v L, o = .returned v ∧ Qlat Z a1 cx h0 n0 v U'.heap L ∧ FrameEnd U o U' L ({ frames := 0, cells := 0, slots := 0, locals := 0 } : Room).cells ({ frames := 0, cells := 0, slots := 0, locals := 0 } : Room).slots) := by
  refine MetFree.of_bodySF (plainFor_of_name pnlat) hisR ?_
  intro p e s m args below meth c s₁ Bd hml0 hP hK
  obtain ⟨rfl, hZ, hh⟩ := hP
  have hx := Bd.exec
  have hby := Bd.bytes
  have hml : c.maxLocals = 1 := hml0
  have hown : s.vm.findClass "java/lang/String" = some m.cls := findClass_of_methodNamed Bd.named
  have hnm := (name_of_methodNamed Bd.named Bd.method).1
  have X0 : Stand p l e ({ frames := 0, cells := 0, slots := 0, locals := 0 } : Room) s m #[(.ref a1)] below meth c s₁ [] 0 0 := Stand.of_body Bd
  have e0 : s₁.heap = h0 := by rw [← hh, Bd.state]; rfl
  have N0 := Fr.nil n0
  have pre0 : ∀ t, Steps p.tables e below (s₁.setTop (mkF m 0 #[.val (.ref a1)] [])) t → Steps p.tables e below (s₁.setTop (entryFrame m #[(.ref a1)] 1)) t := fun t k => castTop (eflat m a1) k
  have pre1 : ∀ t, Steps p.tables e below (s₁.setTop (mkF m 0 #[.val (.ref a1)] [])) t → Steps p.tables e below (s₁.setTop (entryFrame m #[(.ref a1)] 1)) t := by
    intro t k
    refine pre0 t ?_
    show Steps p.tables e below (s₁.setTop (mkF m 0 #[.val (.ref a1)] [])) _
    exact k
  obtain ⟨T2, X2, e2, st2⟩ := getS2 X0 hx hZ hown (host := "") (Or.inl (hw _ (List.mem_of_getElem? (i := 28) rfl))) Via.refl e0 S0 (g := (mkF m 0 #[.val (.ref a1)] [])) rfl (hb hby d4_0)
  have pre2 : ∀ t, Steps p.tables e below (T2.setTop (mkF m 3 #[.val (.ref a1)] [(.int cx)])) t → Steps p.tables e below (s₁.setTop (entryFrame m #[(.ref a1)] 1)) t := fun t k => pre1 t (st2 _ k)
  have pre3 : ∀ t, Steps p.tables e below (T2.setTop (mkF m 7 #[.val (.ref a1)] [(.ref a1)])) t → Steps p.tables e below (s₁.setTop (entryFrame m #[(.ref a1)] 1)) t := by
    intro t k
    refine pre2 t ?_
    refine XS.ifNo X2.here hx rfl (hb hby d4_3) rfl ((if0 _ _).trans (feq hcx).1) ?_
    show Steps p.tables e below (T2.setTop (mkF m 6 #[.val (.ref a1)] [])) _
    refine XS.aloadN X2.here hx rfl (hb hby d4_6) rfl rfl ?_
    show Steps p.tables e below (T2.setTop (mkF m 7 #[.val (.ref a1)] [(.ref a1)])) _
    exact k
  obtain ⟨T4, X4, e4, st4⟩ := getF X2 hx hZ hown (host := "") (Or.inl (hw _ (List.mem_of_getElem? (i := 29) rfl))) Via.refl e2 Fc (g := (mkF m 7 #[.val (.ref a1)] [(.ref a1)])) rfl rfl (hb hby d4_7)
  have pre4 : ∀ t, Steps p.tables e below (T4.setTop (mkF m 10 #[.val (.ref a1)] [(.int (0 : Int32))])) t → Steps p.tables e below (s₁.setTop (entryFrame m #[(.ref a1)] 1)) t := fun t k => pre3 t (st4 _ k)
  have pre5 : ∀ t, Steps p.tables e below (T4.setTop (mkF m 18 #[.val (.ref a1)] [(.int (1 : Int32))])) t → Steps p.tables e below (s₁.setTop (entryFrame m #[(.ref a1)] 1)) t := by
    intro t k
    refine pre4 t ?_
    refine XS.ifNo X4.here hx rfl (hb hby d4_10) rfl ((if0 _ _).trans (teq (by decide : (0 : Int32) = (0 : Int32))).2) ?_
    show Steps p.tables e below (T4.setTop (mkF m 13 #[.val (.ref a1)] [])) _
    refine XS.iconst X4.here hx rfl (hb hby d4_13) ?_
    show Steps p.tables e below (T4.setTop (mkF m 14 #[.val (.ref a1)] [(.int (1 : Int32))])) _
    refine XS.goto X4.here hx rfl (pc0 := 14) (pc' := 18) rfl (hb hby d4_14) (by decide) (by decide) ?_
    show Steps p.tables e below (T4.setTop (mkF m 18 #[.val (.ref a1)] [(.int (1 : Int32))])) _
    exact k
  obtain ⟨fs, hr, hrun, hended, hW, hsame⟩ := X4.leave (v := some (.int (nar .boolean (1 : Int32)))) (fun h => by rw [Bd.returns] at h; cases h)
  refine ⟨_, _, pre5 _ ?_, hrun, hended, _, _, rfl, ?_, ⟨_, rfl⟩, hW, hsame.mono (by decide) (by decide)⟩
  · show Steps p.tables e below (T4.setTop (mkF m 18 #[.val (.ref a1)] [(.int (1 : Int32))])) _
    exact retN X4 hx (t := .boolean) Bd.returns (by simp) (hb hby d4_18) hr
  · show Qlat Z a1 cx h0 n0 _ T4.heap _
    rw [e4]
    refine ⟨?_, N0, rfl⟩
    simp only [fnlat]
/-! body 5: length -/
theorem d5_0 : decode jdk_42_method_54_code 0 = .ok (.aload_n 0, 1) := by decide +kernel
theorem d5_1 : decode jdk_42_method_54_code 1 = .ok (.getfield 9, 3) := by decide +kernel
theorem d5_4 : decode jdk_42_method_54_code 4 = .ok (.arraylength, 1) := by decide +kernel
theorem d5_5 : decode jdk_42_method_54_code 5 = .ok (.aload_n 0, 1) := by decide +kernel
theorem d5_6 : decode jdk_42_method_54_code 6 = .ok (.invokevirtual 335, 3) := by decide +kernel
theorem d5_9 : decode jdk_42_method_54_code 9 = .ok (.ishr, 1) := by decide +kernel
theorem d5_10 : decode jdk_42_method_54_code 10 = .ok (.ireturn, 1) := by decide +kernel
theorem pdlen_0 : parseMethodDescriptor "()B" = some ⟨[], some .byte⟩ := by decide +kernel
theorem pnlen : plainName "java/lang/String" = true := by first | (simp [plainName, overriddenIn]; done) | decide +kernel
theorem eflen (m : MethodId) (a1 : Addr) : entryFrame m #[(.ref a1)] 1 = mkF m 0 #[.val (.ref a1)] [] := by first | (simp [entryFrame, mkF, argsToLocals, Value.category]; done) | rfl
def fnlen  : Int32 :=
  ((15 : Int32) >>> ((fncod) &&& 31))
def Qlen (Z : State) (a1 : Addr) (cx : Int32) (b : Addr) (h0 : Heap) (n0 : Nat) (v : Option Value) (h : Heap) (L : List Loc) : Prop := v = some (.int (fnlen )) ∧ Fr n0 L ∧ h = h0
set_option maxRecDepth 65536 in
set_option maxHeartbeats 40000000 in
theorem rmlen (l : Launch) (Z : State) (a0 : Array Value) (hw : ∀ d ∈ tables_1, d.before a0 Z = true) (ws : List Jvm.Cond) (a1 : Addr) (cx : Int32) (b : Addr) (h0 : Heap) (n0 : Nat) (Z0 : n0 ≤ h0.size) (S0 : Sta Z h0 "java/lang/String" "COMPACT_STRINGS" "Z" (.int cx)) (hcx : ¬ cx = (0 : Int32)) (Fc : Fld Z h0 a1 "java/lang/String" "coder" "B" (.int (0 : Int32))) (Fv : Fld Z h0 a1 "java/lang/String" "value" "[B" (.ref b)) (A0 : own_AI Z h0 b .byte (15 : Int32) own_tab) (Ex : Exa Z h0 a1 "java/lang/String") :
    MetFree l (⟨"java/lang/String", "length", "()I"⟩ : MethodName) (head1 (Jvm.Cond.code (⟨"java/lang/String", "length", "()I"⟩ : MethodName) jdk_42_method_54_code 1 (some .int) :: ws) ({ frames := 1, cells := 0, slots := 0, locals := 13 } : Room)) (fun a U => a = #[(.ref a1)] ∧ Z.Warmed39 U.vm ∧ U.heap = h0) (fun _ _ _ _ _ => True) (fun _ U o U' => ∃ v L, o = .returned v ∧ Qlen Z a1 cx b h0 n0 v U'.heap L ∧ FrameEnd U o U' L ({ frames := 1, cells := 0, slots := 0, locals := 13 } : Room).cells ({ frames := 1, cells := 0, slots := 0, locals := 13 } : Room).slots) := by
  refine MetFree.of_bodySF (plainFor_of_name pnlen) hisR ?_
  intro p e s m args below meth c s₁ Bd hml0 hP hK
  obtain ⟨rfl, hZ, hh⟩ := hP
  have hx := Bd.exec
  have hby := Bd.bytes
  have hml : c.maxLocals = 1 := hml0
  have hown : s.vm.findClass "java/lang/String" = some m.cls := findClass_of_methodNamed Bd.named
  have hnm := (name_of_methodNamed Bd.named Bd.method).1
  have X0 : Stand p l e ({ frames := 1, cells := 0, slots := 0, locals := 13 } : Room) s m #[(.ref a1)] below meth c s₁ [] 0 0 := Stand.of_body Bd
  have e0 : s₁.heap = h0 := by rw [← hh, Bd.state]; rfl
  have N0 := Fr.nil n0
  have pre0 : ∀ t, Steps p.tables e below (s₁.setTop (mkF m 0 #[.val (.ref a1)] [])) t → Steps p.tables e below (s₁.setTop (entryFrame m #[(.ref a1)] 1)) t := fun t k => castTop (eflen m a1) k
  have pre1 : ∀ t, Steps p.tables e below (s₁.setTop (mkF m 1 #[.val (.ref a1)] [(.ref a1)])) t → Steps p.tables e below (s₁.setTop (entryFrame m #[(.ref a1)] 1)) t := by
    intro t k
    refine pre0 t ?_
    show Steps p.tables e below (s₁.setTop (mkF m 0 #[.val (.ref a1)] [])) _
    refine XS.aloadN X0.here hx rfl (hb hby d5_0) rfl rfl ?_
    show Steps p.tables e below (s₁.setTop (mkF m 1 #[.val (.ref a1)] [(.ref a1)])) _
    exact k
  obtain ⟨T2, X2, e2, st2⟩ := getF X0 hx hZ hown (host := "") (Or.inl (hw _ (List.mem_of_getElem? (i := 30) rfl))) Via.refl e0 Fv (g := (mkF m 1 #[.val (.ref a1)] [(.ref a1)])) rfl rfl (hb hby d5_1)
  have pre2 : ∀ t, Steps p.tables e below (T2.setTop (mkF m 4 #[.val (.ref a1)] [(.ref b)])) t → Steps p.tables e below (s₁.setTop (entryFrame m #[(.ref a1)] 1)) t := fun t k => pre1 t (st2 _ k)
  have pre3 : ∀ t, Steps p.tables e below (T2.setTop (mkF m 6 #[.val (.ref a1)] [(.ref a1), (.int (15 : Int32))])) t → Steps p.tables e below (s₁.setTop (entryFrame m #[(.ref a1)] 1)) t := by
    intro t k
    refine pre2 t ?_
    refine own_lenI X2 hx hZ e2 A0 (g := (mkF m 4 #[.val (.ref a1)] [(.ref b)])) rfl rfl (hb hby d5_4) _ ?_
    show Steps p.tables e below (T2.setTop (mkF m 5 #[.val (.ref a1)] [(.int (15 : Int32))])) _
    refine XS.aloadN X2.here hx rfl (hb hby d5_5) rfl rfl ?_
    show Steps p.tables e below (T2.setTop (mkF m 6 #[.val (.ref a1)] [(.ref a1), (.int (15 : Int32))])) _
    exact k
  obtain ⟨cq4, kq4, qa4, qb4, qc4⟩ := isOf hZ e2 Ex
  obtain ⟨_, _, ⟨T4, L4, k4, n4⟩, -, X4, ⟨Lc4, hQ4, l4, y4, z4⟩, st4⟩ := X2.virtualBack hx (y := (⟨"java/lang/String", "coder", "()B"⟩ : MethodName)) (z := (⟨"java/lang/String", "coder", "()B"⟩ : MethodName)) hown (mvT hZ (hw _ (List.mem_of_getElem? (i := 36) rfl))) (mvT hZ (hw _ (List.mem_of_getElem? (i := 37) rfl))) (notFace_of_selects (args := #[]) (mvT hZ (hw _ (List.mem_of_getElem? (i := 39) rfl)))) (mvT hZ (hw _ (List.mem_of_getElem? (i := 39) rfl))) (mvT hZ (hw _ (List.mem_of_getElem? (i := 38) rfl))) (by decide) (backOf (W := 1) (rmcod l Z a0 hw [] a1 cx h0 n0 Z0 S0 hcx Fc) hZ (hw _ (List.mem_of_getElem? (i := 40) rfl)) (hw _ (List.mem_of_getElem? (i := 6) rfl)) (by decide) (by decide)) qa4 qc4 (g := (mkF m 6 #[.val (.ref a1)] [(.ref a1), (.int (15 : Int32))])) rfl (by rw [hml]; rfl) (Steps.refl _) (argsL := []) (rest := [(.int (15 : Int32))]) (lenOf pdlen_0 rfl) rfl (by show 2 * 0 + _ ≤ _; exact Nat.le_of_eq rfl) (hb hby d5_6) (fun _ _ => ⟨rfl, e2, (by decide : 0 + 0 ≤ _), (by decide : 0 + 0 ≤ _)⟩)
  dsimp only [Pt.U, Pt.locs, Pt.cells, Pt.slots] at X4 l4 y4 z4 st4 hQ4
  subst l4 y4 z4
  obtain ⟨rfl, Nq4, e4⟩ := hQ4
  have N4 := Fr.app N0 Nq4
  have pre4 : ∀ t, Steps p.tables e below (T4.setTop (mkF m 9 #[.val (.ref a1)] [(.int (fncod)), (.int (15 : Int32))])) t → Steps p.tables e below (s₁.setTop (entryFrame m #[(.ref a1)] 1)) t := fun t k => pre3 t (st4.trans k)
  have pre5 : ∀ t, Steps p.tables e below (T4.setTop (mkF m 10 #[.val (.ref a1)] [(.int ((15 : Int32) >>> ((fncod) &&& 31)))])) t → Steps p.tables e below (s₁.setTop (entryFrame m #[(.ref a1)] 1)) t := by
    intro t k
    refine pre4 t ?_
    refine XS.ishr X4.here hx rfl (hb hby d5_9) rfl ?_
    show Steps p.tables e below (T4.setTop (mkF m 10 #[.val (.ref a1)] [(.int ((15 : Int32) >>> ((fncod) &&& 31)))])) _
    exact k
  obtain ⟨fs, hr, hrun, hended, hW, hsame⟩ := X4.leave (v := some (.int ((15 : Int32) >>> ((fncod) &&& 31)))) (fun h => by rw [Bd.returns] at h; cases h)
  refine ⟨_, _, pre5 _ ?_, hrun, hended, _, _, rfl, ?_, ⟨_, rfl⟩, hW, hsame.mono (by decide) (by decide)⟩
  · show Steps p.tables e below (T4.setTop (mkF m 10 #[.val (.ref a1)] [(.int ((15 : Int32) >>> ((fncod) &&& 31)))])) _
    exact own_retI X4 hx Bd.returns (hb hby d5_10) hr
  · show Qlen Z a1 cx b h0 n0 _ T4.heap _
    rw [e4]
    refine ⟨?_, N4, rfl⟩
    simp only [fnlen]
/-! body 8: canEncode -/
theorem d8_0 : decode jdk_43_method_4_code 0 = .ok (.iload_n 0, 1) := by decide +kernel
theorem d8_1 : decode jdk_43_method_4_code 1 = .ok (.ifCond .lt 14, 3) := by decide +kernel
theorem d8_4 : decode jdk_43_method_4_code 4 = .ok (.iload_n 0, 1) := by decide +kernel
theorem d8_5 : decode jdk_43_method_4_code 5 = .ok (.sipush 255, 3) := by decide +kernel
theorem d8_8 : decode jdk_43_method_4_code 8 = .ok (.if_icmp .gt 7, 3) := by decide +kernel
theorem d8_11 : decode jdk_43_method_4_code 11 = .ok (.iconst 1, 1) := by decide +kernel
theorem d8_12 : decode jdk_43_method_4_code 12 = .ok (.goto 4, 3) := by decide +kernel
theorem d8_15 : decode jdk_43_method_4_code 15 = .ok (.iconst 0, 1) := by decide +kernel
theorem d8_16 : decode jdk_43_method_4_code 16 = .ok (.ireturn, 1) := by decide +kernel
theorem pnenc : plainName "java/lang/StringLatin1" = true := by first | (simp [plainName, overriddenIn]; done) | decide +kernel
theorem efenc (m : MethodId) (p1 : Int32) : entryFrame m #[(.int p1)] 1 = mkF m 0 #[.val (.int p1)] [] := by first | (simp [entryFrame, mkF, argsToLocals, Value.category]; done) | rfl
def fnenc (p1 : Int32) : Int32 :=
  let u16s0 : Int32 := (if p1 < (0 : Int32) then (0 : Int32) else (if (255 : Int32) < p1 then (0 : Int32) else (1 : Int32)))
  (nar .boolean u16s0)
def Qenc (Z : State) (p1 : Int32) (h0 : Heap) (n0 : Nat) (v : Option Value) (h : Heap) (L : List Loc) : Prop := v = some (.int (fnenc p1)) ∧ Fr n0 L ∧ h = h0
set_option maxRecDepth 65536 in
set_option maxHeartbeats 40000000 in
theorem rmenc (l : Launch) (Z : State) (a0 : Array Value) (hw : ∀ d ∈ tables_1, d.before a0 Z = true) (ws : List Jvm.Cond) (p1 : Int32) (h0 : Heap) (n0 : Nat) (Z0 : n0 ≤ h0.size) :
    MetFree l (⟨"java/lang/StringLatin1", "canEncode", "(I)Z"⟩ : MethodName) (head1 (Jvm.Cond.code (⟨"java/lang/StringLatin1", "canEncode", "(I)Z"⟩ : MethodName) jdk_43_method_4_code 1 (some .boolean) :: ws) ({ frames := 0, cells := 0, slots := 0, locals := 0 } : Room)) (fun a U => a = #[(.int p1)] ∧ Z.Warmed39 U.vm ∧ U.heap = h0) (fun _ _ _ _ _ => True) (fun _ U o U' => ∃ v L, o = .returned v ∧ Qenc Z p1 h0 n0 v U'.heap L ∧ FrameEnd U o U' L ({ frames := 0, cells := 0, slots := 0, locals := 0 } : Room).cells ({ frames := 0, cells := 0, slots := 0, locals := 0 } : Room).slots) := by
  refine MetFree.of_bodySF (plainFor_of_name pnenc) hisR ?_
  intro p e s m args below meth c s₁ Bd hml0 hP hK
  obtain ⟨rfl, hZ, hh⟩ := hP
  have hx := Bd.exec
  have hby := Bd.bytes
  have hml : c.maxLocals = 1 := hml0
  have hown : s.vm.findClass "java/lang/StringLatin1" = some m.cls := findClass_of_methodNamed Bd.named
  have hnm := (name_of_methodNamed Bd.named Bd.method).1
  have X0 : Stand p l e ({ frames := 0, cells := 0, slots := 0, locals := 0 } : Room) s m #[(.int p1)] below meth c s₁ [] 0 0 := Stand.of_body Bd
  have e0 : s₁.heap = h0 := by rw [← hh, Bd.state]; rfl
  have N0 := Fr.nil n0
  have pre0 : ∀ t, Steps p.tables e below (s₁.setTop (mkF m 0 #[.val (.int p1)] [])) t → Steps p.tables e below (s₁.setTop (entryFrame m #[(.int p1)] 1)) t := fun t k => castTop (efenc m p1) k
  obtain ⟨u16s0, hu16s0⟩ : ∃ z : Int32, z = (if p1 < (0 : Int32) then (0 : Int32) else (if (255 : Int32) < p1 then (0 : Int32) else (1 : Int32))) := ⟨_, rfl⟩
  have pre1 : ∀ t, Steps p.tables e below (s₁.setTop (mkF m 16 #[.val (.int p1)] [(.int u16s0)])) t → Steps p.tables e below (s₁.setTop (entryFrame m #[(.int p1)] 1)) t := by
    intro t k
    subst hu16s0
    refine pre0 t ?_
    show Steps p.tables e below (s₁.setTop (mkF m 0 #[.val (.int p1)] [])) _
    refine XS.iloadN X0.here hx rfl (hb hby d8_0) rfl ?_
    show Steps p.tables e below (s₁.setTop (mkF m 1 #[.val (.int p1)] [(.int p1)])) _
    by_cases hb1 : p1 < (0 : Int32)
    · simp only [if_pos hb1] at k
      refine XS.ifYes X0.here hx rfl (pc0 := 1) (pc' := 15) rfl (hb hby d8_1) rfl ((if0 _ _).trans (tlt hb1).1) (by decide) (by decide) ?_
      show Steps p.tables e below (s₁.setTop (mkF m 15 #[.val (.int p1)] [])) _
      refine XS.iconst X0.here hx rfl (hb hby d8_15) ?_
      show Steps p.tables e below (s₁.setTop (mkF m 16 #[.val (.int p1)] [(.int (0 : Int32))])) _
      exact k
    · refine XS.ifNo X0.here hx rfl (hb hby d8_1) rfl ((if0 _ _).trans (flt hb1).1) ?_
      show Steps p.tables e below (s₁.setTop (mkF m 4 #[.val (.int p1)] [])) _
      refine XS.iloadN X0.here hx rfl (hb hby d8_4) rfl ?_
      show Steps p.tables e below (s₁.setTop (mkF m 5 #[.val (.int p1)] [(.int p1)])) _
      refine XS.sipush X0.here hx rfl (hb hby d8_5) ?_
      show Steps p.tables e below (s₁.setTop (mkF m 8 #[.val (.int p1)] [(.int (255 : Int32)), (.int p1)])) _
      by_cases hb8 : (255 : Int32) < p1
      · simp only [if_neg hb1, if_pos hb8] at k
        refine XS.icmpYes X0.here hx rfl (pc0 := 8) (pc' := 15) rfl (hb hby d8_8) rfl (tlt hb8).2.2.1 (by decide) (by decide) ?_
        show Steps p.tables e below (s₁.setTop (mkF m 15 #[.val (.int p1)] [])) _
        refine XS.iconst X0.here hx rfl (hb hby d8_15) ?_
        show Steps p.tables e below (s₁.setTop (mkF m 16 #[.val (.int p1)] [(.int (0 : Int32))])) _
        exact k
      · simp only [if_neg hb1, if_neg hb8] at k
        refine XS.icmpNo X0.here hx rfl (hb hby d8_8) rfl (flt hb8).2.2.1 ?_
        show Steps p.tables e below (s₁.setTop (mkF m 11 #[.val (.int p1)] [])) _
        refine XS.iconst X0.here hx rfl (hb hby d8_11) ?_
        show Steps p.tables e below (s₁.setTop (mkF m 12 #[.val (.int p1)] [(.int (1 : Int32))])) _
        refine XS.goto X0.here hx rfl (pc0 := 12) (pc' := 16) rfl (hb hby d8_12) (by decide) (by decide) ?_
        show Steps p.tables e below (s₁.setTop (mkF m 16 #[.val (.int p1)] [(.int (1 : Int32))])) _
        exact k
  obtain ⟨fs, hr, hrun, hended, hW, hsame⟩ := X0.leave (v := some (.int (nar .boolean u16s0))) (fun h => by rw [Bd.returns] at h; cases h)
  refine ⟨_, _, pre1 _ ?_, hrun, hended, _, _, rfl, ?_, ⟨_, rfl⟩, hW, hsame.mono (by decide) (by decide)⟩
  · show Steps p.tables e below (s₁.setTop (mkF m 16 #[.val (.int p1)] [(.int u16s0)])) _
    exact retN X0 hx (t := .boolean) Bd.returns (by simp) (hb hby d8_16) hr
  · show Qenc Z p1 h0 n0 _ s₁.heap _
    rw [e0]
    refine ⟨?_, N0, rfl⟩
    subst hu16s0
    simp only [fnenc]
/-! body 9: max -/
theorem d9_0 : decode jdk_29_method_65_code 0 = .ok (.iload_n 0, 1) := by decide +kernel
theorem d9_1 : decode jdk_29_method_65_code 1 = .ok (.iload_n 1, 1) := by decide +kernel
theorem d9_2 : decode jdk_29_method_65_code 2 = .ok (.if_icmp .lt 7, 3) := by decide +kernel
theorem d9_5 : decode jdk_29_method_65_code 5 = .ok (.iload_n 0, 1) := by decide +kernel
theorem d9_6 : decode jdk_29_method_65_code 6 = .ok (.goto 4, 3) := by decide +kernel
theorem d9_9 : decode jdk_29_method_65_code 9 = .ok (.iload_n 1, 1) := by decide +kernel
theorem d9_10 : decode jdk_29_method_65_code 10 = .ok (.ireturn, 1) := by decide +kernel
theorem efmax (m : MethodId) (p1 : Int32) (p2 : Int32) : entryFrame m #[(.int p1), (.int p2)] 2 = mkF m 0 #[.val (.int p1), .val (.int p2)] [] := by first | (simp [entryFrame, mkF, argsToLocals, Value.category]; done) | rfl
def fnmax (p1 : Int32) (p2 : Int32) : Int32 :=
  let u10s0 : Int32 := (if p1 < p2 then p2 else p1)
  u10s0
def Qmax (Z : State) (p1 : Int32) (p2 : Int32) (h0 : Heap) (n0 : Nat) (v : Option Value) (h : Heap) (L : List Loc) : Prop := v = some (.int (fnmax p1 p2)) ∧ Fr n0 L ∧ h = h0
set_option maxRecDepth 65536 in
set_option maxHeartbeats 40000000 in
theorem rmmax (l : Launch) (Z : State) (a0 : Array Value) (hw : ∀ d ∈ tables_1, d.before a0 Z = true) (ws : List Jvm.Cond) (p1 : Int32) (p2 : Int32) (h0 : Heap) (n0 : Nat) (Z0 : n0 ≤ h0.size) :
    MetFree l (⟨"java/lang/Math", "max", "(II)I"⟩ : MethodName) (head1 (Jvm.Cond.code (⟨"java/lang/Math", "max", "(II)I"⟩ : MethodName) jdk_29_method_65_code 2 (some .int) :: ws) ({ frames := 0, cells := 0, slots := 0, locals := 0 } : Room)) (fun a U => a = #[(.int p1), (.int p2)] ∧ Z.Warmed39 U.vm ∧ U.heap = h0) (fun _ _ _ _ _ => True) (fun _ U o U' => ∃ v L, o = .returned v ∧ Qmax Z p1 p2 h0 n0 v U'.heap L ∧ FrameEnd U o U' L ({ frames := 0, cells := 0, slots := 0, locals := 0 } : Room).cells ({ frames := 0, cells := 0, slots := 0, locals := 0 } : Room).slots) := by
  refine MetFree.of_bodySF (Jvm.Free.JP.mathPlain rfl (by decide +kernel)) hisR ?_
  intro p e s m args below meth c s₁ Bd hml0 hP hK
  obtain ⟨rfl, hZ, hh⟩ := hP
  have hx := Bd.exec
  have hby := Bd.bytes
  have hml : c.maxLocals = 2 := hml0
  have hown : s.vm.findClass "java/lang/Math" = some m.cls := findClass_of_methodNamed Bd.named
  have hnm := (name_of_methodNamed Bd.named Bd.method).1
  have X0 : Stand p l e ({ frames := 0, cells := 0, slots := 0, locals := 0 } : Room) s m #[(.int p1), (.int p2)] below meth c s₁ [] 0 0 := Stand.of_body Bd
  have e0 : s₁.heap = h0 := by rw [← hh, Bd.state]; rfl
  have N0 := Fr.nil n0
  have pre0 : ∀ t, Steps p.tables e below (s₁.setTop (mkF m 0 #[.val (.int p1), .val (.int p2)] [])) t → Steps p.tables e below (s₁.setTop (entryFrame m #[(.int p1), (.int p2)] 2)) t := fun t k => castTop (efmax m p1 p2) k
  obtain ⟨u10s0, hu10s0⟩ : ∃ z : Int32, z = (if p1 < p2 then p2 else p1) := ⟨_, rfl⟩
  have pre1 : ∀ t, Steps p.tables e below (s₁.setTop (mkF m 10 #[.val (.int p1), .val (.int p2)] [(.int u10s0)])) t → Steps p.tables e below (s₁.setTop (entryFrame m #[(.int p1), (.int p2)] 2)) t := by
    intro t k
    subst hu10s0
    refine pre0 t ?_
    show Steps p.tables e below (s₁.setTop (mkF m 0 #[.val (.int p1), .val (.int p2)] [])) _
    refine XS.iloadN X0.here hx rfl (hb hby d9_0) rfl ?_
    show Steps p.tables e below (s₁.setTop (mkF m 1 #[.val (.int p1), .val (.int p2)] [(.int p1)])) _
    refine XS.iloadN X0.here hx rfl (hb hby d9_1) rfl ?_
    show Steps p.tables e below (s₁.setTop (mkF m 2 #[.val (.int p1), .val (.int p2)] [(.int p2), (.int p1)])) _
    by_cases hb2 : p1 < p2
    · simp only [if_pos hb2] at k
      refine XS.icmpYes X0.here hx rfl (pc0 := 2) (pc' := 9) rfl (hb hby d9_2) rfl (tlt hb2).1 (by decide) (by decide) ?_
      show Steps p.tables e below (s₁.setTop (mkF m 9 #[.val (.int p1), .val (.int p2)] [])) _
      refine XS.iloadN X0.here hx rfl (hb hby d9_9) rfl ?_
      show Steps p.tables e below (s₁.setTop (mkF m 10 #[.val (.int p1), .val (.int p2)] [(.int p2)])) _
      exact k
    · simp only [if_neg hb2] at k
      refine XS.icmpNo X0.here hx rfl (hb hby d9_2) rfl (flt hb2).1 ?_
      show Steps p.tables e below (s₁.setTop (mkF m 5 #[.val (.int p1), .val (.int p2)] [])) _
      refine XS.iloadN X0.here hx rfl (hb hby d9_5) rfl ?_
      show Steps p.tables e below (s₁.setTop (mkF m 6 #[.val (.int p1), .val (.int p2)] [(.int p1)])) _
      refine XS.goto X0.here hx rfl (pc0 := 6) (pc' := 10) rfl (hb hby d9_6) (by decide) (by decide) ?_
      show Steps p.tables e below (s₁.setTop (mkF m 10 #[.val (.int p1), .val (.int p2)] [(.int p1)])) _
      exact k
  obtain ⟨fs, hr, hrun, hended, hW, hsame⟩ := X0.leave (v := some (.int u10s0)) (fun h => by rw [Bd.returns] at h; cases h)
  refine ⟨_, _, pre1 _ ?_, hrun, hended, _, _, rfl, ?_, ⟨_, rfl⟩, hW, hsame.mono (by decide) (by decide)⟩
  · show Steps p.tables e below (s₁.setTop (mkF m 10 #[.val (.int p1), .val (.int p2)] [(.int u10s0)])) _
    exact own_retI X0 hx Bd.returns (hb hby d9_10) hr
  · show Qmax Z p1 p2 h0 n0 _ s₁.heap _
    rw [e0]
    refine ⟨?_, N0, rfl⟩
    subst hu10s0
    simp only [fnmax]
/-! body 10: min -/
theorem d10_0 : decode jdk_29_method_69_code 0 = .ok (.iload_n 0, 1) := by decide +kernel
theorem d10_1 : decode jdk_29_method_69_code 1 = .ok (.iload_n 1, 1) := by decide +kernel
theorem d10_2 : decode jdk_29_method_69_code 2 = .ok (.if_icmp .gt 7, 3) := by decide +kernel
theorem d10_5 : decode jdk_29_method_69_code 5 = .ok (.iload_n 0, 1) := by decide +kernel
theorem d10_6 : decode jdk_29_method_69_code 6 = .ok (.goto 4, 3) := by decide +kernel
theorem d10_9 : decode jdk_29_method_69_code 9 = .ok (.iload_n 1, 1) := by decide +kernel
theorem d10_10 : decode jdk_29_method_69_code 10 = .ok (.ireturn, 1) := by decide +kernel
theorem efmin (m : MethodId) (p1 : Int32) (p2 : Int32) : entryFrame m #[(.int p1), (.int p2)] 2 = mkF m 0 #[.val (.int p1), .val (.int p2)] [] := by first | (simp [entryFrame, mkF, argsToLocals, Value.category]; done) | rfl
def fnmin (p1 : Int32) (p2 : Int32) : Int32 :=
  let u10s0 : Int32 := (if p2 < p1 then p2 else p1)
  u10s0
def Qmin (Z : State) (p1 : Int32) (p2 : Int32) (h0 : Heap) (n0 : Nat) (v : Option Value) (h : Heap) (L : List Loc) : Prop := v = some (.int (fnmin p1 p2)) ∧ Fr n0 L ∧ h = h0
set_option maxRecDepth 65536 in
set_option maxHeartbeats 40000000 in
theorem rmmin (l : Launch) (Z : State) (a0 : Array Value) (hw : ∀ d ∈ tables_1, d.before a0 Z = true) (ws : List Jvm.Cond) (p1 : Int32) (p2 : Int32) (h0 : Heap) (n0 : Nat) (Z0 : n0 ≤ h0.size) :
    MetFree l (⟨"java/lang/Math", "min", "(II)I"⟩ : MethodName) (head1 (Jvm.Cond.code (⟨"java/lang/Math", "min", "(II)I"⟩ : MethodName) jdk_29_method_69_code 2 (some .int) :: ws) ({ frames := 0, cells := 0, slots := 0, locals := 0 } : Room)) (fun a U => a = #[(.int p1), (.int p2)] ∧ Z.Warmed39 U.vm ∧ U.heap = h0) (fun _ _ _ _ _ => True) (fun _ U o U' => ∃ v L, o = .returned v ∧ Qmin Z p1 p2 h0 n0 v U'.heap L ∧ FrameEnd U o U' L ({ frames := 0, cells := 0, slots := 0, locals := 0 } : Room).cells ({ frames := 0, cells := 0, slots := 0, locals := 0 } : Room).slots) := by
  refine MetFree.of_bodySF (Jvm.Free.JP.mathPlain rfl (by decide +kernel)) hisR ?_
  intro p e s m args below meth c s₁ Bd hml0 hP hK
  obtain ⟨rfl, hZ, hh⟩ := hP
  have hx := Bd.exec
  have hby := Bd.bytes
  have hml : c.maxLocals = 2 := hml0
  have hown : s.vm.findClass "java/lang/Math" = some m.cls := findClass_of_methodNamed Bd.named
  have hnm := (name_of_methodNamed Bd.named Bd.method).1
  have X0 : Stand p l e ({ frames := 0, cells := 0, slots := 0, locals := 0 } : Room) s m #[(.int p1), (.int p2)] below meth c s₁ [] 0 0 := Stand.of_body Bd
  have e0 : s₁.heap = h0 := by rw [← hh, Bd.state]; rfl
  have N0 := Fr.nil n0
  have pre0 : ∀ t, Steps p.tables e below (s₁.setTop (mkF m 0 #[.val (.int p1), .val (.int p2)] [])) t → Steps p.tables e below (s₁.setTop (entryFrame m #[(.int p1), (.int p2)] 2)) t := fun t k => castTop (efmin m p1 p2) k
  obtain ⟨u10s0, hu10s0⟩ : ∃ z : Int32, z = (if p2 < p1 then p2 else p1) := ⟨_, rfl⟩
  have pre1 : ∀ t, Steps p.tables e below (s₁.setTop (mkF m 10 #[.val (.int p1), .val (.int p2)] [(.int u10s0)])) t → Steps p.tables e below (s₁.setTop (entryFrame m #[(.int p1), (.int p2)] 2)) t := by
    intro t k
    subst hu10s0
    refine pre0 t ?_
    show Steps p.tables e below (s₁.setTop (mkF m 0 #[.val (.int p1), .val (.int p2)] [])) _
    refine XS.iloadN X0.here hx rfl (hb hby d10_0) rfl ?_
    show Steps p.tables e below (s₁.setTop (mkF m 1 #[.val (.int p1), .val (.int p2)] [(.int p1)])) _
    refine XS.iloadN X0.here hx rfl (hb hby d10_1) rfl ?_
    show Steps p.tables e below (s₁.setTop (mkF m 2 #[.val (.int p1), .val (.int p2)] [(.int p2), (.int p1)])) _
    by_cases hb2 : p2 < p1
    · simp only [if_pos hb2] at k
      refine XS.icmpYes X0.here hx rfl (pc0 := 2) (pc' := 9) rfl (hb hby d10_2) rfl (tlt hb2).2.2.1 (by decide) (by decide) ?_
      show Steps p.tables e below (s₁.setTop (mkF m 9 #[.val (.int p1), .val (.int p2)] [])) _
      refine XS.iloadN X0.here hx rfl (hb hby d10_9) rfl ?_
      show Steps p.tables e below (s₁.setTop (mkF m 10 #[.val (.int p1), .val (.int p2)] [(.int p2)])) _
      exact k
    · simp only [if_neg hb2] at k
      refine XS.icmpNo X0.here hx rfl (hb hby d10_2) rfl (flt hb2).2.2.1 ?_
      show Steps p.tables e below (s₁.setTop (mkF m 5 #[.val (.int p1), .val (.int p2)] [])) _
      refine XS.iloadN X0.here hx rfl (hb hby d10_5) rfl ?_
      show Steps p.tables e below (s₁.setTop (mkF m 6 #[.val (.int p1), .val (.int p2)] [(.int p1)])) _
      refine XS.goto X0.here hx rfl (pc0 := 6) (pc' := 10) rfl (hb hby d10_6) (by decide) (by decide) ?_
      show Steps p.tables e below (s₁.setTop (mkF m 10 #[.val (.int p1), .val (.int p2)] [(.int p1)])) _
      exact k
  obtain ⟨fs, hr, hrun, hended, hW, hsame⟩ := X0.leave (v := some (.int u10s0)) (fun h => by rw [Bd.returns] at h; cases h)
  refine ⟨_, _, pre1 _ ?_, hrun, hended, _, _, rfl, ?_, ⟨_, rfl⟩, hW, hsame.mono (by decide) (by decide)⟩
  · show Steps p.tables e below (s₁.setTop (mkF m 10 #[.val (.int p1), .val (.int p2)] [(.int u10s0)])) _
    exact own_retI X0 hx Bd.returns (hb hby d10_10) hr
  · show Qmin Z p1 p2 h0 n0 _ s₁.heap _
    rw [e0]
    refine ⟨?_, N0, rfl⟩
    subst hu10s0
    simp only [fnmin]
/-! body 11: indexOfChar -/
theorem d11_0 : decode jdk_43_method_23_code 0 = .ok (.iload_n 1, 1) := by decide +kernel
theorem d11_1 : decode jdk_43_method_23_code 1 = .ok (.i2b, 1) := by decide +kernel
theorem d11_2 : decode jdk_43_method_23_code 2 = .ok (.istore 4, 2) := by decide +kernel
theorem d11_4 : decode jdk_43_method_23_code 4 = .ok (.iload_n 2, 1) := by decide +kernel
theorem d11_5 : decode jdk_43_method_23_code 5 = .ok (.istore 5, 2) := by decide +kernel
theorem d11_7 : decode jdk_43_method_23_code 7 = .ok (.iload 5, 2) := by decide +kernel
theorem d11_9 : decode jdk_43_method_23_code 9 = .ok (.iload_n 3, 1) := by decide +kernel
theorem d11_10 : decode jdk_43_method_23_code 10 = .ok (.if_icmp .ge 21, 3) := by decide +kernel
theorem d11_13 : decode jdk_43_method_23_code 13 = .ok (.aload_n 0, 1) := by decide +kernel
theorem d11_14 : decode jdk_43_method_23_code 14 = .ok (.iload 5, 2) := by decide +kernel
theorem d11_16 : decode jdk_43_method_23_code 16 = .ok (.baload, 1) := by decide +kernel
theorem d11_17 : decode jdk_43_method_23_code 17 = .ok (.iload 4, 2) := by decide +kernel
theorem d11_19 : decode jdk_43_method_23_code 19 = .ok (.if_icmp .ne 6, 3) := by decide +kernel
theorem d11_22 : decode jdk_43_method_23_code 22 = .ok (.iload 5, 2) := by decide +kernel
theorem d11_24 : decode jdk_43_method_23_code 24 = .ok (.ireturn, 1) := by decide +kernel
theorem d11_25 : decode jdk_43_method_23_code 25 = .ok (.iinc 5 1, 3) := by decide +kernel
theorem d11_28 : decode jdk_43_method_23_code 28 = .ok (.goto (-21), 3) := by decide +kernel
theorem d11_31 : decode jdk_43_method_23_code 31 = .ok (.iconst (-1), 1) := by decide +kernel
theorem d11_32 : decode jdk_43_method_23_code 32 = .ok (.ireturn, 1) := by decide +kernel
theorem pnioc : plainName "java/lang/StringLatin1" = true := by first | (simp [plainName, overriddenIn]; done) | decide +kernel
theorem efioc (m : MethodId) (a1 : Addr) (p2 : Int32) : entryFrame m #[(.ref a1), (.int p2), (.int (0 : Int32)), (.int (15 : Int32))] 6 = mkF m 0 #[.val (.ref a1), .val (.int p2), .val (.int (0 : Int32)), .val (.int (15 : Int32)), .unset, .unset] [] := by first | (simp [entryFrame, mkF, argsToLocals, Value.category]; done) | rfl
def fnioc (p2 : Int32) : Int32 :=
  let v2 : Int32 := (p2.toInt8.toInt32)
  if (33 : Int32) = v2 then
    (0 : Int32)
  else
    if (35 : Int32) = v2 then
      (1 : Int32)
    else
      if (36 : Int32) = v2 then
        (2 : Int32)
      else
        if (37 : Int32) = v2 then
          (3 : Int32)
        else
          if (38 : Int32) = v2 then
            (4 : Int32)
          else
            if (39 : Int32) = v2 then
              (5 : Int32)
            else
              if (42 : Int32) = v2 then
                (6 : Int32)
              else
                if (43 : Int32) = v2 then
                  (7 : Int32)
                else
                  if (45 : Int32) = v2 then
                    (8 : Int32)
                  else
                    if (46 : Int32) = v2 then
                      (9 : Int32)
                    else
                      if (94 : Int32) = v2 then
                        (10 : Int32)
                      else
                        if (95 : Int32) = v2 then
                          (11 : Int32)
                        else
                          if (96 : Int32) = v2 then
                            (12 : Int32)
                          else
                            if (124 : Int32) = v2 then
                              (13 : Int32)
                            else
                              if (126 : Int32) = v2 then
                                (14 : Int32)
                              else
                                (-1 : Int32)
def Qioc (Z : State) (a1 : Addr) (p2 : Int32) (h0 : Heap) (n0 : Nat) (v : Option Value) (h : Heap) (L : List Loc) : Prop := v = some (.int (fnioc p2)) ∧ Fr n0 L ∧ h = h0
set_option maxRecDepth 65536 in
set_option maxHeartbeats 40000000 in
theorem rmioc (l : Launch) (Z : State) (a0 : Array Value) (hw : ∀ d ∈ tables_1, d.before a0 Z = true) (ws : List Jvm.Cond) (a1 : Addr) (p2 : Int32) (h0 : Heap) (n0 : Nat) (Z0 : n0 ≤ h0.size) (A0 : own_AI Z h0 a1 .byte (15 : Int32) own_tab) :
    MetFree l (⟨"java/lang/StringLatin1", "indexOfChar", "([BIII)I"⟩ : MethodName) (head1 (Jvm.Cond.code (⟨"java/lang/StringLatin1", "indexOfChar", "([BIII)I"⟩ : MethodName) jdk_43_method_23_code 6 (some .int) :: ws) ({ frames := 0, cells := 0, slots := 0, locals := 0 } : Room)) (fun a U => a = #[(.ref a1), (.int p2), (.int (0 : Int32)), (.int (15 : Int32))] ∧ Z.Warmed39 U.vm ∧ U.heap = h0) (fun _ _ _ _ _ => True) (fun _ U o U' => ∃ v L, o = .returned v ∧ Qioc Z a1 p2 h0 n0 v U'.heap L ∧ FrameEnd U o U' L ({ frames := 0, cells := 0, slots := 0, locals := 0 } : Room).cells ({ frames := 0, cells := 0, slots := 0, locals := 0 } : Room).slots) := by
  refine MetFree.of_bodySF (plainFor_of_name pnioc) hisR ?_
  intro p e s m args below meth c s₁ Bd hml0 hP hK
  obtain ⟨rfl, hZ, hh⟩ := hP
  have hx := Bd.exec
  have hby := Bd.bytes
  have hml : c.maxLocals = 6 := hml0
  have hown : s.vm.findClass "java/lang/StringLatin1" = some m.cls := findClass_of_methodNamed Bd.named
  have hnm := (name_of_methodNamed Bd.named Bd.method).1
  have X0 : Stand p l e ({ frames := 0, cells := 0, slots := 0, locals := 0 } : Room) s m #[(.ref a1), (.int p2), (.int (0 : Int32)), (.int (15 : Int32))] below meth c s₁ [] 0 0 := Stand.of_body Bd
  have e0 : s₁.heap = h0 := by rw [← hh, Bd.state]; rfl
  have N0 := Fr.nil n0
  have pre0 : ∀ t, Steps p.tables e below (s₁.setTop (mkF m 0 #[.val (.ref a1), .val (.int p2), .val (.int (0 : Int32)), .val (.int (15 : Int32)), .unset, .unset] [])) t → Steps p.tables e below (s₁.setTop (entryFrame m #[(.ref a1), (.int p2), (.int (0 : Int32)), (.int (15 : Int32))] 6)) t := fun t k => castTop (efioc m a1 p2) k
  obtain ⟨v2, hv2⟩ : ∃ z : Int32, z = (p2.toInt8.toInt32) := ⟨_, rfl⟩
  have pre1 : ∀ t, Steps p.tables e below (s₁.setTop (mkF m 4 #[.val (.ref a1), .val (.int p2), .val (.int (0 : Int32)), .val (.int (15 : Int32)), .val (.int v2), .unset] [])) t → Steps p.tables e below (s₁.setTop (entryFrame m #[(.ref a1), (.int p2), (.int (0 : Int32)), (.int (15 : Int32))] 6)) t := by
    intro t k
    subst hv2
    refine pre0 t ?_
    show Steps p.tables e below (s₁.setTop (mkF m 0 #[.val (.ref a1), .val (.int p2), .val (.int (0 : Int32)), .val (.int (15 : Int32)), .unset, .unset] [])) _
    refine XS.iloadN X0.here hx rfl (hb hby d11_0) rfl ?_
    show Steps p.tables e below (s₁.setTop (mkF m 1 #[.val (.ref a1), .val (.int p2), .val (.int (0 : Int32)), .val (.int (15 : Int32)), .unset, .unset] [(.int p2)])) _
    refine XS.i2b X0.here hx rfl (hb hby d11_1) rfl ?_
    show Steps p.tables e below (s₁.setTop (mkF m 2 #[.val (.ref a1), .val (.int p2), .val (.int (0 : Int32)), .val (.int (15 : Int32)), .unset, .unset] [(.int (p2.toInt8.toInt32))])) _
    refine XS.istore X0.here hx rfl (hb hby d11_2) rfl (l' := #[.val (.ref a1), .val (.int p2), .val (.int (0 : Int32)), .val (.int (15 : Int32)), .val (.int (p2.toInt8.toInt32)), .unset]) rfl ?_
    show Steps p.tables e below (s₁.setTop (mkF m 4 #[.val (.ref a1), .val (.int p2), .val (.int (0 : Int32)), .val (.int (15 : Int32)), .val (.int (p2.toInt8.toInt32)), .unset] [])) _
    exact k
  have pre2 : ∀ t, Steps p.tables e below (s₁.setTop (mkF m 19 #[.val (.ref a1), .val (.int p2), .val (.int (0 : Int32)), .val (.int (15 : Int32)), .val (.int v2), .val (.int (0 : Int32))] [(.int v2), (.int (33 : Int32))])) t → Steps p.tables e below (s₁.setTop (entryFrame m #[(.ref a1), (.int p2), (.int (0 : Int32)), (.int (15 : Int32))] 6)) t := by
    intro t k
    refine pre1 t ?_
    refine XS.iloadN X0.here hx rfl (hb hby d11_4) rfl ?_
    show Steps p.tables e below (s₁.setTop (mkF m 5 #[.val (.ref a1), .val (.int p2), .val (.int (0 : Int32)), .val (.int (15 : Int32)), .val (.int v2), .unset] [(.int (0 : Int32))])) _
    refine XS.istore X0.here hx rfl (hb hby d11_5) rfl (l' := #[.val (.ref a1), .val (.int p2), .val (.int (0 : Int32)), .val (.int (15 : Int32)), .val (.int v2), .val (.int (0 : Int32))]) rfl ?_
    show Steps p.tables e below (s₁.setTop (mkF m 7 #[.val (.ref a1), .val (.int p2), .val (.int (0 : Int32)), .val (.int (15 : Int32)), .val (.int v2), .val (.int (0 : Int32))] [])) _
    refine XS.iload X0.here hx rfl (hb hby d11_7) rfl ?_
    show Steps p.tables e below (s₁.setTop (mkF m 9 #[.val (.ref a1), .val (.int p2), .val (.int (0 : Int32)), .val (.int (15 : Int32)), .val (.int v2), .val (.int (0 : Int32))] [(.int (0 : Int32))])) _
    refine XS.iloadN X0.here hx rfl (hb hby d11_9) rfl ?_
    show Steps p.tables e below (s₁.setTop (mkF m 10 #[.val (.ref a1), .val (.int p2), .val (.int (0 : Int32)), .val (.int (15 : Int32)), .val (.int v2), .val (.int (0 : Int32))] [(.int (15 : Int32)), (.int (0 : Int32))])) _
    refine XS.icmpNo X0.here hx rfl (hb hby d11_10) rfl (tlt (by decide : (0 : Int32) < (15 : Int32))).2.1 ?_
    show Steps p.tables e below (s₁.setTop (mkF m 13 #[.val (.ref a1), .val (.int p2), .val (.int (0 : Int32)), .val (.int (15 : Int32)), .val (.int v2), .val (.int (0 : Int32))] [])) _
    refine XS.aloadN X0.here hx rfl (hb hby d11_13) rfl rfl ?_
    show Steps p.tables e below (s₁.setTop (mkF m 14 #[.val (.ref a1), .val (.int p2), .val (.int (0 : Int32)), .val (.int (15 : Int32)), .val (.int v2), .val (.int (0 : Int32))] [(.ref a1)])) _
    refine XS.iload X0.here hx rfl (hb hby d11_14) rfl ?_
    show Steps p.tables e below (s₁.setTop (mkF m 16 #[.val (.ref a1), .val (.int p2), .val (.int (0 : Int32)), .val (.int (15 : Int32)), .val (.int v2), .val (.int (0 : Int32))] [(.int (0 : Int32)), (.ref a1)])) _
    refine own_ldB X0 hx hZ e0 A0 (by decide) (by decide) (g := (mkF m 16 #[.val (.ref a1), .val (.int p2), .val (.int (0 : Int32)), .val (.int (15 : Int32)), .val (.int v2), .val (.int (0 : Int32))] [(.int (0 : Int32)), (.ref a1)])) rfl rfl (hb hby d11_16) _ ?_
    show Steps p.tables e below (s₁.setTop (mkF m 17 #[.val (.ref a1), .val (.int p2), .val (.int (0 : Int32)), .val (.int (15 : Int32)), .val (.int v2), .val (.int (0 : Int32))] [(.int (33 : Int32))])) _
    refine XS.iload X0.here hx rfl (hb hby d11_17) rfl ?_
    show Steps p.tables e below (s₁.setTop (mkF m 19 #[.val (.ref a1), .val (.int p2), .val (.int (0 : Int32)), .val (.int (15 : Int32)), .val (.int v2), .val (.int (0 : Int32))] [(.int v2), (.int (33 : Int32))])) _
    exact k
  by_cases hc19 : (33 : Int32) = v2
  · have pre3 : ∀ t, Steps p.tables e below (s₁.setTop (mkF m 24 #[.val (.ref a1), .val (.int p2), .val (.int (0 : Int32)), .val (.int (15 : Int32)), .val (.int v2), .val (.int (0 : Int32))] [(.int (0 : Int32))])) t → Steps p.tables e below (s₁.setTop (entryFrame m #[(.ref a1), (.int p2), (.int (0 : Int32)), (.int (15 : Int32))] 6)) t := by
      intro t k
      refine pre2 t ?_
      refine XS.icmpNo X0.here hx rfl (hb hby d11_19) rfl (teq hc19).2 ?_
      show Steps p.tables e below (s₁.setTop (mkF m 22 #[.val (.ref a1), .val (.int p2), .val (.int (0 : Int32)), .val (.int (15 : Int32)), .val (.int v2), .val (.int (0 : Int32))] [])) _
      refine XS.iload X0.here hx rfl (hb hby d11_22) rfl ?_
      show Steps p.tables e below (s₁.setTop (mkF m 24 #[.val (.ref a1), .val (.int p2), .val (.int (0 : Int32)), .val (.int (15 : Int32)), .val (.int v2), .val (.int (0 : Int32))] [(.int (0 : Int32))])) _
      exact k
    obtain ⟨fs, hr, hrun, hended, hW, hsame⟩ := X0.leave (v := some (.int (0 : Int32))) (fun h => by rw [Bd.returns] at h; cases h)
    refine ⟨_, _, pre3 _ ?_, hrun, hended, _, _, rfl, ?_, ⟨_, rfl⟩, hW, hsame.mono (by decide) (by decide)⟩
    · show Steps p.tables e below (s₁.setTop (mkF m 24 #[.val (.ref a1), .val (.int p2), .val (.int (0 : Int32)), .val (.int (15 : Int32)), .val (.int v2), .val (.int (0 : Int32))] [(.int (0 : Int32))])) _
      exact own_retI X0 hx Bd.returns (hb hby d11_24) hr
    · show Qioc Z a1 p2 h0 n0 _ s₁.heap _
      rw [e0]
      refine ⟨?_, N0, rfl⟩
      subst hv2
      simp only [fnioc, if_pos hc19]
  · have pre4 : ∀ t, Steps p.tables e below (s₁.setTop (mkF m 19 #[.val (.ref a1), .val (.int p2), .val (.int (0 : Int32)), .val (.int (15 : Int32)), .val (.int v2), .val (.int (1 : Int32))] [(.int v2), (.int (35 : Int32))])) t → Steps p.tables e below (s₁.setTop (entryFrame m #[(.ref a1), (.int p2), (.int (0 : Int32)), (.int (15 : Int32))] 6)) t := by
      intro t k
      refine pre2 t ?_
      refine XS.icmpYes X0.here hx rfl (pc0 := 19) (pc' := 25) rfl (hb hby d11_19) rfl (feq hc19).2 (by decide) (by decide) ?_
      show Steps p.tables e below (s₁.setTop (mkF m 25 #[.val (.ref a1), .val (.int p2), .val (.int (0 : Int32)), .val (.int (15 : Int32)), .val (.int v2), .val (.int (0 : Int32))] [])) _
      refine XS.iinc X0.here hx rfl (hb hby d11_25) rfl (l' := #[.val (.ref a1), .val (.int p2), .val (.int (0 : Int32)), .val (.int (15 : Int32)), .val (.int v2), .val (.int (1 : Int32))]) rfl ?_
      show Steps p.tables e below (s₁.setTop (mkF m 28 #[.val (.ref a1), .val (.int p2), .val (.int (0 : Int32)), .val (.int (15 : Int32)), .val (.int v2), .val (.int (1 : Int32))] [])) _
      refine XS.goto X0.here hx rfl (pc0 := 28) (pc' := 7) rfl (hb hby d11_28) (by decide) (by decide) ?_
      show Steps p.tables e below (s₁.setTop (mkF m 7 #[.val (.ref a1), .val (.int p2), .val (.int (0 : Int32)), .val (.int (15 : Int32)), .val (.int v2), .val (.int (1 : Int32))] [])) _
      refine XS.iload X0.here hx rfl (hb hby d11_7) rfl ?_
      show Steps p.tables e below (s₁.setTop (mkF m 9 #[.val (.ref a1), .val (.int p2), .val (.int (0 : Int32)), .val (.int (15 : Int32)), .val (.int v2), .val (.int (1 : Int32))] [(.int (1 : Int32))])) _
      refine XS.iloadN X0.here hx rfl (hb hby d11_9) rfl ?_
      show Steps p.tables e below (s₁.setTop (mkF m 10 #[.val (.ref a1), .val (.int p2), .val (.int (0 : Int32)), .val (.int (15 : Int32)), .val (.int v2), .val (.int (1 : Int32))] [(.int (15 : Int32)), (.int (1 : Int32))])) _
      refine XS.icmpNo X0.here hx rfl (hb hby d11_10) rfl (tlt (by decide : (1 : Int32) < (15 : Int32))).2.1 ?_
      show Steps p.tables e below (s₁.setTop (mkF m 13 #[.val (.ref a1), .val (.int p2), .val (.int (0 : Int32)), .val (.int (15 : Int32)), .val (.int v2), .val (.int (1 : Int32))] [])) _
      refine XS.aloadN X0.here hx rfl (hb hby d11_13) rfl rfl ?_
      show Steps p.tables e below (s₁.setTop (mkF m 14 #[.val (.ref a1), .val (.int p2), .val (.int (0 : Int32)), .val (.int (15 : Int32)), .val (.int v2), .val (.int (1 : Int32))] [(.ref a1)])) _
      refine XS.iload X0.here hx rfl (hb hby d11_14) rfl ?_
      show Steps p.tables e below (s₁.setTop (mkF m 16 #[.val (.ref a1), .val (.int p2), .val (.int (0 : Int32)), .val (.int (15 : Int32)), .val (.int v2), .val (.int (1 : Int32))] [(.int (1 : Int32)), (.ref a1)])) _
      refine own_ldB X0 hx hZ e0 A0 (by decide) (by decide) (g := (mkF m 16 #[.val (.ref a1), .val (.int p2), .val (.int (0 : Int32)), .val (.int (15 : Int32)), .val (.int v2), .val (.int (1 : Int32))] [(.int (1 : Int32)), (.ref a1)])) rfl rfl (hb hby d11_16) _ ?_
      show Steps p.tables e below (s₁.setTop (mkF m 17 #[.val (.ref a1), .val (.int p2), .val (.int (0 : Int32)), .val (.int (15 : Int32)), .val (.int v2), .val (.int (1 : Int32))] [(.int (35 : Int32))])) _
      refine XS.iload X0.here hx rfl (hb hby d11_17) rfl ?_
      show Steps p.tables e below (s₁.setTop (mkF m 19 #[.val (.ref a1), .val (.int p2), .val (.int (0 : Int32)), .val (.int (15 : Int32)), .val (.int v2), .val (.int (1 : Int32))] [(.int v2), (.int (35 : Int32))])) _
      exact k
    by_cases hc19_1 : (35 : Int32) = v2
    · have pre5 : ∀ t, Steps p.tables e below (s₁.setTop (mkF m 24 #[.val (.ref a1), .val (.int p2), .val (.int (0 : Int32)), .val (.int (15 : Int32)), .val (.int v2), .val (.int (1 : Int32))] [(.int (1 : Int32))])) t → Steps p.tables e below (s₁.setTop (entryFrame m #[(.ref a1), (.int p2), (.int (0 : Int32)), (.int (15 : Int32))] 6)) t := by
        intro t k
        refine pre4 t ?_
        refine XS.icmpNo X0.here hx rfl (hb hby d11_19) rfl (teq hc19_1).2 ?_
        show Steps p.tables e below (s₁.setTop (mkF m 22 #[.val (.ref a1), .val (.int p2), .val (.int (0 : Int32)), .val (.int (15 : Int32)), .val (.int v2), .val (.int (1 : Int32))] [])) _
        refine XS.iload X0.here hx rfl (hb hby d11_22) rfl ?_
        show Steps p.tables e below (s₁.setTop (mkF m 24 #[.val (.ref a1), .val (.int p2), .val (.int (0 : Int32)), .val (.int (15 : Int32)), .val (.int v2), .val (.int (1 : Int32))] [(.int (1 : Int32))])) _
        exact k
      obtain ⟨fs, hr, hrun, hended, hW, hsame⟩ := X0.leave (v := some (.int (1 : Int32))) (fun h => by rw [Bd.returns] at h; cases h)
      refine ⟨_, _, pre5 _ ?_, hrun, hended, _, _, rfl, ?_, ⟨_, rfl⟩, hW, hsame.mono (by decide) (by decide)⟩
      · show Steps p.tables e below (s₁.setTop (mkF m 24 #[.val (.ref a1), .val (.int p2), .val (.int (0 : Int32)), .val (.int (15 : Int32)), .val (.int v2), .val (.int (1 : Int32))] [(.int (1 : Int32))])) _
        exact own_retI X0 hx Bd.returns (hb hby d11_24) hr
      · show Qioc Z a1 p2 h0 n0 _ s₁.heap _
        rw [e0]
        refine ⟨?_, N0, rfl⟩
        subst hv2
        simp only [fnioc, if_neg hc19, if_pos hc19_1]
    · have pre6 : ∀ t, Steps p.tables e below (s₁.setTop (mkF m 19 #[.val (.ref a1), .val (.int p2), .val (.int (0 : Int32)), .val (.int (15 : Int32)), .val (.int v2), .val (.int (2 : Int32))] [(.int v2), (.int (36 : Int32))])) t → Steps p.tables e below (s₁.setTop (entryFrame m #[(.ref a1), (.int p2), (.int (0 : Int32)), (.int (15 : Int32))] 6)) t := by
        intro t k
        refine pre4 t ?_
        refine XS.icmpYes X0.here hx rfl (pc0 := 19) (pc' := 25) rfl (hb hby d11_19) rfl (feq hc19_1).2 (by decide) (by decide) ?_
        show Steps p.tables e below (s₁.setTop (mkF m 25 #[.val (.ref a1), .val (.int p2), .val (.int (0 : Int32)), .val (.int (15 : Int32)), .val (.int v2), .val (.int (1 : Int32))] [])) _
        refine XS.iinc X0.here hx rfl (hb hby d11_25) rfl (l' := #[.val (.ref a1), .val (.int p2), .val (.int (0 : Int32)), .val (.int (15 : Int32)), .val (.int v2), .val (.int (2 : Int32))]) rfl ?_
        show Steps p.tables e below (s₁.setTop (mkF m 28 #[.val (.ref a1), .val (.int p2), .val (.int (0 : Int32)), .val (.int (15 : Int32)), .val (.int v2), .val (.int (2 : Int32))] [])) _
        refine XS.goto X0.here hx rfl (pc0 := 28) (pc' := 7) rfl (hb hby d11_28) (by decide) (by decide) ?_
        show Steps p.tables e below (s₁.setTop (mkF m 7 #[.val (.ref a1), .val (.int p2), .val (.int (0 : Int32)), .val (.int (15 : Int32)), .val (.int v2), .val (.int (2 : Int32))] [])) _
        refine XS.iload X0.here hx rfl (hb hby d11_7) rfl ?_
        show Steps p.tables e below (s₁.setTop (mkF m 9 #[.val (.ref a1), .val (.int p2), .val (.int (0 : Int32)), .val (.int (15 : Int32)), .val (.int v2), .val (.int (2 : Int32))] [(.int (2 : Int32))])) _
        refine XS.iloadN X0.here hx rfl (hb hby d11_9) rfl ?_
        show Steps p.tables e below (s₁.setTop (mkF m 10 #[.val (.ref a1), .val (.int p2), .val (.int (0 : Int32)), .val (.int (15 : Int32)), .val (.int v2), .val (.int (2 : Int32))] [(.int (15 : Int32)), (.int (2 : Int32))])) _
        refine XS.icmpNo X0.here hx rfl (hb hby d11_10) rfl (tlt (by decide : (2 : Int32) < (15 : Int32))).2.1 ?_
        show Steps p.tables e below (s₁.setTop (mkF m 13 #[.val (.ref a1), .val (.int p2), .val (.int (0 : Int32)), .val (.int (15 : Int32)), .val (.int v2), .val (.int (2 : Int32))] [])) _
        refine XS.aloadN X0.here hx rfl (hb hby d11_13) rfl rfl ?_
        show Steps p.tables e below (s₁.setTop (mkF m 14 #[.val (.ref a1), .val (.int p2), .val (.int (0 : Int32)), .val (.int (15 : Int32)), .val (.int v2), .val (.int (2 : Int32))] [(.ref a1)])) _
        refine XS.iload X0.here hx rfl (hb hby d11_14) rfl ?_
        show Steps p.tables e below (s₁.setTop (mkF m 16 #[.val (.ref a1), .val (.int p2), .val (.int (0 : Int32)), .val (.int (15 : Int32)), .val (.int v2), .val (.int (2 : Int32))] [(.int (2 : Int32)), (.ref a1)])) _
        refine own_ldB X0 hx hZ e0 A0 (by decide) (by decide) (g := (mkF m 16 #[.val (.ref a1), .val (.int p2), .val (.int (0 : Int32)), .val (.int (15 : Int32)), .val (.int v2), .val (.int (2 : Int32))] [(.int (2 : Int32)), (.ref a1)])) rfl rfl (hb hby d11_16) _ ?_
        show Steps p.tables e below (s₁.setTop (mkF m 17 #[.val (.ref a1), .val (.int p2), .val (.int (0 : Int32)), .val (.int (15 : Int32)), .val (.int v2), .val (.int (2 : Int32))] [(.int (36 : Int32))])) _
        refine XS.iload X0.here hx rfl (hb hby d11_17) rfl ?_
        show Steps p.tables e below (s₁.setTop (mkF m 19 #[.val (.ref a1), .val (.int p2), .val (.int (0 : Int32)), .val (.int (15 : Int32)), .val (.int v2), .val (.int (2 : Int32))] [(.int v2), (.int (36 : Int32))])) _
        exact k
      by_cases hc19_2 : (36 : Int32) = v2
      · have pre7 : ∀ t, Steps p.tables e below (s₁.setTop (mkF m 24 #[.val (.ref a1), .val (.int p2), .val (.int (0 : Int32)), .val (.int (15 : Int32)), .val (.int v2), .val (.int (2 : Int32))] [(.int (2 : Int32))])) t → Steps p.tables e below (s₁.setTop (entryFrame m #[(.ref a1), (.int p2), (.int (0 : Int32)), (.int (15 : Int32))] 6)) t := by
          intro t k
          refine pre6 t ?_
          refine XS.icmpNo X0.here hx rfl (hb hby d11_19) rfl (teq hc19_2).2 ?_
          show Steps p.tables e below (s₁.setTop (mkF m 22 #[.val (.ref a1), .val (.int p2), .val (.int (0 : Int32)), .val (.int (15 : Int32)), .val (.int v2), .val (.int (2 : Int32))] [])) _
          refine XS.iload X0.here hx rfl (hb hby d11_22) rfl ?_
          show Steps p.tables e below (s₁.setTop (mkF m 24 #[.val (.ref a1), .val (.int p2), .val (.int (0 : Int32)), .val (.int (15 : Int32)), .val (.int v2), .val (.int (2 : Int32))] [(.int (2 : Int32))])) _
          exact k
        obtain ⟨fs, hr, hrun, hended, hW, hsame⟩ := X0.leave (v := some (.int (2 : Int32))) (fun h => by rw [Bd.returns] at h; cases h)
        refine ⟨_, _, pre7 _ ?_, hrun, hended, _, _, rfl, ?_, ⟨_, rfl⟩, hW, hsame.mono (by decide) (by decide)⟩
        · show Steps p.tables e below (s₁.setTop (mkF m 24 #[.val (.ref a1), .val (.int p2), .val (.int (0 : Int32)), .val (.int (15 : Int32)), .val (.int v2), .val (.int (2 : Int32))] [(.int (2 : Int32))])) _
          exact own_retI X0 hx Bd.returns (hb hby d11_24) hr
        · show Qioc Z a1 p2 h0 n0 _ s₁.heap _
          rw [e0]
          refine ⟨?_, N0, rfl⟩
          subst hv2
          simp only [fnioc, if_neg hc19, if_neg hc19_1, if_pos hc19_2]
      · have pre8 : ∀ t, Steps p.tables e below (s₁.setTop (mkF m 19 #[.val (.ref a1), .val (.int p2), .val (.int (0 : Int32)), .val (.int (15 : Int32)), .val (.int v2), .val (.int (3 : Int32))] [(.int v2), (.int (37 : Int32))])) t → Steps p.tables e below (s₁.setTop (entryFrame m #[(.ref a1), (.int p2), (.int (0 : Int32)), (.int (15 : Int32))] 6)) t := by
          intro t k
          refine pre6 t ?_
          refine XS.icmpYes X0.here hx rfl (pc0 := 19) (pc' := 25) rfl (hb hby d11_19) rfl (feq hc19_2).2 (by decide) (by decide) ?_
          show Steps p.tables e below (s₁.setTop (mkF m 25 #[.val (.ref a1), .val (.int p2), .val (.int (0 : Int32)), .val (.int (15 : Int32)), .val (.int v2), .val (.int (2 : Int32))] [])) _
          refine XS.iinc X0.here hx rfl (hb hby d11_25) rfl (l' := #[.val (.ref a1), .val (.int p2), .val (.int (0 : Int32)), .val (.int (15 : Int32)), .val (.int v2), .val (.int (3 : Int32))]) rfl ?_
          show Steps p.tables e below (s₁.setTop (mkF m 28 #[.val (.ref a1), .val (.int p2), .val (.int (0 : Int32)), .val (.int (15 : Int32)), .val (.int v2), .val (.int (3 : Int32))] [])) _
          refine XS.goto X0.here hx rfl (pc0 := 28) (pc' := 7) rfl (hb hby d11_28) (by decide) (by decide) ?_
          show Steps p.tables e below (s₁.setTop (mkF m 7 #[.val (.ref a1), .val (.int p2), .val (.int (0 : Int32)), .val (.int (15 : Int32)), .val (.int v2), .val (.int (3 : Int32))] [])) _
          refine XS.iload X0.here hx rfl (hb hby d11_7) rfl ?_
          show Steps p.tables e below (s₁.setTop (mkF m 9 #[.val (.ref a1), .val (.int p2), .val (.int (0 : Int32)), .val (.int (15 : Int32)), .val (.int v2), .val (.int (3 : Int32))] [(.int (3 : Int32))])) _
          refine XS.iloadN X0.here hx rfl (hb hby d11_9) rfl ?_
          show Steps p.tables e below (s₁.setTop (mkF m 10 #[.val (.ref a1), .val (.int p2), .val (.int (0 : Int32)), .val (.int (15 : Int32)), .val (.int v2), .val (.int (3 : Int32))] [(.int (15 : Int32)), (.int (3 : Int32))])) _
          refine XS.icmpNo X0.here hx rfl (hb hby d11_10) rfl (tlt (by decide : (3 : Int32) < (15 : Int32))).2.1 ?_
          show Steps p.tables e below (s₁.setTop (mkF m 13 #[.val (.ref a1), .val (.int p2), .val (.int (0 : Int32)), .val (.int (15 : Int32)), .val (.int v2), .val (.int (3 : Int32))] [])) _
          refine XS.aloadN X0.here hx rfl (hb hby d11_13) rfl rfl ?_
          show Steps p.tables e below (s₁.setTop (mkF m 14 #[.val (.ref a1), .val (.int p2), .val (.int (0 : Int32)), .val (.int (15 : Int32)), .val (.int v2), .val (.int (3 : Int32))] [(.ref a1)])) _
          refine XS.iload X0.here hx rfl (hb hby d11_14) rfl ?_
          show Steps p.tables e below (s₁.setTop (mkF m 16 #[.val (.ref a1), .val (.int p2), .val (.int (0 : Int32)), .val (.int (15 : Int32)), .val (.int v2), .val (.int (3 : Int32))] [(.int (3 : Int32)), (.ref a1)])) _
          refine own_ldB X0 hx hZ e0 A0 (by decide) (by decide) (g := (mkF m 16 #[.val (.ref a1), .val (.int p2), .val (.int (0 : Int32)), .val (.int (15 : Int32)), .val (.int v2), .val (.int (3 : Int32))] [(.int (3 : Int32)), (.ref a1)])) rfl rfl (hb hby d11_16) _ ?_
          show Steps p.tables e below (s₁.setTop (mkF m 17 #[.val (.ref a1), .val (.int p2), .val (.int (0 : Int32)), .val (.int (15 : Int32)), .val (.int v2), .val (.int (3 : Int32))] [(.int (37 : Int32))])) _
          refine XS.iload X0.here hx rfl (hb hby d11_17) rfl ?_
          show Steps p.tables e below (s₁.setTop (mkF m 19 #[.val (.ref a1), .val (.int p2), .val (.int (0 : Int32)), .val (.int (15 : Int32)), .val (.int v2), .val (.int (3 : Int32))] [(.int v2), (.int (37 : Int32))])) _
          exact k
        by_cases hc19_3 : (37 : Int32) = v2
        · have pre9 : ∀ t, Steps p.tables e below (s₁.setTop (mkF m 24 #[.val (.ref a1), .val (.int p2), .val (.int (0 : Int32)), .val (.int (15 : Int32)), .val (.int v2), .val (.int (3 : Int32))] [(.int (3 : Int32))])) t → Steps p.tables e below (s₁.setTop (entryFrame m #[(.ref a1), (.int p2), (.int (0 : Int32)), (.int (15 : Int32))] 6)) t := by
            intro t k
            refine pre8 t ?_
            refine XS.icmpNo X0.here hx rfl (hb hby d11_19) rfl (teq hc19_3).2 ?_
            show Steps p.tables e below (s₁.setTop (mkF m 22 #[.val (.ref a1), .val (.int p2), .val (.int (0 : Int32)), .val (.int (15 : Int32)), .val (.int v2), .val (.int (3 : Int32))] [])) _
            refine XS.iload X0.here hx rfl (hb hby d11_22) rfl ?_
            show Steps p.tables e below (s₁.setTop (mkF m 24 #[.val (.ref a1), .val (.int p2), .val (.int (0 : Int32)), .val (.int (15 : Int32)), .val (.int v2), .val (.int (3 : Int32))] [(.int (3 : Int32))])) _
            exact k
          obtain ⟨fs, hr, hrun, hended, hW, hsame⟩ := X0.leave (v := some (.int (3 : Int32))) (fun h => by rw [Bd.returns] at h; cases h)
          refine ⟨_, _, pre9 _ ?_, hrun, hended, _, _, rfl, ?_, ⟨_, rfl⟩, hW, hsame.mono (by decide) (by decide)⟩
          · show Steps p.tables e below (s₁.setTop (mkF m 24 #[.val (.ref a1), .val (.int p2), .val (.int (0 : Int32)), .val (.int (15 : Int32)), .val (.int v2), .val (.int (3 : Int32))] [(.int (3 : Int32))])) _
            exact own_retI X0 hx Bd.returns (hb hby d11_24) hr
          · show Qioc Z a1 p2 h0 n0 _ s₁.heap _
            rw [e0]
            refine ⟨?_, N0, rfl⟩
            subst hv2
            simp only [fnioc, if_neg hc19, if_neg hc19_1, if_neg hc19_2, if_pos hc19_3]
        · have pre10 : ∀ t, Steps p.tables e below (s₁.setTop (mkF m 19 #[.val (.ref a1), .val (.int p2), .val (.int (0 : Int32)), .val (.int (15 : Int32)), .val (.int v2), .val (.int (4 : Int32))] [(.int v2), (.int (38 : Int32))])) t → Steps p.tables e below (s₁.setTop (entryFrame m #[(.ref a1), (.int p2), (.int (0 : Int32)), (.int (15 : Int32))] 6)) t := by
            intro t k
            refine pre8 t ?_
            refine XS.icmpYes X0.here hx rfl (pc0 := 19) (pc' := 25) rfl (hb hby d11_19) rfl (feq hc19_3).2 (by decide) (by decide) ?_
            show Steps p.tables e below (s₁.setTop (mkF m 25 #[.val (.ref a1), .val (.int p2), .val (.int (0 : Int32)), .val (.int (15 : Int32)), .val (.int v2), .val (.int (3 : Int32))] [])) _
            refine XS.iinc X0.here hx rfl (hb hby d11_25) rfl (l' := #[.val (.ref a1), .val (.int p2), .val (.int (0 : Int32)), .val (.int (15 : Int32)), .val (.int v2), .val (.int (4 : Int32))]) rfl ?_
            show Steps p.tables e below (s₁.setTop (mkF m 28 #[.val (.ref a1), .val (.int p2), .val (.int (0 : Int32)), .val (.int (15 : Int32)), .val (.int v2), .val (.int (4 : Int32))] [])) _
            refine XS.goto X0.here hx rfl (pc0 := 28) (pc' := 7) rfl (hb hby d11_28) (by decide) (by decide) ?_
            show Steps p.tables e below (s₁.setTop (mkF m 7 #[.val (.ref a1), .val (.int p2), .val (.int (0 : Int32)), .val (.int (15 : Int32)), .val (.int v2), .val (.int (4 : Int32))] [])) _
            refine XS.iload X0.here hx rfl (hb hby d11_7) rfl ?_
            show Steps p.tables e below (s₁.setTop (mkF m 9 #[.val (.ref a1), .val (.int p2), .val (.int (0 : Int32)), .val (.int (15 : Int32)), .val (.int v2), .val (.int (4 : Int32))] [(.int (4 : Int32))])) _
            refine XS.iloadN X0.here hx rfl (hb hby d11_9) rfl ?_
            show Steps p.tables e below (s₁.setTop (mkF m 10 #[.val (.ref a1), .val (.int p2), .val (.int (0 : Int32)), .val (.int (15 : Int32)), .val (.int v2), .val (.int (4 : Int32))] [(.int (15 : Int32)), (.int (4 : Int32))])) _
            refine XS.icmpNo X0.here hx rfl (hb hby d11_10) rfl (tlt (by decide : (4 : Int32) < (15 : Int32))).2.1 ?_
            show Steps p.tables e below (s₁.setTop (mkF m 13 #[.val (.ref a1), .val (.int p2), .val (.int (0 : Int32)), .val (.int (15 : Int32)), .val (.int v2), .val (.int (4 : Int32))] [])) _
            refine XS.aloadN X0.here hx rfl (hb hby d11_13) rfl rfl ?_
            show Steps p.tables e below (s₁.setTop (mkF m 14 #[.val (.ref a1), .val (.int p2), .val (.int (0 : Int32)), .val (.int (15 : Int32)), .val (.int v2), .val (.int (4 : Int32))] [(.ref a1)])) _
            refine XS.iload X0.here hx rfl (hb hby d11_14) rfl ?_
            show Steps p.tables e below (s₁.setTop (mkF m 16 #[.val (.ref a1), .val (.int p2), .val (.int (0 : Int32)), .val (.int (15 : Int32)), .val (.int v2), .val (.int (4 : Int32))] [(.int (4 : Int32)), (.ref a1)])) _
            refine own_ldB X0 hx hZ e0 A0 (by decide) (by decide) (g := (mkF m 16 #[.val (.ref a1), .val (.int p2), .val (.int (0 : Int32)), .val (.int (15 : Int32)), .val (.int v2), .val (.int (4 : Int32))] [(.int (4 : Int32)), (.ref a1)])) rfl rfl (hb hby d11_16) _ ?_
            show Steps p.tables e below (s₁.setTop (mkF m 17 #[.val (.ref a1), .val (.int p2), .val (.int (0 : Int32)), .val (.int (15 : Int32)), .val (.int v2), .val (.int (4 : Int32))] [(.int (38 : Int32))])) _
            refine XS.iload X0.here hx rfl (hb hby d11_17) rfl ?_
            show Steps p.tables e below (s₁.setTop (mkF m 19 #[.val (.ref a1), .val (.int p2), .val (.int (0 : Int32)), .val (.int (15 : Int32)), .val (.int v2), .val (.int (4 : Int32))] [(.int v2), (.int (38 : Int32))])) _
            exact k
          by_cases hc19_4 : (38 : Int32) = v2
          · have pre11 : ∀ t, Steps p.tables e below (s₁.setTop (mkF m 24 #[.val (.ref a1), .val (.int p2), .val (.int (0 : Int32)), .val (.int (15 : Int32)), .val (.int v2), .val (.int (4 : Int32))] [(.int (4 : Int32))])) t → Steps p.tables e below (s₁.setTop (entryFrame m #[(.ref a1), (.int p2), (.int (0 : Int32)), (.int (15 : Int32))] 6)) t := by
              intro t k
              refine pre10 t ?_
              refine XS.icmpNo X0.here hx rfl (hb hby d11_19) rfl (teq hc19_4).2 ?_
              show Steps p.tables e below (s₁.setTop (mkF m 22 #[.val (.ref a1), .val (.int p2), .val (.int (0 : Int32)), .val (.int (15 : Int32)), .val (.int v2), .val (.int (4 : Int32))] [])) _
              refine XS.iload X0.here hx rfl (hb hby d11_22) rfl ?_
              show Steps p.tables e below (s₁.setTop (mkF m 24 #[.val (.ref a1), .val (.int p2), .val (.int (0 : Int32)), .val (.int (15 : Int32)), .val (.int v2), .val (.int (4 : Int32))] [(.int (4 : Int32))])) _
              exact k
            obtain ⟨fs, hr, hrun, hended, hW, hsame⟩ := X0.leave (v := some (.int (4 : Int32))) (fun h => by rw [Bd.returns] at h; cases h)
            refine ⟨_, _, pre11 _ ?_, hrun, hended, _, _, rfl, ?_, ⟨_, rfl⟩, hW, hsame.mono (by decide) (by decide)⟩
            · show Steps p.tables e below (s₁.setTop (mkF m 24 #[.val (.ref a1), .val (.int p2), .val (.int (0 : Int32)), .val (.int (15 : Int32)), .val (.int v2), .val (.int (4 : Int32))] [(.int (4 : Int32))])) _
              exact own_retI X0 hx Bd.returns (hb hby d11_24) hr
            · show Qioc Z a1 p2 h0 n0 _ s₁.heap _
              rw [e0]
              refine ⟨?_, N0, rfl⟩
              subst hv2
              simp only [fnioc, if_neg hc19, if_neg hc19_1, if_neg hc19_2, if_neg hc19_3, if_pos hc19_4]
          · have pre12 : ∀ t, Steps p.tables e below (s₁.setTop (mkF m 19 #[.val (.ref a1), .val (.int p2), .val (.int (0 : Int32)), .val (.int (15 : Int32)), .val (.int v2), .val (.int (5 : Int32))] [(.int v2), (.int (39 : Int32))])) t → Steps p.tables e below (s₁.setTop (entryFrame m #[(.ref a1), (.int p2), (.int (0 : Int32)), (.int (15 : Int32))] 6)) t := by
              intro t k
              refine pre10 t ?_
              refine XS.icmpYes X0.here hx rfl (pc0 := 19) (pc' := 25) rfl (hb hby d11_19) rfl (feq hc19_4).2 (by decide) (by decide) ?_
              show Steps p.tables e below (s₁.setTop (mkF m 25 #[.val (.ref a1), .val (.int p2), .val (.int (0 : Int32)), .val (.int (15 : Int32)), .val (.int v2), .val (.int (4 : Int32))] [])) _
              refine XS.iinc X0.here hx rfl (hb hby d11_25) rfl (l' := #[.val (.ref a1), .val (.int p2), .val (.int (0 : Int32)), .val (.int (15 : Int32)), .val (.int v2), .val (.int (5 : Int32))]) rfl ?_
              show Steps p.tables e below (s₁.setTop (mkF m 28 #[.val (.ref a1), .val (.int p2), .val (.int (0 : Int32)), .val (.int (15 : Int32)), .val (.int v2), .val (.int (5 : Int32))] [])) _
              refine XS.goto X0.here hx rfl (pc0 := 28) (pc' := 7) rfl (hb hby d11_28) (by decide) (by decide) ?_
              show Steps p.tables e below (s₁.setTop (mkF m 7 #[.val (.ref a1), .val (.int p2), .val (.int (0 : Int32)), .val (.int (15 : Int32)), .val (.int v2), .val (.int (5 : Int32))] [])) _
              refine XS.iload X0.here hx rfl (hb hby d11_7) rfl ?_
              show Steps p.tables e below (s₁.setTop (mkF m 9 #[.val (.ref a1), .val (.int p2), .val (.int (0 : Int32)), .val (.int (15 : Int32)), .val (.int v2), .val (.int (5 : Int32))] [(.int (5 : Int32))])) _
              refine XS.iloadN X0.here hx rfl (hb hby d11_9) rfl ?_
              show Steps p.tables e below (s₁.setTop (mkF m 10 #[.val (.ref a1), .val (.int p2), .val (.int (0 : Int32)), .val (.int (15 : Int32)), .val (.int v2), .val (.int (5 : Int32))] [(.int (15 : Int32)), (.int (5 : Int32))])) _
              refine XS.icmpNo X0.here hx rfl (hb hby d11_10) rfl (tlt (by decide : (5 : Int32) < (15 : Int32))).2.1 ?_
              show Steps p.tables e below (s₁.setTop (mkF m 13 #[.val (.ref a1), .val (.int p2), .val (.int (0 : Int32)), .val (.int (15 : Int32)), .val (.int v2), .val (.int (5 : Int32))] [])) _
              refine XS.aloadN X0.here hx rfl (hb hby d11_13) rfl rfl ?_
              show Steps p.tables e below (s₁.setTop (mkF m 14 #[.val (.ref a1), .val (.int p2), .val (.int (0 : Int32)), .val (.int (15 : Int32)), .val (.int v2), .val (.int (5 : Int32))] [(.ref a1)])) _
              refine XS.iload X0.here hx rfl (hb hby d11_14) rfl ?_
              show Steps p.tables e below (s₁.setTop (mkF m 16 #[.val (.ref a1), .val (.int p2), .val (.int (0 : Int32)), .val (.int (15 : Int32)), .val (.int v2), .val (.int (5 : Int32))] [(.int (5 : Int32)), (.ref a1)])) _
              refine own_ldB X0 hx hZ e0 A0 (by decide) (by decide) (g := (mkF m 16 #[.val (.ref a1), .val (.int p2), .val (.int (0 : Int32)), .val (.int (15 : Int32)), .val (.int v2), .val (.int (5 : Int32))] [(.int (5 : Int32)), (.ref a1)])) rfl rfl (hb hby d11_16) _ ?_
              show Steps p.tables e below (s₁.setTop (mkF m 17 #[.val (.ref a1), .val (.int p2), .val (.int (0 : Int32)), .val (.int (15 : Int32)), .val (.int v2), .val (.int (5 : Int32))] [(.int (39 : Int32))])) _
              refine XS.iload X0.here hx rfl (hb hby d11_17) rfl ?_
              show Steps p.tables e below (s₁.setTop (mkF m 19 #[.val (.ref a1), .val (.int p2), .val (.int (0 : Int32)), .val (.int (15 : Int32)), .val (.int v2), .val (.int (5 : Int32))] [(.int v2), (.int (39 : Int32))])) _
              exact k
            by_cases hc19_5 : (39 : Int32) = v2
            · have pre13 : ∀ t, Steps p.tables e below (s₁.setTop (mkF m 24 #[.val (.ref a1), .val (.int p2), .val (.int (0 : Int32)), .val (.int (15 : Int32)), .val (.int v2), .val (.int (5 : Int32))] [(.int (5 : Int32))])) t → Steps p.tables e below (s₁.setTop (entryFrame m #[(.ref a1), (.int p2), (.int (0 : Int32)), (.int (15 : Int32))] 6)) t := by
                intro t k
                refine pre12 t ?_
                refine XS.icmpNo X0.here hx rfl (hb hby d11_19) rfl (teq hc19_5).2 ?_
                show Steps p.tables e below (s₁.setTop (mkF m 22 #[.val (.ref a1), .val (.int p2), .val (.int (0 : Int32)), .val (.int (15 : Int32)), .val (.int v2), .val (.int (5 : Int32))] [])) _
                refine XS.iload X0.here hx rfl (hb hby d11_22) rfl ?_
                show Steps p.tables e below (s₁.setTop (mkF m 24 #[.val (.ref a1), .val (.int p2), .val (.int (0 : Int32)), .val (.int (15 : Int32)), .val (.int v2), .val (.int (5 : Int32))] [(.int (5 : Int32))])) _
                exact k
              obtain ⟨fs, hr, hrun, hended, hW, hsame⟩ := X0.leave (v := some (.int (5 : Int32))) (fun h => by rw [Bd.returns] at h; cases h)
              refine ⟨_, _, pre13 _ ?_, hrun, hended, _, _, rfl, ?_, ⟨_, rfl⟩, hW, hsame.mono (by decide) (by decide)⟩
              · show Steps p.tables e below (s₁.setTop (mkF m 24 #[.val (.ref a1), .val (.int p2), .val (.int (0 : Int32)), .val (.int (15 : Int32)), .val (.int v2), .val (.int (5 : Int32))] [(.int (5 : Int32))])) _
                exact own_retI X0 hx Bd.returns (hb hby d11_24) hr
              · show Qioc Z a1 p2 h0 n0 _ s₁.heap _
                rw [e0]
                refine ⟨?_, N0, rfl⟩
                subst hv2
                simp only [fnioc, if_neg hc19, if_neg hc19_1, if_neg hc19_2, if_neg hc19_3, if_neg hc19_4, if_pos hc19_5]
            · have pre14 : ∀ t, Steps p.tables e below (s₁.setTop (mkF m 19 #[.val (.ref a1), .val (.int p2), .val (.int (0 : Int32)), .val (.int (15 : Int32)), .val (.int v2), .val (.int (6 : Int32))] [(.int v2), (.int (42 : Int32))])) t → Steps p.tables e below (s₁.setTop (entryFrame m #[(.ref a1), (.int p2), (.int (0 : Int32)), (.int (15 : Int32))] 6)) t := by
                intro t k
                refine pre12 t ?_
                refine XS.icmpYes X0.here hx rfl (pc0 := 19) (pc' := 25) rfl (hb hby d11_19) rfl (feq hc19_5).2 (by decide) (by decide) ?_
                show Steps p.tables e below (s₁.setTop (mkF m 25 #[.val (.ref a1), .val (.int p2), .val (.int (0 : Int32)), .val (.int (15 : Int32)), .val (.int v2), .val (.int (5 : Int32))] [])) _
                refine XS.iinc X0.here hx rfl (hb hby d11_25) rfl (l' := #[.val (.ref a1), .val (.int p2), .val (.int (0 : Int32)), .val (.int (15 : Int32)), .val (.int v2), .val (.int (6 : Int32))]) rfl ?_
                show Steps p.tables e below (s₁.setTop (mkF m 28 #[.val (.ref a1), .val (.int p2), .val (.int (0 : Int32)), .val (.int (15 : Int32)), .val (.int v2), .val (.int (6 : Int32))] [])) _
                refine XS.goto X0.here hx rfl (pc0 := 28) (pc' := 7) rfl (hb hby d11_28) (by decide) (by decide) ?_
                show Steps p.tables e below (s₁.setTop (mkF m 7 #[.val (.ref a1), .val (.int p2), .val (.int (0 : Int32)), .val (.int (15 : Int32)), .val (.int v2), .val (.int (6 : Int32))] [])) _
                refine XS.iload X0.here hx rfl (hb hby d11_7) rfl ?_
                show Steps p.tables e below (s₁.setTop (mkF m 9 #[.val (.ref a1), .val (.int p2), .val (.int (0 : Int32)), .val (.int (15 : Int32)), .val (.int v2), .val (.int (6 : Int32))] [(.int (6 : Int32))])) _
                refine XS.iloadN X0.here hx rfl (hb hby d11_9) rfl ?_
                show Steps p.tables e below (s₁.setTop (mkF m 10 #[.val (.ref a1), .val (.int p2), .val (.int (0 : Int32)), .val (.int (15 : Int32)), .val (.int v2), .val (.int (6 : Int32))] [(.int (15 : Int32)), (.int (6 : Int32))])) _
                refine XS.icmpNo X0.here hx rfl (hb hby d11_10) rfl (tlt (by decide : (6 : Int32) < (15 : Int32))).2.1 ?_
                show Steps p.tables e below (s₁.setTop (mkF m 13 #[.val (.ref a1), .val (.int p2), .val (.int (0 : Int32)), .val (.int (15 : Int32)), .val (.int v2), .val (.int (6 : Int32))] [])) _
                refine XS.aloadN X0.here hx rfl (hb hby d11_13) rfl rfl ?_
                show Steps p.tables e below (s₁.setTop (mkF m 14 #[.val (.ref a1), .val (.int p2), .val (.int (0 : Int32)), .val (.int (15 : Int32)), .val (.int v2), .val (.int (6 : Int32))] [(.ref a1)])) _
                refine XS.iload X0.here hx rfl (hb hby d11_14) rfl ?_
                show Steps p.tables e below (s₁.setTop (mkF m 16 #[.val (.ref a1), .val (.int p2), .val (.int (0 : Int32)), .val (.int (15 : Int32)), .val (.int v2), .val (.int (6 : Int32))] [(.int (6 : Int32)), (.ref a1)])) _
                refine own_ldB X0 hx hZ e0 A0 (by decide) (by decide) (g := (mkF m 16 #[.val (.ref a1), .val (.int p2), .val (.int (0 : Int32)), .val (.int (15 : Int32)), .val (.int v2), .val (.int (6 : Int32))] [(.int (6 : Int32)), (.ref a1)])) rfl rfl (hb hby d11_16) _ ?_
                show Steps p.tables e below (s₁.setTop (mkF m 17 #[.val (.ref a1), .val (.int p2), .val (.int (0 : Int32)), .val (.int (15 : Int32)), .val (.int v2), .val (.int (6 : Int32))] [(.int (42 : Int32))])) _
                refine XS.iload X0.here hx rfl (hb hby d11_17) rfl ?_
                show Steps p.tables e below (s₁.setTop (mkF m 19 #[.val (.ref a1), .val (.int p2), .val (.int (0 : Int32)), .val (.int (15 : Int32)), .val (.int v2), .val (.int (6 : Int32))] [(.int v2), (.int (42 : Int32))])) _
                exact k
              by_cases hc19_6 : (42 : Int32) = v2
              · have pre15 : ∀ t, Steps p.tables e below (s₁.setTop (mkF m 24 #[.val (.ref a1), .val (.int p2), .val (.int (0 : Int32)), .val (.int (15 : Int32)), .val (.int v2), .val (.int (6 : Int32))] [(.int (6 : Int32))])) t → Steps p.tables e below (s₁.setTop (entryFrame m #[(.ref a1), (.int p2), (.int (0 : Int32)), (.int (15 : Int32))] 6)) t := by
                  intro t k
                  refine pre14 t ?_
                  refine XS.icmpNo X0.here hx rfl (hb hby d11_19) rfl (teq hc19_6).2 ?_
                  show Steps p.tables e below (s₁.setTop (mkF m 22 #[.val (.ref a1), .val (.int p2), .val (.int (0 : Int32)), .val (.int (15 : Int32)), .val (.int v2), .val (.int (6 : Int32))] [])) _
                  refine XS.iload X0.here hx rfl (hb hby d11_22) rfl ?_
                  show Steps p.tables e below (s₁.setTop (mkF m 24 #[.val (.ref a1), .val (.int p2), .val (.int (0 : Int32)), .val (.int (15 : Int32)), .val (.int v2), .val (.int (6 : Int32))] [(.int (6 : Int32))])) _
                  exact k
                obtain ⟨fs, hr, hrun, hended, hW, hsame⟩ := X0.leave (v := some (.int (6 : Int32))) (fun h => by rw [Bd.returns] at h; cases h)
                refine ⟨_, _, pre15 _ ?_, hrun, hended, _, _, rfl, ?_, ⟨_, rfl⟩, hW, hsame.mono (by decide) (by decide)⟩
                · show Steps p.tables e below (s₁.setTop (mkF m 24 #[.val (.ref a1), .val (.int p2), .val (.int (0 : Int32)), .val (.int (15 : Int32)), .val (.int v2), .val (.int (6 : Int32))] [(.int (6 : Int32))])) _
                  exact own_retI X0 hx Bd.returns (hb hby d11_24) hr
                · show Qioc Z a1 p2 h0 n0 _ s₁.heap _
                  rw [e0]
                  refine ⟨?_, N0, rfl⟩
                  subst hv2
                  simp only [fnioc, if_neg hc19, if_neg hc19_1, if_neg hc19_2, if_neg hc19_3, if_neg hc19_4, if_neg hc19_5, if_pos hc19_6]
              · have pre16 : ∀ t, Steps p.tables e below (s₁.setTop (mkF m 19 #[.val (.ref a1), .val (.int p2), .val (.int (0 : Int32)), .val (.int (15 : Int32)), .val (.int v2), .val (.int (7 : Int32))] [(.int v2), (.int (43 : Int32))])) t → Steps p.tables e below (s₁.setTop (entryFrame m #[(.ref a1), (.int p2), (.int (0 : Int32)), (.int (15 : Int32))] 6)) t := by
                  intro t k
                  refine pre14 t ?_
                  refine XS.icmpYes X0.here hx rfl (pc0 := 19) (pc' := 25) rfl (hb hby d11_19) rfl (feq hc19_6).2 (by decide) (by decide) ?_
                  show Steps p.tables e below (s₁.setTop (mkF m 25 #[.val (.ref a1), .val (.int p2), .val (.int (0 : Int32)), .val (.int (15 : Int32)), .val (.int v2), .val (.int (6 : Int32))] [])) _
                  refine XS.iinc X0.here hx rfl (hb hby d11_25) rfl (l' := #[.val (.ref a1), .val (.int p2), .val (.int (0 : Int32)), .val (.int (15 : Int32)), .val (.int v2), .val (.int (7 : Int32))]) rfl ?_
                  show Steps p.tables e below (s₁.setTop (mkF m 28 #[.val (.ref a1), .val (.int p2), .val (.int (0 : Int32)), .val (.int (15 : Int32)), .val (.int v2), .val (.int (7 : Int32))] [])) _
                  refine XS.goto X0.here hx rfl (pc0 := 28) (pc' := 7) rfl (hb hby d11_28) (by decide) (by decide) ?_
                  show Steps p.tables e below (s₁.setTop (mkF m 7 #[.val (.ref a1), .val (.int p2), .val (.int (0 : Int32)), .val (.int (15 : Int32)), .val (.int v2), .val (.int (7 : Int32))] [])) _
                  refine XS.iload X0.here hx rfl (hb hby d11_7) rfl ?_
                  show Steps p.tables e below (s₁.setTop (mkF m 9 #[.val (.ref a1), .val (.int p2), .val (.int (0 : Int32)), .val (.int (15 : Int32)), .val (.int v2), .val (.int (7 : Int32))] [(.int (7 : Int32))])) _
                  refine XS.iloadN X0.here hx rfl (hb hby d11_9) rfl ?_
                  show Steps p.tables e below (s₁.setTop (mkF m 10 #[.val (.ref a1), .val (.int p2), .val (.int (0 : Int32)), .val (.int (15 : Int32)), .val (.int v2), .val (.int (7 : Int32))] [(.int (15 : Int32)), (.int (7 : Int32))])) _
                  refine XS.icmpNo X0.here hx rfl (hb hby d11_10) rfl (tlt (by decide : (7 : Int32) < (15 : Int32))).2.1 ?_
                  show Steps p.tables e below (s₁.setTop (mkF m 13 #[.val (.ref a1), .val (.int p2), .val (.int (0 : Int32)), .val (.int (15 : Int32)), .val (.int v2), .val (.int (7 : Int32))] [])) _
                  refine XS.aloadN X0.here hx rfl (hb hby d11_13) rfl rfl ?_
                  show Steps p.tables e below (s₁.setTop (mkF m 14 #[.val (.ref a1), .val (.int p2), .val (.int (0 : Int32)), .val (.int (15 : Int32)), .val (.int v2), .val (.int (7 : Int32))] [(.ref a1)])) _
                  refine XS.iload X0.here hx rfl (hb hby d11_14) rfl ?_
                  show Steps p.tables e below (s₁.setTop (mkF m 16 #[.val (.ref a1), .val (.int p2), .val (.int (0 : Int32)), .val (.int (15 : Int32)), .val (.int v2), .val (.int (7 : Int32))] [(.int (7 : Int32)), (.ref a1)])) _
                  refine own_ldB X0 hx hZ e0 A0 (by decide) (by decide) (g := (mkF m 16 #[.val (.ref a1), .val (.int p2), .val (.int (0 : Int32)), .val (.int (15 : Int32)), .val (.int v2), .val (.int (7 : Int32))] [(.int (7 : Int32)), (.ref a1)])) rfl rfl (hb hby d11_16) _ ?_
                  show Steps p.tables e below (s₁.setTop (mkF m 17 #[.val (.ref a1), .val (.int p2), .val (.int (0 : Int32)), .val (.int (15 : Int32)), .val (.int v2), .val (.int (7 : Int32))] [(.int (43 : Int32))])) _
                  refine XS.iload X0.here hx rfl (hb hby d11_17) rfl ?_
                  show Steps p.tables e below (s₁.setTop (mkF m 19 #[.val (.ref a1), .val (.int p2), .val (.int (0 : Int32)), .val (.int (15 : Int32)), .val (.int v2), .val (.int (7 : Int32))] [(.int v2), (.int (43 : Int32))])) _
                  exact k
                by_cases hc19_7 : (43 : Int32) = v2
                · have pre17 : ∀ t, Steps p.tables e below (s₁.setTop (mkF m 24 #[.val (.ref a1), .val (.int p2), .val (.int (0 : Int32)), .val (.int (15 : Int32)), .val (.int v2), .val (.int (7 : Int32))] [(.int (7 : Int32))])) t → Steps p.tables e below (s₁.setTop (entryFrame m #[(.ref a1), (.int p2), (.int (0 : Int32)), (.int (15 : Int32))] 6)) t := by
                    intro t k
                    refine pre16 t ?_
                    refine XS.icmpNo X0.here hx rfl (hb hby d11_19) rfl (teq hc19_7).2 ?_
                    show Steps p.tables e below (s₁.setTop (mkF m 22 #[.val (.ref a1), .val (.int p2), .val (.int (0 : Int32)), .val (.int (15 : Int32)), .val (.int v2), .val (.int (7 : Int32))] [])) _
                    refine XS.iload X0.here hx rfl (hb hby d11_22) rfl ?_
                    show Steps p.tables e below (s₁.setTop (mkF m 24 #[.val (.ref a1), .val (.int p2), .val (.int (0 : Int32)), .val (.int (15 : Int32)), .val (.int v2), .val (.int (7 : Int32))] [(.int (7 : Int32))])) _
                    exact k
                  obtain ⟨fs, hr, hrun, hended, hW, hsame⟩ := X0.leave (v := some (.int (7 : Int32))) (fun h => by rw [Bd.returns] at h; cases h)
                  refine ⟨_, _, pre17 _ ?_, hrun, hended, _, _, rfl, ?_, ⟨_, rfl⟩, hW, hsame.mono (by decide) (by decide)⟩
                  · show Steps p.tables e below (s₁.setTop (mkF m 24 #[.val (.ref a1), .val (.int p2), .val (.int (0 : Int32)), .val (.int (15 : Int32)), .val (.int v2), .val (.int (7 : Int32))] [(.int (7 : Int32))])) _
                    exact own_retI X0 hx Bd.returns (hb hby d11_24) hr
                  · show Qioc Z a1 p2 h0 n0 _ s₁.heap _
                    rw [e0]
                    refine ⟨?_, N0, rfl⟩
                    subst hv2
                    simp only [fnioc, if_neg hc19, if_neg hc19_1, if_neg hc19_2, if_neg hc19_3, if_neg hc19_4, if_neg hc19_5, if_neg hc19_6, if_pos hc19_7]
                · have pre18 : ∀ t, Steps p.tables e below (s₁.setTop (mkF m 19 #[.val (.ref a1), .val (.int p2), .val (.int (0 : Int32)), .val (.int (15 : Int32)), .val (.int v2), .val (.int (8 : Int32))] [(.int v2), (.int (45 : Int32))])) t → Steps p.tables e below (s₁.setTop (entryFrame m #[(.ref a1), (.int p2), (.int (0 : Int32)), (.int (15 : Int32))] 6)) t := by
                    intro t k
                    refine pre16 t ?_
                    refine XS.icmpYes X0.here hx rfl (pc0 := 19) (pc' := 25) rfl (hb hby d11_19) rfl (feq hc19_7).2 (by decide) (by decide) ?_
                    show Steps p.tables e below (s₁.setTop (mkF m 25 #[.val (.ref a1), .val (.int p2), .val (.int (0 : Int32)), .val (.int (15 : Int32)), .val (.int v2), .val (.int (7 : Int32))] [])) _
                    refine XS.iinc X0.here hx rfl (hb hby d11_25) rfl (l' := #[.val (.ref a1), .val (.int p2), .val (.int (0 : Int32)), .val (.int (15 : Int32)), .val (.int v2), .val (.int (8 : Int32))]) rfl ?_
                    show Steps p.tables e below (s₁.setTop (mkF m 28 #[.val (.ref a1), .val (.int p2), .val (.int (0 : Int32)), .val (.int (15 : Int32)), .val (.int v2), .val (.int (8 : Int32))] [])) _
                    refine XS.goto X0.here hx rfl (pc0 := 28) (pc' := 7) rfl (hb hby d11_28) (by decide) (by decide) ?_
                    show Steps p.tables e below (s₁.setTop (mkF m 7 #[.val (.ref a1), .val (.int p2), .val (.int (0 : Int32)), .val (.int (15 : Int32)), .val (.int v2), .val (.int (8 : Int32))] [])) _
                    refine XS.iload X0.here hx rfl (hb hby d11_7) rfl ?_
                    show Steps p.tables e below (s₁.setTop (mkF m 9 #[.val (.ref a1), .val (.int p2), .val (.int (0 : Int32)), .val (.int (15 : Int32)), .val (.int v2), .val (.int (8 : Int32))] [(.int (8 : Int32))])) _
                    refine XS.iloadN X0.here hx rfl (hb hby d11_9) rfl ?_
                    show Steps p.tables e below (s₁.setTop (mkF m 10 #[.val (.ref a1), .val (.int p2), .val (.int (0 : Int32)), .val (.int (15 : Int32)), .val (.int v2), .val (.int (8 : Int32))] [(.int (15 : Int32)), (.int (8 : Int32))])) _
                    refine XS.icmpNo X0.here hx rfl (hb hby d11_10) rfl (tlt (by decide : (8 : Int32) < (15 : Int32))).2.1 ?_
                    show Steps p.tables e below (s₁.setTop (mkF m 13 #[.val (.ref a1), .val (.int p2), .val (.int (0 : Int32)), .val (.int (15 : Int32)), .val (.int v2), .val (.int (8 : Int32))] [])) _
                    refine XS.aloadN X0.here hx rfl (hb hby d11_13) rfl rfl ?_
                    show Steps p.tables e below (s₁.setTop (mkF m 14 #[.val (.ref a1), .val (.int p2), .val (.int (0 : Int32)), .val (.int (15 : Int32)), .val (.int v2), .val (.int (8 : Int32))] [(.ref a1)])) _
                    refine XS.iload X0.here hx rfl (hb hby d11_14) rfl ?_
                    show Steps p.tables e below (s₁.setTop (mkF m 16 #[.val (.ref a1), .val (.int p2), .val (.int (0 : Int32)), .val (.int (15 : Int32)), .val (.int v2), .val (.int (8 : Int32))] [(.int (8 : Int32)), (.ref a1)])) _
                    refine own_ldB X0 hx hZ e0 A0 (by decide) (by decide) (g := (mkF m 16 #[.val (.ref a1), .val (.int p2), .val (.int (0 : Int32)), .val (.int (15 : Int32)), .val (.int v2), .val (.int (8 : Int32))] [(.int (8 : Int32)), (.ref a1)])) rfl rfl (hb hby d11_16) _ ?_
                    show Steps p.tables e below (s₁.setTop (mkF m 17 #[.val (.ref a1), .val (.int p2), .val (.int (0 : Int32)), .val (.int (15 : Int32)), .val (.int v2), .val (.int (8 : Int32))] [(.int (45 : Int32))])) _
                    refine XS.iload X0.here hx rfl (hb hby d11_17) rfl ?_
                    show Steps p.tables e below (s₁.setTop (mkF m 19 #[.val (.ref a1), .val (.int p2), .val (.int (0 : Int32)), .val (.int (15 : Int32)), .val (.int v2), .val (.int (8 : Int32))] [(.int v2), (.int (45 : Int32))])) _
                    exact k
                  by_cases hc19_8 : (45 : Int32) = v2
                  · have pre19 : ∀ t, Steps p.tables e below (s₁.setTop (mkF m 24 #[.val (.ref a1), .val (.int p2), .val (.int (0 : Int32)), .val (.int (15 : Int32)), .val (.int v2), .val (.int (8 : Int32))] [(.int (8 : Int32))])) t → Steps p.tables e below (s₁.setTop (entryFrame m #[(.ref a1), (.int p2), (.int (0 : Int32)), (.int (15 : Int32))] 6)) t := by
                      intro t k
                      refine pre18 t ?_
                      refine XS.icmpNo X0.here hx rfl (hb hby d11_19) rfl (teq hc19_8).2 ?_
                      show Steps p.tables e below (s₁.setTop (mkF m 22 #[.val (.ref a1), .val (.int p2), .val (.int (0 : Int32)), .val (.int (15 : Int32)), .val (.int v2), .val (.int (8 : Int32))] [])) _
                      refine XS.iload X0.here hx rfl (hb hby d11_22) rfl ?_
                      show Steps p.tables e below (s₁.setTop (mkF m 24 #[.val (.ref a1), .val (.int p2), .val (.int (0 : Int32)), .val (.int (15 : Int32)), .val (.int v2), .val (.int (8 : Int32))] [(.int (8 : Int32))])) _
                      exact k
                    obtain ⟨fs, hr, hrun, hended, hW, hsame⟩ := X0.leave (v := some (.int (8 : Int32))) (fun h => by rw [Bd.returns] at h; cases h)
                    refine ⟨_, _, pre19 _ ?_, hrun, hended, _, _, rfl, ?_, ⟨_, rfl⟩, hW, hsame.mono (by decide) (by decide)⟩
                    · show Steps p.tables e below (s₁.setTop (mkF m 24 #[.val (.ref a1), .val (.int p2), .val (.int (0 : Int32)), .val (.int (15 : Int32)), .val (.int v2), .val (.int (8 : Int32))] [(.int (8 : Int32))])) _
                      exact own_retI X0 hx Bd.returns (hb hby d11_24) hr
                    · show Qioc Z a1 p2 h0 n0 _ s₁.heap _
                      rw [e0]
                      refine ⟨?_, N0, rfl⟩
                      subst hv2
                      simp only [fnioc, if_neg hc19, if_neg hc19_1, if_neg hc19_2, if_neg hc19_3, if_neg hc19_4, if_neg hc19_5, if_neg hc19_6, if_neg hc19_7, if_pos hc19_8]
                  · have pre20 : ∀ t, Steps p.tables e below (s₁.setTop (mkF m 19 #[.val (.ref a1), .val (.int p2), .val (.int (0 : Int32)), .val (.int (15 : Int32)), .val (.int v2), .val (.int (9 : Int32))] [(.int v2), (.int (46 : Int32))])) t → Steps p.tables e below (s₁.setTop (entryFrame m #[(.ref a1), (.int p2), (.int (0 : Int32)), (.int (15 : Int32))] 6)) t := by
                      intro t k
                      refine pre18 t ?_
                      refine XS.icmpYes X0.here hx rfl (pc0 := 19) (pc' := 25) rfl (hb hby d11_19) rfl (feq hc19_8).2 (by decide) (by decide) ?_
                      show Steps p.tables e below (s₁.setTop (mkF m 25 #[.val (.ref a1), .val (.int p2), .val (.int (0 : Int32)), .val (.int (15 : Int32)), .val (.int v2), .val (.int (8 : Int32))] [])) _
                      refine XS.iinc X0.here hx rfl (hb hby d11_25) rfl (l' := #[.val (.ref a1), .val (.int p2), .val (.int (0 : Int32)), .val (.int (15 : Int32)), .val (.int v2), .val (.int (9 : Int32))]) rfl ?_
                      show Steps p.tables e below (s₁.setTop (mkF m 28 #[.val (.ref a1), .val (.int p2), .val (.int (0 : Int32)), .val (.int (15 : Int32)), .val (.int v2), .val (.int (9 : Int32))] [])) _
                      refine XS.goto X0.here hx rfl (pc0 := 28) (pc' := 7) rfl (hb hby d11_28) (by decide) (by decide) ?_
                      show Steps p.tables e below (s₁.setTop (mkF m 7 #[.val (.ref a1), .val (.int p2), .val (.int (0 : Int32)), .val (.int (15 : Int32)), .val (.int v2), .val (.int (9 : Int32))] [])) _
                      refine XS.iload X0.here hx rfl (hb hby d11_7) rfl ?_
                      show Steps p.tables e below (s₁.setTop (mkF m 9 #[.val (.ref a1), .val (.int p2), .val (.int (0 : Int32)), .val (.int (15 : Int32)), .val (.int v2), .val (.int (9 : Int32))] [(.int (9 : Int32))])) _
                      refine XS.iloadN X0.here hx rfl (hb hby d11_9) rfl ?_
                      show Steps p.tables e below (s₁.setTop (mkF m 10 #[.val (.ref a1), .val (.int p2), .val (.int (0 : Int32)), .val (.int (15 : Int32)), .val (.int v2), .val (.int (9 : Int32))] [(.int (15 : Int32)), (.int (9 : Int32))])) _
                      refine XS.icmpNo X0.here hx rfl (hb hby d11_10) rfl (tlt (by decide : (9 : Int32) < (15 : Int32))).2.1 ?_
                      show Steps p.tables e below (s₁.setTop (mkF m 13 #[.val (.ref a1), .val (.int p2), .val (.int (0 : Int32)), .val (.int (15 : Int32)), .val (.int v2), .val (.int (9 : Int32))] [])) _
                      refine XS.aloadN X0.here hx rfl (hb hby d11_13) rfl rfl ?_
                      show Steps p.tables e below (s₁.setTop (mkF m 14 #[.val (.ref a1), .val (.int p2), .val (.int (0 : Int32)), .val (.int (15 : Int32)), .val (.int v2), .val (.int (9 : Int32))] [(.ref a1)])) _
                      refine XS.iload X0.here hx rfl (hb hby d11_14) rfl ?_
                      show Steps p.tables e below (s₁.setTop (mkF m 16 #[.val (.ref a1), .val (.int p2), .val (.int (0 : Int32)), .val (.int (15 : Int32)), .val (.int v2), .val (.int (9 : Int32))] [(.int (9 : Int32)), (.ref a1)])) _
                      refine own_ldB X0 hx hZ e0 A0 (by decide) (by decide) (g := (mkF m 16 #[.val (.ref a1), .val (.int p2), .val (.int (0 : Int32)), .val (.int (15 : Int32)), .val (.int v2), .val (.int (9 : Int32))] [(.int (9 : Int32)), (.ref a1)])) rfl rfl (hb hby d11_16) _ ?_
                      show Steps p.tables e below (s₁.setTop (mkF m 17 #[.val (.ref a1), .val (.int p2), .val (.int (0 : Int32)), .val (.int (15 : Int32)), .val (.int v2), .val (.int (9 : Int32))] [(.int (46 : Int32))])) _
                      refine XS.iload X0.here hx rfl (hb hby d11_17) rfl ?_
                      show Steps p.tables e below (s₁.setTop (mkF m 19 #[.val (.ref a1), .val (.int p2), .val (.int (0 : Int32)), .val (.int (15 : Int32)), .val (.int v2), .val (.int (9 : Int32))] [(.int v2), (.int (46 : Int32))])) _
                      exact k
                    by_cases hc19_9 : (46 : Int32) = v2
                    · have pre21 : ∀ t, Steps p.tables e below (s₁.setTop (mkF m 24 #[.val (.ref a1), .val (.int p2), .val (.int (0 : Int32)), .val (.int (15 : Int32)), .val (.int v2), .val (.int (9 : Int32))] [(.int (9 : Int32))])) t → Steps p.tables e below (s₁.setTop (entryFrame m #[(.ref a1), (.int p2), (.int (0 : Int32)), (.int (15 : Int32))] 6)) t := by
                        intro t k
                        refine pre20 t ?_
                        refine XS.icmpNo X0.here hx rfl (hb hby d11_19) rfl (teq hc19_9).2 ?_
                        show Steps p.tables e below (s₁.setTop (mkF m 22 #[.val (.ref a1), .val (.int p2), .val (.int (0 : Int32)), .val (.int (15 : Int32)), .val (.int v2), .val (.int (9 : Int32))] [])) _
                        refine XS.iload X0.here hx rfl (hb hby d11_22) rfl ?_
                        show Steps p.tables e below (s₁.setTop (mkF m 24 #[.val (.ref a1), .val (.int p2), .val (.int (0 : Int32)), .val (.int (15 : Int32)), .val (.int v2), .val (.int (9 : Int32))] [(.int (9 : Int32))])) _
                        exact k
                      obtain ⟨fs, hr, hrun, hended, hW, hsame⟩ := X0.leave (v := some (.int (9 : Int32))) (fun h => by rw [Bd.returns] at h; cases h)
                      refine ⟨_, _, pre21 _ ?_, hrun, hended, _, _, rfl, ?_, ⟨_, rfl⟩, hW, hsame.mono (by decide) (by decide)⟩
                      · show Steps p.tables e below (s₁.setTop (mkF m 24 #[.val (.ref a1), .val (.int p2), .val (.int (0 : Int32)), .val (.int (15 : Int32)), .val (.int v2), .val (.int (9 : Int32))] [(.int (9 : Int32))])) _
                        exact own_retI X0 hx Bd.returns (hb hby d11_24) hr
                      · show Qioc Z a1 p2 h0 n0 _ s₁.heap _
                        rw [e0]
                        refine ⟨?_, N0, rfl⟩
                        subst hv2
                        simp only [fnioc, if_neg hc19, if_neg hc19_1, if_neg hc19_2, if_neg hc19_3, if_neg hc19_4, if_neg hc19_5, if_neg hc19_6, if_neg hc19_7, if_neg hc19_8, if_pos hc19_9]
                    · have pre22 : ∀ t, Steps p.tables e below (s₁.setTop (mkF m 19 #[.val (.ref a1), .val (.int p2), .val (.int (0 : Int32)), .val (.int (15 : Int32)), .val (.int v2), .val (.int (10 : Int32))] [(.int v2), (.int (94 : Int32))])) t → Steps p.tables e below (s₁.setTop (entryFrame m #[(.ref a1), (.int p2), (.int (0 : Int32)), (.int (15 : Int32))] 6)) t := by
                        intro t k
                        refine pre20 t ?_
                        refine XS.icmpYes X0.here hx rfl (pc0 := 19) (pc' := 25) rfl (hb hby d11_19) rfl (feq hc19_9).2 (by decide) (by decide) ?_
                        show Steps p.tables e below (s₁.setTop (mkF m 25 #[.val (.ref a1), .val (.int p2), .val (.int (0 : Int32)), .val (.int (15 : Int32)), .val (.int v2), .val (.int (9 : Int32))] [])) _
                        refine XS.iinc X0.here hx rfl (hb hby d11_25) rfl (l' := #[.val (.ref a1), .val (.int p2), .val (.int (0 : Int32)), .val (.int (15 : Int32)), .val (.int v2), .val (.int (10 : Int32))]) rfl ?_
                        show Steps p.tables e below (s₁.setTop (mkF m 28 #[.val (.ref a1), .val (.int p2), .val (.int (0 : Int32)), .val (.int (15 : Int32)), .val (.int v2), .val (.int (10 : Int32))] [])) _
                        refine XS.goto X0.here hx rfl (pc0 := 28) (pc' := 7) rfl (hb hby d11_28) (by decide) (by decide) ?_
                        show Steps p.tables e below (s₁.setTop (mkF m 7 #[.val (.ref a1), .val (.int p2), .val (.int (0 : Int32)), .val (.int (15 : Int32)), .val (.int v2), .val (.int (10 : Int32))] [])) _
                        refine XS.iload X0.here hx rfl (hb hby d11_7) rfl ?_
                        show Steps p.tables e below (s₁.setTop (mkF m 9 #[.val (.ref a1), .val (.int p2), .val (.int (0 : Int32)), .val (.int (15 : Int32)), .val (.int v2), .val (.int (10 : Int32))] [(.int (10 : Int32))])) _
                        refine XS.iloadN X0.here hx rfl (hb hby d11_9) rfl ?_
                        show Steps p.tables e below (s₁.setTop (mkF m 10 #[.val (.ref a1), .val (.int p2), .val (.int (0 : Int32)), .val (.int (15 : Int32)), .val (.int v2), .val (.int (10 : Int32))] [(.int (15 : Int32)), (.int (10 : Int32))])) _
                        refine XS.icmpNo X0.here hx rfl (hb hby d11_10) rfl (tlt (by decide : (10 : Int32) < (15 : Int32))).2.1 ?_
                        show Steps p.tables e below (s₁.setTop (mkF m 13 #[.val (.ref a1), .val (.int p2), .val (.int (0 : Int32)), .val (.int (15 : Int32)), .val (.int v2), .val (.int (10 : Int32))] [])) _
                        refine XS.aloadN X0.here hx rfl (hb hby d11_13) rfl rfl ?_
                        show Steps p.tables e below (s₁.setTop (mkF m 14 #[.val (.ref a1), .val (.int p2), .val (.int (0 : Int32)), .val (.int (15 : Int32)), .val (.int v2), .val (.int (10 : Int32))] [(.ref a1)])) _
                        refine XS.iload X0.here hx rfl (hb hby d11_14) rfl ?_
                        show Steps p.tables e below (s₁.setTop (mkF m 16 #[.val (.ref a1), .val (.int p2), .val (.int (0 : Int32)), .val (.int (15 : Int32)), .val (.int v2), .val (.int (10 : Int32))] [(.int (10 : Int32)), (.ref a1)])) _
                        refine own_ldB X0 hx hZ e0 A0 (by decide) (by decide) (g := (mkF m 16 #[.val (.ref a1), .val (.int p2), .val (.int (0 : Int32)), .val (.int (15 : Int32)), .val (.int v2), .val (.int (10 : Int32))] [(.int (10 : Int32)), (.ref a1)])) rfl rfl (hb hby d11_16) _ ?_
                        show Steps p.tables e below (s₁.setTop (mkF m 17 #[.val (.ref a1), .val (.int p2), .val (.int (0 : Int32)), .val (.int (15 : Int32)), .val (.int v2), .val (.int (10 : Int32))] [(.int (94 : Int32))])) _
                        refine XS.iload X0.here hx rfl (hb hby d11_17) rfl ?_
                        show Steps p.tables e below (s₁.setTop (mkF m 19 #[.val (.ref a1), .val (.int p2), .val (.int (0 : Int32)), .val (.int (15 : Int32)), .val (.int v2), .val (.int (10 : Int32))] [(.int v2), (.int (94 : Int32))])) _
                        exact k
                      by_cases hc19_10 : (94 : Int32) = v2
                      · have pre23 : ∀ t, Steps p.tables e below (s₁.setTop (mkF m 24 #[.val (.ref a1), .val (.int p2), .val (.int (0 : Int32)), .val (.int (15 : Int32)), .val (.int v2), .val (.int (10 : Int32))] [(.int (10 : Int32))])) t → Steps p.tables e below (s₁.setTop (entryFrame m #[(.ref a1), (.int p2), (.int (0 : Int32)), (.int (15 : Int32))] 6)) t := by
                          intro t k
                          refine pre22 t ?_
                          refine XS.icmpNo X0.here hx rfl (hb hby d11_19) rfl (teq hc19_10).2 ?_
                          show Steps p.tables e below (s₁.setTop (mkF m 22 #[.val (.ref a1), .val (.int p2), .val (.int (0 : Int32)), .val (.int (15 : Int32)), .val (.int v2), .val (.int (10 : Int32))] [])) _
                          refine XS.iload X0.here hx rfl (hb hby d11_22) rfl ?_
                          show Steps p.tables e below (s₁.setTop (mkF m 24 #[.val (.ref a1), .val (.int p2), .val (.int (0 : Int32)), .val (.int (15 : Int32)), .val (.int v2), .val (.int (10 : Int32))] [(.int (10 : Int32))])) _
                          exact k
                        obtain ⟨fs, hr, hrun, hended, hW, hsame⟩ := X0.leave (v := some (.int (10 : Int32))) (fun h => by rw [Bd.returns] at h; cases h)
                        refine ⟨_, _, pre23 _ ?_, hrun, hended, _, _, rfl, ?_, ⟨_, rfl⟩, hW, hsame.mono (by decide) (by decide)⟩
                        · show Steps p.tables e below (s₁.setTop (mkF m 24 #[.val (.ref a1), .val (.int p2), .val (.int (0 : Int32)), .val (.int (15 : Int32)), .val (.int v2), .val (.int (10 : Int32))] [(.int (10 : Int32))])) _
                          exact own_retI X0 hx Bd.returns (hb hby d11_24) hr
                        · show Qioc Z a1 p2 h0 n0 _ s₁.heap _
                          rw [e0]
                          refine ⟨?_, N0, rfl⟩
                          subst hv2
                          simp only [fnioc, if_neg hc19, if_neg hc19_1, if_neg hc19_2, if_neg hc19_3, if_neg hc19_4, if_neg hc19_5, if_neg hc19_6, if_neg hc19_7, if_neg hc19_8, if_neg hc19_9, if_pos hc19_10]
                      · have pre24 : ∀ t, Steps p.tables e below (s₁.setTop (mkF m 19 #[.val (.ref a1), .val (.int p2), .val (.int (0 : Int32)), .val (.int (15 : Int32)), .val (.int v2), .val (.int (11 : Int32))] [(.int v2), (.int (95 : Int32))])) t → Steps p.tables e below (s₁.setTop (entryFrame m #[(.ref a1), (.int p2), (.int (0 : Int32)), (.int (15 : Int32))] 6)) t := by
                          intro t k
                          refine pre22 t ?_
                          refine XS.icmpYes X0.here hx rfl (pc0 := 19) (pc' := 25) rfl (hb hby d11_19) rfl (feq hc19_10).2 (by decide) (by decide) ?_
                          show Steps p.tables e below (s₁.setTop (mkF m 25 #[.val (.ref a1), .val (.int p2), .val (.int (0 : Int32)), .val (.int (15 : Int32)), .val (.int v2), .val (.int (10 : Int32))] [])) _
                          refine XS.iinc X0.here hx rfl (hb hby d11_25) rfl (l' := #[.val (.ref a1), .val (.int p2), .val (.int (0 : Int32)), .val (.int (15 : Int32)), .val (.int v2), .val (.int (11 : Int32))]) rfl ?_
                          show Steps p.tables e below (s₁.setTop (mkF m 28 #[.val (.ref a1), .val (.int p2), .val (.int (0 : Int32)), .val (.int (15 : Int32)), .val (.int v2), .val (.int (11 : Int32))] [])) _
                          refine XS.goto X0.here hx rfl (pc0 := 28) (pc' := 7) rfl (hb hby d11_28) (by decide) (by decide) ?_
                          show Steps p.tables e below (s₁.setTop (mkF m 7 #[.val (.ref a1), .val (.int p2), .val (.int (0 : Int32)), .val (.int (15 : Int32)), .val (.int v2), .val (.int (11 : Int32))] [])) _
                          refine XS.iload X0.here hx rfl (hb hby d11_7) rfl ?_
                          show Steps p.tables e below (s₁.setTop (mkF m 9 #[.val (.ref a1), .val (.int p2), .val (.int (0 : Int32)), .val (.int (15 : Int32)), .val (.int v2), .val (.int (11 : Int32))] [(.int (11 : Int32))])) _
                          refine XS.iloadN X0.here hx rfl (hb hby d11_9) rfl ?_
                          show Steps p.tables e below (s₁.setTop (mkF m 10 #[.val (.ref a1), .val (.int p2), .val (.int (0 : Int32)), .val (.int (15 : Int32)), .val (.int v2), .val (.int (11 : Int32))] [(.int (15 : Int32)), (.int (11 : Int32))])) _
                          refine XS.icmpNo X0.here hx rfl (hb hby d11_10) rfl (tlt (by decide : (11 : Int32) < (15 : Int32))).2.1 ?_
                          show Steps p.tables e below (s₁.setTop (mkF m 13 #[.val (.ref a1), .val (.int p2), .val (.int (0 : Int32)), .val (.int (15 : Int32)), .val (.int v2), .val (.int (11 : Int32))] [])) _
                          refine XS.aloadN X0.here hx rfl (hb hby d11_13) rfl rfl ?_
                          show Steps p.tables e below (s₁.setTop (mkF m 14 #[.val (.ref a1), .val (.int p2), .val (.int (0 : Int32)), .val (.int (15 : Int32)), .val (.int v2), .val (.int (11 : Int32))] [(.ref a1)])) _
                          refine XS.iload X0.here hx rfl (hb hby d11_14) rfl ?_
                          show Steps p.tables e below (s₁.setTop (mkF m 16 #[.val (.ref a1), .val (.int p2), .val (.int (0 : Int32)), .val (.int (15 : Int32)), .val (.int v2), .val (.int (11 : Int32))] [(.int (11 : Int32)), (.ref a1)])) _
                          refine own_ldB X0 hx hZ e0 A0 (by decide) (by decide) (g := (mkF m 16 #[.val (.ref a1), .val (.int p2), .val (.int (0 : Int32)), .val (.int (15 : Int32)), .val (.int v2), .val (.int (11 : Int32))] [(.int (11 : Int32)), (.ref a1)])) rfl rfl (hb hby d11_16) _ ?_
                          show Steps p.tables e below (s₁.setTop (mkF m 17 #[.val (.ref a1), .val (.int p2), .val (.int (0 : Int32)), .val (.int (15 : Int32)), .val (.int v2), .val (.int (11 : Int32))] [(.int (95 : Int32))])) _
                          refine XS.iload X0.here hx rfl (hb hby d11_17) rfl ?_
                          show Steps p.tables e below (s₁.setTop (mkF m 19 #[.val (.ref a1), .val (.int p2), .val (.int (0 : Int32)), .val (.int (15 : Int32)), .val (.int v2), .val (.int (11 : Int32))] [(.int v2), (.int (95 : Int32))])) _
                          exact k
                        by_cases hc19_11 : (95 : Int32) = v2
                        · have pre25 : ∀ t, Steps p.tables e below (s₁.setTop (mkF m 24 #[.val (.ref a1), .val (.int p2), .val (.int (0 : Int32)), .val (.int (15 : Int32)), .val (.int v2), .val (.int (11 : Int32))] [(.int (11 : Int32))])) t → Steps p.tables e below (s₁.setTop (entryFrame m #[(.ref a1), (.int p2), (.int (0 : Int32)), (.int (15 : Int32))] 6)) t := by
                            intro t k
                            refine pre24 t ?_
                            refine XS.icmpNo X0.here hx rfl (hb hby d11_19) rfl (teq hc19_11).2 ?_
                            show Steps p.tables e below (s₁.setTop (mkF m 22 #[.val (.ref a1), .val (.int p2), .val (.int (0 : Int32)), .val (.int (15 : Int32)), .val (.int v2), .val (.int (11 : Int32))] [])) _
                            refine XS.iload X0.here hx rfl (hb hby d11_22) rfl ?_
                            show Steps p.tables e below (s₁.setTop (mkF m 24 #[.val (.ref a1), .val (.int p2), .val (.int (0 : Int32)), .val (.int (15 : Int32)), .val (.int v2), .val (.int (11 : Int32))] [(.int (11 : Int32))])) _
                            exact k
                          obtain ⟨fs, hr, hrun, hended, hW, hsame⟩ := X0.leave (v := some (.int (11 : Int32))) (fun h => by rw [Bd.returns] at h; cases h)
                          refine ⟨_, _, pre25 _ ?_, hrun, hended, _, _, rfl, ?_, ⟨_, rfl⟩, hW, hsame.mono (by decide) (by decide)⟩
                          · show Steps p.tables e below (s₁.setTop (mkF m 24 #[.val (.ref a1), .val (.int p2), .val (.int (0 : Int32)), .val (.int (15 : Int32)), .val (.int v2), .val (.int (11 : Int32))] [(.int (11 : Int32))])) _
                            exact own_retI X0 hx Bd.returns (hb hby d11_24) hr
                          · show Qioc Z a1 p2 h0 n0 _ s₁.heap _
                            rw [e0]
                            refine ⟨?_, N0, rfl⟩
                            subst hv2
                            simp only [fnioc, if_neg hc19, if_neg hc19_1, if_neg hc19_2, if_neg hc19_3, if_neg hc19_4, if_neg hc19_5, if_neg hc19_6, if_neg hc19_7, if_neg hc19_8, if_neg hc19_9, if_neg hc19_10, if_pos hc19_11]
                        · have pre26 : ∀ t, Steps p.tables e below (s₁.setTop (mkF m 19 #[.val (.ref a1), .val (.int p2), .val (.int (0 : Int32)), .val (.int (15 : Int32)), .val (.int v2), .val (.int (12 : Int32))] [(.int v2), (.int (96 : Int32))])) t → Steps p.tables e below (s₁.setTop (entryFrame m #[(.ref a1), (.int p2), (.int (0 : Int32)), (.int (15 : Int32))] 6)) t := by
                            intro t k
                            refine pre24 t ?_
                            refine XS.icmpYes X0.here hx rfl (pc0 := 19) (pc' := 25) rfl (hb hby d11_19) rfl (feq hc19_11).2 (by decide) (by decide) ?_
                            show Steps p.tables e below (s₁.setTop (mkF m 25 #[.val (.ref a1), .val (.int p2), .val (.int (0 : Int32)), .val (.int (15 : Int32)), .val (.int v2), .val (.int (11 : Int32))] [])) _
                            refine XS.iinc X0.here hx rfl (hb hby d11_25) rfl (l' := #[.val (.ref a1), .val (.int p2), .val (.int (0 : Int32)), .val (.int (15 : Int32)), .val (.int v2), .val (.int (12 : Int32))]) rfl ?_
                            show Steps p.tables e below (s₁.setTop (mkF m 28 #[.val (.ref a1), .val (.int p2), .val (.int (0 : Int32)), .val (.int (15 : Int32)), .val (.int v2), .val (.int (12 : Int32))] [])) _
                            refine XS.goto X0.here hx rfl (pc0 := 28) (pc' := 7) rfl (hb hby d11_28) (by decide) (by decide) ?_
                            show Steps p.tables e below (s₁.setTop (mkF m 7 #[.val (.ref a1), .val (.int p2), .val (.int (0 : Int32)), .val (.int (15 : Int32)), .val (.int v2), .val (.int (12 : Int32))] [])) _
                            refine XS.iload X0.here hx rfl (hb hby d11_7) rfl ?_
                            show Steps p.tables e below (s₁.setTop (mkF m 9 #[.val (.ref a1), .val (.int p2), .val (.int (0 : Int32)), .val (.int (15 : Int32)), .val (.int v2), .val (.int (12 : Int32))] [(.int (12 : Int32))])) _
                            refine XS.iloadN X0.here hx rfl (hb hby d11_9) rfl ?_
                            show Steps p.tables e below (s₁.setTop (mkF m 10 #[.val (.ref a1), .val (.int p2), .val (.int (0 : Int32)), .val (.int (15 : Int32)), .val (.int v2), .val (.int (12 : Int32))] [(.int (15 : Int32)), (.int (12 : Int32))])) _
                            refine XS.icmpNo X0.here hx rfl (hb hby d11_10) rfl (tlt (by decide : (12 : Int32) < (15 : Int32))).2.1 ?_
                            show Steps p.tables e below (s₁.setTop (mkF m 13 #[.val (.ref a1), .val (.int p2), .val (.int (0 : Int32)), .val (.int (15 : Int32)), .val (.int v2), .val (.int (12 : Int32))] [])) _
                            refine XS.aloadN X0.here hx rfl (hb hby d11_13) rfl rfl ?_
                            show Steps p.tables e below (s₁.setTop (mkF m 14 #[.val (.ref a1), .val (.int p2), .val (.int (0 : Int32)), .val (.int (15 : Int32)), .val (.int v2), .val (.int (12 : Int32))] [(.ref a1)])) _
                            refine XS.iload X0.here hx rfl (hb hby d11_14) rfl ?_
                            show Steps p.tables e below (s₁.setTop (mkF m 16 #[.val (.ref a1), .val (.int p2), .val (.int (0 : Int32)), .val (.int (15 : Int32)), .val (.int v2), .val (.int (12 : Int32))] [(.int (12 : Int32)), (.ref a1)])) _
                            refine own_ldB X0 hx hZ e0 A0 (by decide) (by decide) (g := (mkF m 16 #[.val (.ref a1), .val (.int p2), .val (.int (0 : Int32)), .val (.int (15 : Int32)), .val (.int v2), .val (.int (12 : Int32))] [(.int (12 : Int32)), (.ref a1)])) rfl rfl (hb hby d11_16) _ ?_
                            show Steps p.tables e below (s₁.setTop (mkF m 17 #[.val (.ref a1), .val (.int p2), .val (.int (0 : Int32)), .val (.int (15 : Int32)), .val (.int v2), .val (.int (12 : Int32))] [(.int (96 : Int32))])) _
                            refine XS.iload X0.here hx rfl (hb hby d11_17) rfl ?_
                            show Steps p.tables e below (s₁.setTop (mkF m 19 #[.val (.ref a1), .val (.int p2), .val (.int (0 : Int32)), .val (.int (15 : Int32)), .val (.int v2), .val (.int (12 : Int32))] [(.int v2), (.int (96 : Int32))])) _
                            exact k
                          by_cases hc19_12 : (96 : Int32) = v2
                          · have pre27 : ∀ t, Steps p.tables e below (s₁.setTop (mkF m 24 #[.val (.ref a1), .val (.int p2), .val (.int (0 : Int32)), .val (.int (15 : Int32)), .val (.int v2), .val (.int (12 : Int32))] [(.int (12 : Int32))])) t → Steps p.tables e below (s₁.setTop (entryFrame m #[(.ref a1), (.int p2), (.int (0 : Int32)), (.int (15 : Int32))] 6)) t := by
                              intro t k
                              refine pre26 t ?_
                              refine XS.icmpNo X0.here hx rfl (hb hby d11_19) rfl (teq hc19_12).2 ?_
                              show Steps p.tables e below (s₁.setTop (mkF m 22 #[.val (.ref a1), .val (.int p2), .val (.int (0 : Int32)), .val (.int (15 : Int32)), .val (.int v2), .val (.int (12 : Int32))] [])) _
                              refine XS.iload X0.here hx rfl (hb hby d11_22) rfl ?_
                              show Steps p.tables e below (s₁.setTop (mkF m 24 #[.val (.ref a1), .val (.int p2), .val (.int (0 : Int32)), .val (.int (15 : Int32)), .val (.int v2), .val (.int (12 : Int32))] [(.int (12 : Int32))])) _
                              exact k
                            obtain ⟨fs, hr, hrun, hended, hW, hsame⟩ := X0.leave (v := some (.int (12 : Int32))) (fun h => by rw [Bd.returns] at h; cases h)
                            refine ⟨_, _, pre27 _ ?_, hrun, hended, _, _, rfl, ?_, ⟨_, rfl⟩, hW, hsame.mono (by decide) (by decide)⟩
                            · show Steps p.tables e below (s₁.setTop (mkF m 24 #[.val (.ref a1), .val (.int p2), .val (.int (0 : Int32)), .val (.int (15 : Int32)), .val (.int v2), .val (.int (12 : Int32))] [(.int (12 : Int32))])) _
                              exact own_retI X0 hx Bd.returns (hb hby d11_24) hr
                            · show Qioc Z a1 p2 h0 n0 _ s₁.heap _
                              rw [e0]
                              refine ⟨?_, N0, rfl⟩
                              subst hv2
                              simp only [fnioc, if_neg hc19, if_neg hc19_1, if_neg hc19_2, if_neg hc19_3, if_neg hc19_4, if_neg hc19_5, if_neg hc19_6, if_neg hc19_7, if_neg hc19_8, if_neg hc19_9, if_neg hc19_10, if_neg hc19_11, if_pos hc19_12]
                          · have pre28 : ∀ t, Steps p.tables e below (s₁.setTop (mkF m 19 #[.val (.ref a1), .val (.int p2), .val (.int (0 : Int32)), .val (.int (15 : Int32)), .val (.int v2), .val (.int (13 : Int32))] [(.int v2), (.int (124 : Int32))])) t → Steps p.tables e below (s₁.setTop (entryFrame m #[(.ref a1), (.int p2), (.int (0 : Int32)), (.int (15 : Int32))] 6)) t := by
                              intro t k
                              refine pre26 t ?_
                              refine XS.icmpYes X0.here hx rfl (pc0 := 19) (pc' := 25) rfl (hb hby d11_19) rfl (feq hc19_12).2 (by decide) (by decide) ?_
                              show Steps p.tables e below (s₁.setTop (mkF m 25 #[.val (.ref a1), .val (.int p2), .val (.int (0 : Int32)), .val (.int (15 : Int32)), .val (.int v2), .val (.int (12 : Int32))] [])) _
                              refine XS.iinc X0.here hx rfl (hb hby d11_25) rfl (l' := #[.val (.ref a1), .val (.int p2), .val (.int (0 : Int32)), .val (.int (15 : Int32)), .val (.int v2), .val (.int (13 : Int32))]) rfl ?_
                              show Steps p.tables e below (s₁.setTop (mkF m 28 #[.val (.ref a1), .val (.int p2), .val (.int (0 : Int32)), .val (.int (15 : Int32)), .val (.int v2), .val (.int (13 : Int32))] [])) _
                              refine XS.goto X0.here hx rfl (pc0 := 28) (pc' := 7) rfl (hb hby d11_28) (by decide) (by decide) ?_
                              show Steps p.tables e below (s₁.setTop (mkF m 7 #[.val (.ref a1), .val (.int p2), .val (.int (0 : Int32)), .val (.int (15 : Int32)), .val (.int v2), .val (.int (13 : Int32))] [])) _
                              refine XS.iload X0.here hx rfl (hb hby d11_7) rfl ?_
                              show Steps p.tables e below (s₁.setTop (mkF m 9 #[.val (.ref a1), .val (.int p2), .val (.int (0 : Int32)), .val (.int (15 : Int32)), .val (.int v2), .val (.int (13 : Int32))] [(.int (13 : Int32))])) _
                              refine XS.iloadN X0.here hx rfl (hb hby d11_9) rfl ?_
                              show Steps p.tables e below (s₁.setTop (mkF m 10 #[.val (.ref a1), .val (.int p2), .val (.int (0 : Int32)), .val (.int (15 : Int32)), .val (.int v2), .val (.int (13 : Int32))] [(.int (15 : Int32)), (.int (13 : Int32))])) _
                              refine XS.icmpNo X0.here hx rfl (hb hby d11_10) rfl (tlt (by decide : (13 : Int32) < (15 : Int32))).2.1 ?_
                              show Steps p.tables e below (s₁.setTop (mkF m 13 #[.val (.ref a1), .val (.int p2), .val (.int (0 : Int32)), .val (.int (15 : Int32)), .val (.int v2), .val (.int (13 : Int32))] [])) _
                              refine XS.aloadN X0.here hx rfl (hb hby d11_13) rfl rfl ?_
                              show Steps p.tables e below (s₁.setTop (mkF m 14 #[.val (.ref a1), .val (.int p2), .val (.int (0 : Int32)), .val (.int (15 : Int32)), .val (.int v2), .val (.int (13 : Int32))] [(.ref a1)])) _
                              refine XS.iload X0.here hx rfl (hb hby d11_14) rfl ?_
                              show Steps p.tables e below (s₁.setTop (mkF m 16 #[.val (.ref a1), .val (.int p2), .val (.int (0 : Int32)), .val (.int (15 : Int32)), .val (.int v2), .val (.int (13 : Int32))] [(.int (13 : Int32)), (.ref a1)])) _
                              refine own_ldB X0 hx hZ e0 A0 (by decide) (by decide) (g := (mkF m 16 #[.val (.ref a1), .val (.int p2), .val (.int (0 : Int32)), .val (.int (15 : Int32)), .val (.int v2), .val (.int (13 : Int32))] [(.int (13 : Int32)), (.ref a1)])) rfl rfl (hb hby d11_16) _ ?_
                              show Steps p.tables e below (s₁.setTop (mkF m 17 #[.val (.ref a1), .val (.int p2), .val (.int (0 : Int32)), .val (.int (15 : Int32)), .val (.int v2), .val (.int (13 : Int32))] [(.int (124 : Int32))])) _
                              refine XS.iload X0.here hx rfl (hb hby d11_17) rfl ?_
                              show Steps p.tables e below (s₁.setTop (mkF m 19 #[.val (.ref a1), .val (.int p2), .val (.int (0 : Int32)), .val (.int (15 : Int32)), .val (.int v2), .val (.int (13 : Int32))] [(.int v2), (.int (124 : Int32))])) _
                              exact k
                            by_cases hc19_13 : (124 : Int32) = v2
                            · have pre29 : ∀ t, Steps p.tables e below (s₁.setTop (mkF m 24 #[.val (.ref a1), .val (.int p2), .val (.int (0 : Int32)), .val (.int (15 : Int32)), .val (.int v2), .val (.int (13 : Int32))] [(.int (13 : Int32))])) t → Steps p.tables e below (s₁.setTop (entryFrame m #[(.ref a1), (.int p2), (.int (0 : Int32)), (.int (15 : Int32))] 6)) t := by
                                intro t k
                                refine pre28 t ?_
                                refine XS.icmpNo X0.here hx rfl (hb hby d11_19) rfl (teq hc19_13).2 ?_
                                show Steps p.tables e below (s₁.setTop (mkF m 22 #[.val (.ref a1), .val (.int p2), .val (.int (0 : Int32)), .val (.int (15 : Int32)), .val (.int v2), .val (.int (13 : Int32))] [])) _
                                refine XS.iload X0.here hx rfl (hb hby d11_22) rfl ?_
                                show Steps p.tables e below (s₁.setTop (mkF m 24 #[.val (.ref a1), .val (.int p2), .val (.int (0 : Int32)), .val (.int (15 : Int32)), .val (.int v2), .val (.int (13 : Int32))] [(.int (13 : Int32))])) _
                                exact k
                              obtain ⟨fs, hr, hrun, hended, hW, hsame⟩ := X0.leave (v := some (.int (13 : Int32))) (fun h => by rw [Bd.returns] at h; cases h)
                              refine ⟨_, _, pre29 _ ?_, hrun, hended, _, _, rfl, ?_, ⟨_, rfl⟩, hW, hsame.mono (by decide) (by decide)⟩
                              · show Steps p.tables e below (s₁.setTop (mkF m 24 #[.val (.ref a1), .val (.int p2), .val (.int (0 : Int32)), .val (.int (15 : Int32)), .val (.int v2), .val (.int (13 : Int32))] [(.int (13 : Int32))])) _
                                exact own_retI X0 hx Bd.returns (hb hby d11_24) hr
                              · show Qioc Z a1 p2 h0 n0 _ s₁.heap _
                                rw [e0]
                                refine ⟨?_, N0, rfl⟩
                                subst hv2
                                simp only [fnioc, if_neg hc19, if_neg hc19_1, if_neg hc19_2, if_neg hc19_3, if_neg hc19_4, if_neg hc19_5, if_neg hc19_6, if_neg hc19_7, if_neg hc19_8, if_neg hc19_9, if_neg hc19_10, if_neg hc19_11, if_neg hc19_12, if_pos hc19_13]
                            · have pre30 : ∀ t, Steps p.tables e below (s₁.setTop (mkF m 19 #[.val (.ref a1), .val (.int p2), .val (.int (0 : Int32)), .val (.int (15 : Int32)), .val (.int v2), .val (.int (14 : Int32))] [(.int v2), (.int (126 : Int32))])) t → Steps p.tables e below (s₁.setTop (entryFrame m #[(.ref a1), (.int p2), (.int (0 : Int32)), (.int (15 : Int32))] 6)) t := by
                                intro t k
                                refine pre28 t ?_
                                refine XS.icmpYes X0.here hx rfl (pc0 := 19) (pc' := 25) rfl (hb hby d11_19) rfl (feq hc19_13).2 (by decide) (by decide) ?_
                                show Steps p.tables e below (s₁.setTop (mkF m 25 #[.val (.ref a1), .val (.int p2), .val (.int (0 : Int32)), .val (.int (15 : Int32)), .val (.int v2), .val (.int (13 : Int32))] [])) _
                                refine XS.iinc X0.here hx rfl (hb hby d11_25) rfl (l' := #[.val (.ref a1), .val (.int p2), .val (.int (0 : Int32)), .val (.int (15 : Int32)), .val (.int v2), .val (.int (14 : Int32))]) rfl ?_
                                show Steps p.tables e below (s₁.setTop (mkF m 28 #[.val (.ref a1), .val (.int p2), .val (.int (0 : Int32)), .val (.int (15 : Int32)), .val (.int v2), .val (.int (14 : Int32))] [])) _
                                refine XS.goto X0.here hx rfl (pc0 := 28) (pc' := 7) rfl (hb hby d11_28) (by decide) (by decide) ?_
                                show Steps p.tables e below (s₁.setTop (mkF m 7 #[.val (.ref a1), .val (.int p2), .val (.int (0 : Int32)), .val (.int (15 : Int32)), .val (.int v2), .val (.int (14 : Int32))] [])) _
                                refine XS.iload X0.here hx rfl (hb hby d11_7) rfl ?_
                                show Steps p.tables e below (s₁.setTop (mkF m 9 #[.val (.ref a1), .val (.int p2), .val (.int (0 : Int32)), .val (.int (15 : Int32)), .val (.int v2), .val (.int (14 : Int32))] [(.int (14 : Int32))])) _
                                refine XS.iloadN X0.here hx rfl (hb hby d11_9) rfl ?_
                                show Steps p.tables e below (s₁.setTop (mkF m 10 #[.val (.ref a1), .val (.int p2), .val (.int (0 : Int32)), .val (.int (15 : Int32)), .val (.int v2), .val (.int (14 : Int32))] [(.int (15 : Int32)), (.int (14 : Int32))])) _
                                refine XS.icmpNo X0.here hx rfl (hb hby d11_10) rfl (tlt (by decide : (14 : Int32) < (15 : Int32))).2.1 ?_
                                show Steps p.tables e below (s₁.setTop (mkF m 13 #[.val (.ref a1), .val (.int p2), .val (.int (0 : Int32)), .val (.int (15 : Int32)), .val (.int v2), .val (.int (14 : Int32))] [])) _
                                refine XS.aloadN X0.here hx rfl (hb hby d11_13) rfl rfl ?_
                                show Steps p.tables e below (s₁.setTop (mkF m 14 #[.val (.ref a1), .val (.int p2), .val (.int (0 : Int32)), .val (.int (15 : Int32)), .val (.int v2), .val (.int (14 : Int32))] [(.ref a1)])) _
                                refine XS.iload X0.here hx rfl (hb hby d11_14) rfl ?_
                                show Steps p.tables e below (s₁.setTop (mkF m 16 #[.val (.ref a1), .val (.int p2), .val (.int (0 : Int32)), .val (.int (15 : Int32)), .val (.int v2), .val (.int (14 : Int32))] [(.int (14 : Int32)), (.ref a1)])) _
                                refine own_ldB X0 hx hZ e0 A0 (by decide) (by decide) (g := (mkF m 16 #[.val (.ref a1), .val (.int p2), .val (.int (0 : Int32)), .val (.int (15 : Int32)), .val (.int v2), .val (.int (14 : Int32))] [(.int (14 : Int32)), (.ref a1)])) rfl rfl (hb hby d11_16) _ ?_
                                show Steps p.tables e below (s₁.setTop (mkF m 17 #[.val (.ref a1), .val (.int p2), .val (.int (0 : Int32)), .val (.int (15 : Int32)), .val (.int v2), .val (.int (14 : Int32))] [(.int (126 : Int32))])) _
                                refine XS.iload X0.here hx rfl (hb hby d11_17) rfl ?_
                                show Steps p.tables e below (s₁.setTop (mkF m 19 #[.val (.ref a1), .val (.int p2), .val (.int (0 : Int32)), .val (.int (15 : Int32)), .val (.int v2), .val (.int (14 : Int32))] [(.int v2), (.int (126 : Int32))])) _
                                exact k
                              by_cases hc19_14 : (126 : Int32) = v2
                              · have pre31 : ∀ t, Steps p.tables e below (s₁.setTop (mkF m 24 #[.val (.ref a1), .val (.int p2), .val (.int (0 : Int32)), .val (.int (15 : Int32)), .val (.int v2), .val (.int (14 : Int32))] [(.int (14 : Int32))])) t → Steps p.tables e below (s₁.setTop (entryFrame m #[(.ref a1), (.int p2), (.int (0 : Int32)), (.int (15 : Int32))] 6)) t := by
                                  intro t k
                                  refine pre30 t ?_
                                  refine XS.icmpNo X0.here hx rfl (hb hby d11_19) rfl (teq hc19_14).2 ?_
                                  show Steps p.tables e below (s₁.setTop (mkF m 22 #[.val (.ref a1), .val (.int p2), .val (.int (0 : Int32)), .val (.int (15 : Int32)), .val (.int v2), .val (.int (14 : Int32))] [])) _
                                  refine XS.iload X0.here hx rfl (hb hby d11_22) rfl ?_
                                  show Steps p.tables e below (s₁.setTop (mkF m 24 #[.val (.ref a1), .val (.int p2), .val (.int (0 : Int32)), .val (.int (15 : Int32)), .val (.int v2), .val (.int (14 : Int32))] [(.int (14 : Int32))])) _
                                  exact k
                                obtain ⟨fs, hr, hrun, hended, hW, hsame⟩ := X0.leave (v := some (.int (14 : Int32))) (fun h => by rw [Bd.returns] at h; cases h)
                                refine ⟨_, _, pre31 _ ?_, hrun, hended, _, _, rfl, ?_, ⟨_, rfl⟩, hW, hsame.mono (by decide) (by decide)⟩
                                · show Steps p.tables e below (s₁.setTop (mkF m 24 #[.val (.ref a1), .val (.int p2), .val (.int (0 : Int32)), .val (.int (15 : Int32)), .val (.int v2), .val (.int (14 : Int32))] [(.int (14 : Int32))])) _
                                  exact own_retI X0 hx Bd.returns (hb hby d11_24) hr
                                · show Qioc Z a1 p2 h0 n0 _ s₁.heap _
                                  rw [e0]
                                  refine ⟨?_, N0, rfl⟩
                                  subst hv2
                                  simp only [fnioc, if_neg hc19, if_neg hc19_1, if_neg hc19_2, if_neg hc19_3, if_neg hc19_4, if_neg hc19_5, if_neg hc19_6, if_neg hc19_7, if_neg hc19_8, if_neg hc19_9, if_neg hc19_10, if_neg hc19_11, if_neg hc19_12, if_neg hc19_13, if_pos hc19_14]
                              · have pre32 : ∀ t, Steps p.tables e below (s₁.setTop (mkF m 32 #[.val (.ref a1), .val (.int p2), .val (.int (0 : Int32)), .val (.int (15 : Int32)), .val (.int v2), .val (.int (15 : Int32))] [(.int (-1 : Int32))])) t → Steps p.tables e below (s₁.setTop (entryFrame m #[(.ref a1), (.int p2), (.int (0 : Int32)), (.int (15 : Int32))] 6)) t := by
                                  intro t k
                                  refine pre30 t ?_
                                  refine XS.icmpYes X0.here hx rfl (pc0 := 19) (pc' := 25) rfl (hb hby d11_19) rfl (feq hc19_14).2 (by decide) (by decide) ?_
                                  show Steps p.tables e below (s₁.setTop (mkF m 25 #[.val (.ref a1), .val (.int p2), .val (.int (0 : Int32)), .val (.int (15 : Int32)), .val (.int v2), .val (.int (14 : Int32))] [])) _
                                  refine XS.iinc X0.here hx rfl (hb hby d11_25) rfl (l' := #[.val (.ref a1), .val (.int p2), .val (.int (0 : Int32)), .val (.int (15 : Int32)), .val (.int v2), .val (.int (15 : Int32))]) rfl ?_
                                  show Steps p.tables e below (s₁.setTop (mkF m 28 #[.val (.ref a1), .val (.int p2), .val (.int (0 : Int32)), .val (.int (15 : Int32)), .val (.int v2), .val (.int (15 : Int32))] [])) _
                                  refine XS.goto X0.here hx rfl (pc0 := 28) (pc' := 7) rfl (hb hby d11_28) (by decide) (by decide) ?_
                                  show Steps p.tables e below (s₁.setTop (mkF m 7 #[.val (.ref a1), .val (.int p2), .val (.int (0 : Int32)), .val (.int (15 : Int32)), .val (.int v2), .val (.int (15 : Int32))] [])) _
                                  refine XS.iload X0.here hx rfl (hb hby d11_7) rfl ?_
                                  show Steps p.tables e below (s₁.setTop (mkF m 9 #[.val (.ref a1), .val (.int p2), .val (.int (0 : Int32)), .val (.int (15 : Int32)), .val (.int v2), .val (.int (15 : Int32))] [(.int (15 : Int32))])) _
                                  refine XS.iloadN X0.here hx rfl (hb hby d11_9) rfl ?_
                                  show Steps p.tables e below (s₁.setTop (mkF m 10 #[.val (.ref a1), .val (.int p2), .val (.int (0 : Int32)), .val (.int (15 : Int32)), .val (.int v2), .val (.int (15 : Int32))] [(.int (15 : Int32)), (.int (15 : Int32))])) _
                                  refine XS.icmpYes X0.here hx rfl (pc0 := 10) (pc' := 31) rfl (hb hby d11_10) rfl (flt (by decide : ¬ (15 : Int32) < (15 : Int32))).2.1 (by decide) (by decide) ?_
                                  show Steps p.tables e below (s₁.setTop (mkF m 31 #[.val (.ref a1), .val (.int p2), .val (.int (0 : Int32)), .val (.int (15 : Int32)), .val (.int v2), .val (.int (15 : Int32))] [])) _
                                  refine XS.iconst X0.here hx rfl (hb hby d11_31) ?_
                                  show Steps p.tables e below (s₁.setTop (mkF m 32 #[.val (.ref a1), .val (.int p2), .val (.int (0 : Int32)), .val (.int (15 : Int32)), .val (.int v2), .val (.int (15 : Int32))] [(.int (-1 : Int32))])) _
                                  exact k
                                obtain ⟨fs, hr, hrun, hended, hW, hsame⟩ := X0.leave (v := some (.int (-1 : Int32))) (fun h => by rw [Bd.returns] at h; cases h)
                                refine ⟨_, _, pre32 _ ?_, hrun, hended, _, _, rfl, ?_, ⟨_, rfl⟩, hW, hsame.mono (by decide) (by decide)⟩
                                · show Steps p.tables e below (s₁.setTop (mkF m 32 #[.val (.ref a1), .val (.int p2), .val (.int (0 : Int32)), .val (.int (15 : Int32)), .val (.int v2), .val (.int (15 : Int32))] [(.int (-1 : Int32))])) _
                                  exact own_retI X0 hx Bd.returns (hb hby d11_32) hr
                                · show Qioc Z a1 p2 h0 n0 _ s₁.heap _
                                  rw [e0]
                                  refine ⟨?_, N0, rfl⟩
                                  subst hv2
                                  simp only [fnioc, if_neg hc19, if_neg hc19_1, if_neg hc19_2, if_neg hc19_3, if_neg hc19_4, if_neg hc19_5, if_neg hc19_6, if_neg hc19_7, if_neg hc19_8, if_neg hc19_9, if_neg hc19_10, if_neg hc19_11, if_neg hc19_12, if_neg hc19_13, if_neg hc19_14]
/-! body 7: indexOf -/
theorem d7_0 : decode jdk_43_method_22_code 0 = .ok (.iload_n 1, 1) := by decide +kernel
theorem d7_1 : decode jdk_43_method_22_code 1 = .ok (.invokestatic 88, 3) := by decide +kernel
theorem d7_4 : decode jdk_43_method_22_code 4 = .ok (.ifCond .ne 5, 3) := by decide +kernel
theorem d7_7 : decode jdk_43_method_22_code 7 = .ok (.iconst (-1), 1) := by decide +kernel
theorem d7_8 : decode jdk_43_method_22_code 8 = .ok (.ireturn, 1) := by decide +kernel
theorem d7_9 : decode jdk_43_method_22_code 9 = .ok (.iload_n 2, 1) := by decide +kernel
theorem d7_10 : decode jdk_43_method_22_code 10 = .ok (.iconst 0, 1) := by decide +kernel
theorem d7_11 : decode jdk_43_method_22_code 11 = .ok (.invokestatic 92, 3) := by decide +kernel
theorem d7_14 : decode jdk_43_method_22_code 14 = .ok (.istore_n 2, 1) := by decide +kernel
theorem d7_15 : decode jdk_43_method_22_code 15 = .ok (.iload_n 3, 1) := by decide +kernel
theorem d7_16 : decode jdk_43_method_22_code 16 = .ok (.aload_n 0, 1) := by decide +kernel
theorem d7_17 : decode jdk_43_method_22_code 17 = .ok (.arraylength, 1) := by decide +kernel
theorem d7_18 : decode jdk_43_method_22_code 18 = .ok (.invokestatic 38, 3) := by decide +kernel
theorem d7_21 : decode jdk_43_method_22_code 21 = .ok (.istore_n 3, 1) := by decide +kernel
theorem d7_22 : decode jdk_43_method_22_code 22 = .ok (.iload_n 2, 1) := by decide +kernel
theorem d7_23 : decode jdk_43_method_22_code 23 = .ok (.iload_n 3, 1) := by decide +kernel
theorem d7_24 : decode jdk_43_method_22_code 24 = .ok (.if_icmp .lt 5, 3) := by decide +kernel
theorem d7_29 : decode jdk_43_method_22_code 29 = .ok (.aload_n 0, 1) := by decide +kernel
theorem d7_30 : decode jdk_43_method_22_code 30 = .ok (.iload_n 1, 1) := by decide +kernel
theorem d7_31 : decode jdk_43_method_22_code 31 = .ok (.iload_n 2, 1) := by decide +kernel
theorem d7_32 : decode jdk_43_method_22_code 32 = .ok (.iload_n 3, 1) := by decide +kernel
theorem d7_33 : decode jdk_43_method_22_code 33 = .ok (.invokestatic 95, 3) := by decide +kernel
theorem d7_36 : decode jdk_43_method_22_code 36 = .ok (.ireturn, 1) := by decide +kernel
theorem pdiox_0 : parseMethodDescriptor "(I)Z" = some ⟨[.int], some .boolean⟩ := by decide +kernel
theorem pdiox_1 : parseMethodDescriptor "(II)I" = some ⟨[.int, .int], some .int⟩ := by decide +kernel
theorem pdiox_2 : parseMethodDescriptor "([BIII)I" = some ⟨[(.array .byte), .int, .int, .int], some .int⟩ := by decide +kernel
theorem pniox : plainName "java/lang/StringLatin1" = true := by first | (simp [plainName, overriddenIn]; done) | decide +kernel
theorem efiox (m : MethodId) (a1 : Addr) (p2 : Int32) : entryFrame m #[(.ref a1), (.int p2), (.int (0 : Int32)), (.int (15 : Int32))] 4 = mkF m 0 #[.val (.ref a1), .val (.int p2), .val (.int (0 : Int32)), .val (.int (15 : Int32))] [] := by first | (simp [entryFrame, mkF, argsToLocals, Value.category]; done) | rfl
def fniox (p2 : Int32) : Int32 :=
  if (fnenc p2) = (0 : Int32) then
    (-1 : Int32)
  else
    (fnioc p2)
def Qiox (Z : State) (a1 : Addr) (p2 : Int32) (h0 : Heap) (n0 : Nat) (v : Option Value) (h : Heap) (L : List Loc) : Prop := v = some (.int (fniox p2)) ∧ Fr n0 L ∧ h = h0
set_option maxRecDepth 65536 in
set_option maxHeartbeats 40000000 in
theorem rmiox (l : Launch) (Z : State) (a0 : Array Value) (hw : ∀ d ∈ tables_1, d.before a0 Z = true) (ws : List Jvm.Cond) (a1 : Addr) (p2 : Int32) (h0 : Heap) (n0 : Nat) (Z0 : n0 ≤ h0.size) (A0 : own_AI Z h0 a1 .byte (15 : Int32) own_tab) :
    MetFree l (⟨"java/lang/StringLatin1", "indexOf", "([BIII)I"⟩ : MethodName) (head1 (Jvm.Cond.code (⟨"java/lang/StringLatin1", "indexOf", "([BIII)I"⟩ : MethodName) jdk_43_method_22_code 4 (some .int) :: ws) ({ frames := 1, cells := 0, slots := 0, locals := 17 } : Room)) (fun a U => a = #[(.ref a1), (.int p2), (.int (0 : Int32)), (.int (15 : Int32))] ∧ Z.Warmed39 U.vm ∧ U.heap = h0) (fun _ _ _ _ _ => True) (fun _ U o U' => ∃ v L, o = .returned v ∧ Qiox Z a1 p2 h0 n0 v U'.heap L ∧ FrameEnd U o U' L ({ frames := 1, cells := 0, slots := 0, locals := 17 } : Room).cells ({ frames := 1, cells := 0, slots := 0, locals := 17 } : Room).slots) := by
  refine MetFree.of_bodySF (plainFor_of_name pniox) hisR ?_
  intro p e s m args below meth c s₁ Bd hml0 hP hK
  obtain ⟨rfl, hZ, hh⟩ := hP
  have hx := Bd.exec
  have hby := Bd.bytes
  have hml : c.maxLocals = 4 := hml0
  have hown : s.vm.findClass "java/lang/StringLatin1" = some m.cls := findClass_of_methodNamed Bd.named
  have hnm := (name_of_methodNamed Bd.named Bd.method).1
  have X0 : Stand p l e ({ frames := 1, cells := 0, slots := 0, locals := 17 } : Room) s m #[(.ref a1), (.int p2), (.int (0 : Int32)), (.int (15 : Int32))] below meth c s₁ [] 0 0 := Stand.of_body Bd
  have e0 : s₁.heap = h0 := by rw [← hh, Bd.state]; rfl
  have N0 := Fr.nil n0
  have pre0 : ∀ t, Steps p.tables e below (s₁.setTop (mkF m 0 #[.val (.ref a1), .val (.int p2), .val (.int (0 : Int32)), .val (.int (15 : Int32))] [])) t → Steps p.tables e below (s₁.setTop (entryFrame m #[(.ref a1), (.int p2), (.int (0 : Int32)), (.int (15 : Int32))] 4)) t := fun t k => castTop (efiox m a1 p2) k
  have pre1 : ∀ t, Steps p.tables e below (s₁.setTop (mkF m 1 #[.val (.ref a1), .val (.int p2), .val (.int (0 : Int32)), .val (.int (15 : Int32))] [(.int p2)])) t → Steps p.tables e below (s₁.setTop (entryFrame m #[(.ref a1), (.int p2), (.int (0 : Int32)), (.int (15 : Int32))] 4)) t := by
    intro t k
    refine pre0 t ?_
    show Steps p.tables e below (s₁.setTop (mkF m 0 #[.val (.ref a1), .val (.int p2), .val (.int (0 : Int32)), .val (.int (15 : Int32))] [])) _
    refine XS.iloadN X0.here hx rfl (hb hby d7_0) rfl ?_
    show Steps p.tables e below (s₁.setTop (mkF m 1 #[.val (.ref a1), .val (.int p2), .val (.int (0 : Int32)), .val (.int (15 : Int32))] [(.int p2)])) _
    exact k
  obtain ⟨_, _, ⟨T2, L2, k2, n2⟩, -, X2, ⟨Lc2, hQ2, l2, y2, z2⟩, st2⟩ := Jvm.LawKit.callS X0 hx (y := (⟨"java/lang/StringLatin1", "canEncode", "(I)Z"⟩ : MethodName)) hown (mvT hZ (hw _ (List.mem_of_getElem? (i := 45) rfl))) (mvT hZ (hw _ (List.mem_of_getElem? (i := 46) rfl))) (mvT hZ (hw _ (List.mem_of_getElem? (i := 43) rfl))) (mvT hZ (hw _ (List.mem_of_getElem? (i := 47) rfl))) (by decide) (backOf (W := 0) (rmenc l Z a0 hw [] p2 h0 n0 Z0) hZ (hw _ (List.mem_of_getElem? (i := 47) rfl)) (hw _ (List.mem_of_getElem? (i := 43) rfl)) (by decide) (by decide)) (g := (mkF m 1 #[.val (.ref a1), .val (.int p2), .val (.int (0 : Int32)), .val (.int (15 : Int32))] [(.int p2)])) rfl (by rw [hml]; rfl) (argsL := [(.int p2)]) (rest := []) (lenOf pdiox_0 rfl) rfl (by show 2 * 0 + _ ≤ _; exact Nat.le_of_eq rfl) (hb hby d7_1) (fun _ _ => ⟨rfl, e0, (by decide : 0 + 0 ≤ _), (by decide : 0 + 0 ≤ _)⟩)
  dsimp only [Pt.U, Pt.locs, Pt.cells, Pt.slots] at X2 l2 y2 z2 st2 hQ2
  subst l2 y2 z2
  obtain ⟨rfl, Nq2, e2⟩ := hQ2
  have N2 := Fr.app N0 Nq2
  have pre2 : ∀ t, Steps p.tables e below (T2.setTop (mkF m 4 #[.val (.ref a1), .val (.int p2), .val (.int (0 : Int32)), .val (.int (15 : Int32))] [(.int (fnenc p2))])) t → Steps p.tables e below (s₁.setTop (entryFrame m #[(.ref a1), (.int p2), (.int (0 : Int32)), (.int (15 : Int32))] 4)) t := fun t k => pre1 t (st2 _ k)
  by_cases hc4 : (fnenc p2) = (0 : Int32)
  · have pre3 : ∀ t, Steps p.tables e below (T2.setTop (mkF m 8 #[.val (.ref a1), .val (.int p2), .val (.int (0 : Int32)), .val (.int (15 : Int32))] [(.int (-1 : Int32))])) t → Steps p.tables e below (s₁.setTop (entryFrame m #[(.ref a1), (.int p2), (.int (0 : Int32)), (.int (15 : Int32))] 4)) t := by
      intro t k
      refine pre2 t ?_
      refine XS.ifNo X2.here hx rfl (hb hby d7_4) rfl ((if0 _ _).trans (teq hc4).2) ?_
      show Steps p.tables e below (T2.setTop (mkF m 7 #[.val (.ref a1), .val (.int p2), .val (.int (0 : Int32)), .val (.int (15 : Int32))] [])) _
      refine XS.iconst X2.here hx rfl (hb hby d7_7) ?_
      show Steps p.tables e below (T2.setTop (mkF m 8 #[.val (.ref a1), .val (.int p2), .val (.int (0 : Int32)), .val (.int (15 : Int32))] [(.int (-1 : Int32))])) _
      exact k
    obtain ⟨fs, hr, hrun, hended, hW, hsame⟩ := X2.leave (v := some (.int (-1 : Int32))) (fun h => by rw [Bd.returns] at h; cases h)
    refine ⟨_, _, pre3 _ ?_, hrun, hended, _, _, rfl, ?_, ⟨_, rfl⟩, hW, hsame.mono (by decide) (by decide)⟩
    · show Steps p.tables e below (T2.setTop (mkF m 8 #[.val (.ref a1), .val (.int p2), .val (.int (0 : Int32)), .val (.int (15 : Int32))] [(.int (-1 : Int32))])) _
      exact own_retI X2 hx Bd.returns (hb hby d7_8) hr
    · show Qiox Z a1 p2 h0 n0 _ T2.heap _
      rw [e2]
      refine ⟨?_, N2, rfl⟩
      simp only [fniox, if_pos hc4]
  · have pre4 : ∀ t, Steps p.tables e below (T2.setTop (mkF m 11 #[.val (.ref a1), .val (.int p2), .val (.int (0 : Int32)), .val (.int (15 : Int32))] [(.int (0 : Int32)), (.int (0 : Int32))])) t → Steps p.tables e below (s₁.setTop (entryFrame m #[(.ref a1), (.int p2), (.int (0 : Int32)), (.int (15 : Int32))] 4)) t := by
      intro t k
      refine pre2 t ?_
      refine XS.ifYes X2.here hx rfl (pc0 := 4) (pc' := 9) rfl (hb hby d7_4) rfl ((if0 _ _).trans (feq hc4).2) (by decide) (by decide) ?_
      show Steps p.tables e below (T2.setTop (mkF m 9 #[.val (.ref a1), .val (.int p2), .val (.int (0 : Int32)), .val (.int (15 : Int32))] [])) _
      refine XS.iloadN X2.here hx rfl (hb hby d7_9) rfl ?_
      show Steps p.tables e below (T2.setTop (mkF m 10 #[.val (.ref a1), .val (.int p2), .val (.int (0 : Int32)), .val (.int (15 : Int32))] [(.int (0 : Int32))])) _
      refine XS.iconst X2.here hx rfl (hb hby d7_10) ?_
      show Steps p.tables e below (T2.setTop (mkF m 11 #[.val (.ref a1), .val (.int p2), .val (.int (0 : Int32)), .val (.int (15 : Int32))] [(.int (0 : Int32)), (.int (0 : Int32))])) _
      exact k
    obtain ⟨_, _, ⟨T5, L5, k5, n5⟩, -, X5, ⟨Lc5, hQ5, l5, y5, z5⟩, st5⟩ := Jvm.LawKit.callS X2 hx (y := (⟨"java/lang/Math", "max", "(II)I"⟩ : MethodName)) hown (mvT hZ (hw _ (List.mem_of_getElem? (i := 48) rfl))) (mvT hZ (hw _ (List.mem_of_getElem? (i := 49) rfl))) (mvT hZ (hw _ (List.mem_of_getElem? (i := 50) rfl))) (mvT hZ (hw _ (List.mem_of_getElem? (i := 51) rfl))) (by decide) (backOf (W := 0) (rmmax l Z a0 hw [] (0 : Int32) (0 : Int32) h0 n0 Z0) hZ (hw _ (List.mem_of_getElem? (i := 51) rfl)) (hw _ (List.mem_of_getElem? (i := 50) rfl)) (by decide) (by decide)) (g := (mkF m 11 #[.val (.ref a1), .val (.int p2), .val (.int (0 : Int32)), .val (.int (15 : Int32))] [(.int (0 : Int32)), (.int (0 : Int32))])) rfl (by rw [hml]; rfl) (argsL := [(.int (0 : Int32)), (.int (0 : Int32))]) (rest := []) (lenOf pdiox_1 rfl) rfl (by show 2 * 0 + _ ≤ _; exact Nat.le_of_eq rfl) (hb hby d7_11) (fun _ _ => ⟨rfl, e2, (by decide : 0 + 0 ≤ _), (by decide : 0 + 0 ≤ _)⟩)
    dsimp only [Pt.U, Pt.locs, Pt.cells, Pt.slots] at X5 l5 y5 z5 st5 hQ5
    subst l5 y5 z5
    obtain ⟨rfl, Nq5, e5⟩ := hQ5
    have N5 := Fr.app N2 Nq5
    have pre5 : ∀ t, Steps p.tables e below (T5.setTop (mkF m 14 #[.val (.ref a1), .val (.int p2), .val (.int (0 : Int32)), .val (.int (15 : Int32))] [(.int (fnmax (0 : Int32) (0 : Int32)))])) t → Steps p.tables e below (s₁.setTop (entryFrame m #[(.ref a1), (.int p2), (.int (0 : Int32)), (.int (15 : Int32))] 4)) t := fun t k => pre4 t (st5 _ k)
    have pre6 : ∀ t, Steps p.tables e below (T5.setTop (mkF m 14 #[.val (.ref a1), .val (.int p2), .val (.int (0 : Int32)), .val (.int (15 : Int32))] [(.int (0 : Int32))])) t → Steps p.tables e below (s₁.setTop (entryFrame m #[(.ref a1), (.int p2), (.int (0 : Int32)), (.int (15 : Int32))] 4)) t := by
      intro t k
      refine pre5 t ?_
      show Steps p.tables e below (T5.setTop (mkF m 14 #[.val (.ref a1), .val (.int p2), .val (.int (0 : Int32)), .val (.int (15 : Int32))] [(.int (0 : Int32))])) _
      exact k
    have pre7 : ∀ t, Steps p.tables e below (T5.setTop (mkF m 18 #[.val (.ref a1), .val (.int p2), .val (.int (0 : Int32)), .val (.int (15 : Int32))] [(.int (15 : Int32)), (.int (15 : Int32))])) t → Steps p.tables e below (s₁.setTop (entryFrame m #[(.ref a1), (.int p2), (.int (0 : Int32)), (.int (15 : Int32))] 4)) t := by
      intro t k
      refine pre6 t ?_
      refine XS.istoreN X5.here hx rfl (hb hby d7_14) rfl (l' := #[.val (.ref a1), .val (.int p2), .val (.int (0 : Int32)), .val (.int (15 : Int32))]) rfl ?_
      show Steps p.tables e below (T5.setTop (mkF m 15 #[.val (.ref a1), .val (.int p2), .val (.int (0 : Int32)), .val (.int (15 : Int32))] [])) _
      refine XS.iloadN X5.here hx rfl (hb hby d7_15) rfl ?_
      show Steps p.tables e below (T5.setTop (mkF m 16 #[.val (.ref a1), .val (.int p2), .val (.int (0 : Int32)), .val (.int (15 : Int32))] [(.int (15 : Int32))])) _
      refine XS.aloadN X5.here hx rfl (hb hby d7_16) rfl rfl ?_
      show Steps p.tables e below (T5.setTop (mkF m 17 #[.val (.ref a1), .val (.int p2), .val (.int (0 : Int32)), .val (.int (15 : Int32))] [(.ref a1), (.int (15 : Int32))])) _
      refine own_lenI X5 hx hZ e5 A0 (g := (mkF m 17 #[.val (.ref a1), .val (.int p2), .val (.int (0 : Int32)), .val (.int (15 : Int32))] [(.ref a1), (.int (15 : Int32))])) rfl rfl (hb hby d7_17) _ ?_
      show Steps p.tables e below (T5.setTop (mkF m 18 #[.val (.ref a1), .val (.int p2), .val (.int (0 : Int32)), .val (.int (15 : Int32))] [(.int (15 : Int32)), (.int (15 : Int32))])) _
      exact k
    obtain ⟨_, _, ⟨T8, L8, k8, n8⟩, -, X8, ⟨Lc8, hQ8, l8, y8, z8⟩, st8⟩ := Jvm.LawKit.callS X5 hx (y := (⟨"java/lang/Math", "min", "(II)I"⟩ : MethodName)) hown (mvT hZ (hw _ (List.mem_of_getElem? (i := 52) rfl))) (mvT hZ (hw _ (List.mem_of_getElem? (i := 53) rfl))) (mvT hZ (hw _ (List.mem_of_getElem? (i := 50) rfl))) (mvT hZ (hw _ (List.mem_of_getElem? (i := 54) rfl))) (by decide) (backOf (W := 0) (rmmin l Z a0 hw [] (15 : Int32) (15 : Int32) h0 n0 Z0) hZ (hw _ (List.mem_of_getElem? (i := 54) rfl)) (hw _ (List.mem_of_getElem? (i := 50) rfl)) (by decide) (by decide)) (g := (mkF m 18 #[.val (.ref a1), .val (.int p2), .val (.int (0 : Int32)), .val (.int (15 : Int32))] [(.int (15 : Int32)), (.int (15 : Int32))])) rfl (by rw [hml]; rfl) (argsL := [(.int (15 : Int32)), (.int (15 : Int32))]) (rest := []) (lenOf pdiox_1 rfl) rfl (by show 2 * 0 + _ ≤ _; exact Nat.le_of_eq rfl) (hb hby d7_18) (fun _ _ => ⟨rfl, e5, (by decide : 0 + 0 ≤ _), (by decide : 0 + 0 ≤ _)⟩)
    dsimp only [Pt.U, Pt.locs, Pt.cells, Pt.slots] at X8 l8 y8 z8 st8 hQ8
    subst l8 y8 z8
    obtain ⟨rfl, Nq8, e8⟩ := hQ8
    have N8 := Fr.app N5 Nq8
    have pre8 : ∀ t, Steps p.tables e below (T8.setTop (mkF m 21 #[.val (.ref a1), .val (.int p2), .val (.int (0 : Int32)), .val (.int (15 : Int32))] [(.int (fnmin (15 : Int32) (15 : Int32)))])) t → Steps p.tables e below (s₁.setTop (entryFrame m #[(.ref a1), (.int p2), (.int (0 : Int32)), (.int (15 : Int32))] 4)) t := fun t k => pre7 t (st8 _ k)
    have pre9 : ∀ t, Steps p.tables e below (T8.setTop (mkF m 21 #[.val (.ref a1), .val (.int p2), .val (.int (0 : Int32)), .val (.int (15 : Int32))] [(.int (15 : Int32))])) t → Steps p.tables e below (s₁.setTop (entryFrame m #[(.ref a1), (.int p2), (.int (0 : Int32)), (.int (15 : Int32))] 4)) t := by
      intro t k
      refine pre8 t ?_
      show Steps p.tables e below (T8.setTop (mkF m 21 #[.val (.ref a1), .val (.int p2), .val (.int (0 : Int32)), .val (.int (15 : Int32))] [(.int (15 : Int32))])) _
      exact k
    have pre10 : ∀ t, Steps p.tables e below (T8.setTop (mkF m 33 #[.val (.ref a1), .val (.int p2), .val (.int (0 : Int32)), .val (.int (15 : Int32))] [(.int (15 : Int32)), (.int (0 : Int32)), (.int p2), (.ref a1)])) t → Steps p.tables e below (s₁.setTop (entryFrame m #[(.ref a1), (.int p2), (.int (0 : Int32)), (.int (15 : Int32))] 4)) t := by
      intro t k
      refine pre9 t ?_
      refine XS.istoreN X8.here hx rfl (hb hby d7_21) rfl (l' := #[.val (.ref a1), .val (.int p2), .val (.int (0 : Int32)), .val (.int (15 : Int32))]) rfl ?_
      show Steps p.tables e below (T8.setTop (mkF m 22 #[.val (.ref a1), .val (.int p2), .val (.int (0 : Int32)), .val (.int (15 : Int32))] [])) _
      refine XS.iloadN X8.here hx rfl (hb hby d7_22) rfl ?_
      show Steps p.tables e below (T8.setTop (mkF m 23 #[.val (.ref a1), .val (.int p2), .val (.int (0 : Int32)), .val (.int (15 : Int32))] [(.int (0 : Int32))])) _
      refine XS.iloadN X8.here hx rfl (hb hby d7_23) rfl ?_
      show Steps p.tables e below (T8.setTop (mkF m 24 #[.val (.ref a1), .val (.int p2), .val (.int (0 : Int32)), .val (.int (15 : Int32))] [(.int (15 : Int32)), (.int (0 : Int32))])) _
      refine XS.icmpYes X8.here hx rfl (pc0 := 24) (pc' := 29) rfl (hb hby d7_24) rfl (tlt (by decide : (0 : Int32) < (15 : Int32))).1 (by decide) (by decide) ?_
      show Steps p.tables e below (T8.setTop (mkF m 29 #[.val (.ref a1), .val (.int p2), .val (.int (0 : Int32)), .val (.int (15 : Int32))] [])) _
      refine XS.aloadN X8.here hx rfl (hb hby d7_29) rfl rfl ?_
      show Steps p.tables e below (T8.setTop (mkF m 30 #[.val (.ref a1), .val (.int p2), .val (.int (0 : Int32)), .val (.int (15 : Int32))] [(.ref a1)])) _
      refine XS.iloadN X8.here hx rfl (hb hby d7_30) rfl ?_
      show Steps p.tables e below (T8.setTop (mkF m 31 #[.val (.ref a1), .val (.int p2), .val (.int (0 : Int32)), .val (.int (15 : Int32))] [(.int p2), (.ref a1)])) _
      refine XS.iloadN X8.here hx rfl (hb hby d7_31) rfl ?_
      show Steps p.tables e below (T8.setTop (mkF m 32 #[.val (.ref a1), .val (.int p2), .val (.int (0 : Int32)), .val (.int (15 : Int32))] [(.int (0 : Int32)), (.int p2), (.ref a1)])) _
      refine XS.iloadN X8.here hx rfl (hb hby d7_32) rfl ?_
      show Steps p.tables e below (T8.setTop (mkF m 33 #[.val (.ref a1), .val (.int p2), .val (.int (0 : Int32)), .val (.int (15 : Int32))] [(.int (15 : Int32)), (.int (0 : Int32)), (.int p2), (.ref a1)])) _
      exact k
    obtain ⟨_, _, ⟨T11, L11, k11, n11⟩, -, X11, ⟨Lc11, hQ11, l11, y11, z11⟩, st11⟩ := Jvm.LawKit.callS X8 hx (y := (⟨"java/lang/StringLatin1", "indexOfChar", "([BIII)I"⟩ : MethodName)) hown (mvT hZ (hw _ (List.mem_of_getElem? (i := 55) rfl))) (mvT hZ (hw _ (List.mem_of_getElem? (i := 56) rfl))) (mvT hZ (hw _ (List.mem_of_getElem? (i := 43) rfl))) (mvT hZ (hw _ (List.mem_of_getElem? (i := 57) rfl))) (by decide) (backOf (W := 0) (rmioc l Z a0 hw [] a1 p2 h0 n0 Z0 A0) hZ (hw _ (List.mem_of_getElem? (i := 57) rfl)) (hw _ (List.mem_of_getElem? (i := 43) rfl)) (by decide) (by decide)) (g := (mkF m 33 #[.val (.ref a1), .val (.int p2), .val (.int (0 : Int32)), .val (.int (15 : Int32))] [(.int (15 : Int32)), (.int (0 : Int32)), (.int p2), (.ref a1)])) rfl (by rw [hml]; rfl) (argsL := [(.ref a1), (.int p2), (.int (0 : Int32)), (.int (15 : Int32))]) (rest := []) (lenOf pdiox_2 rfl) rfl (by show 2 * 0 + _ ≤ _; exact Nat.le_of_eq rfl) (hb hby d7_33) (fun _ _ => ⟨rfl, e8, (by decide : 0 + 0 ≤ _), (by decide : 0 + 0 ≤ _)⟩)
    dsimp only [Pt.U, Pt.locs, Pt.cells, Pt.slots] at X11 l11 y11 z11 st11 hQ11
    subst l11 y11 z11
    obtain ⟨rfl, Nq11, e11⟩ := hQ11
    have N11 := Fr.app N8 Nq11
    have pre11 : ∀ t, Steps p.tables e below (T11.setTop (mkF m 36 #[.val (.ref a1), .val (.int p2), .val (.int (0 : Int32)), .val (.int (15 : Int32))] [(.int (fnioc p2))])) t → Steps p.tables e below (s₁.setTop (entryFrame m #[(.ref a1), (.int p2), (.int (0 : Int32)), (.int (15 : Int32))] 4)) t := fun t k => pre10 t (st11 _ k)
    obtain ⟨fs, hr, hrun, hended, hW, hsame⟩ := X11.leave (v := some (.int (fnioc p2))) (fun h => by rw [Bd.returns] at h; cases h)
    refine ⟨_, _, pre11 _ ?_, hrun, hended, _, _, rfl, ?_, ⟨_, rfl⟩, hW, hsame.mono (by decide) (by decide)⟩
    · show Steps p.tables e below (T11.setTop (mkF m 36 #[.val (.ref a1), .val (.int p2), .val (.int (0 : Int32)), .val (.int (15 : Int32))] [(.int (fnioc p2))])) _
      exact own_retI X11 hx Bd.returns (hb hby d7_36) hr
    · show Qiox Z a1 p2 h0 n0 _ T11.heap _
      rw [e11]
      refine ⟨?_, N11, rfl⟩
      simp only [fniox, if_neg hc4]
/-! body 3: indexOf -/
theorem d3_0 : decode jdk_42_method_80_code 0 = .ok (.aload_n 0, 1) := by decide +kernel
theorem d3_1 : decode jdk_42_method_80_code 1 = .ok (.invokevirtual 492, 3) := by decide +kernel
theorem d3_4 : decode jdk_42_method_80_code 4 = .ok (.ifCond .eq 19, 3) := by decide +kernel
theorem d3_7 : decode jdk_42_method_80_code 7 = .ok (.aload_n 0, 1) := by decide +kernel
theorem d3_8 : decode jdk_42_method_80_code 8 = .ok (.getfield 9, 3) := by decide +kernel
theorem d3_11 : decode jdk_42_method_80_code 11 = .ok (.iload_n 1, 1) := by decide +kernel
theorem d3_12 : decode jdk_42_method_80_code 12 = .ok (.iload_n 2, 1) := by decide +kernel
theorem d3_13 : decode jdk_42_method_80_code 13 = .ok (.aload_n 0, 1) := by decide +kernel
theorem d3_14 : decode jdk_42_method_80_code 14 = .ok (.invokevirtual 505, 3) := by decide +kernel
theorem d3_17 : decode jdk_42_method_80_code 17 = .ok (.invokestatic 637, 3) := by decide +kernel
theorem d3_20 : decode jdk_42_method_80_code 20 = .ok (.goto 16, 3) := by decide +kernel
theorem d3_36 : decode jdk_42_method_80_code 36 = .ok (.ireturn, 1) := by decide +kernel
theorem pdio2_0 : parseMethodDescriptor "()Z" = some ⟨[], some .boolean⟩ := by decide +kernel
theorem pdio2_1 : parseMethodDescriptor "()I" = some ⟨[], some .int⟩ := by decide +kernel
theorem pdio2_2 : parseMethodDescriptor "([BIII)I" = some ⟨[(.array .byte), .int, .int, .int], some .int⟩ := by decide +kernel
theorem pnio2 : plainName "java/lang/String" = true := by first | (simp [plainName, overriddenIn]; done) | decide +kernel
theorem efio2 (m : MethodId) (a1 : Addr) (p2 : Int32) : entryFrame m #[(.ref a1), (.int p2), (.int (0 : Int32))] 3 = mkF m 0 #[.val (.ref a1), .val (.int p2), .val (.int (0 : Int32))] [] := by first | (simp [entryFrame, mkF, argsToLocals, Value.category]; done) | rfl
def fnio2 (p2 : Int32) : Int32 :=
  (fniox p2)
def Qio2 (Z : State) (a1 : Addr) (p2 : Int32) (cx : Int32) (b : Addr) (h0 : Heap) (n0 : Nat) (v : Option Value) (h : Heap) (L : List Loc) : Prop := v = some (.int (fnio2 p2)) ∧ Fr n0 L ∧ h = h0
set_option maxRecDepth 65536 in
set_option maxHeartbeats 40000000 in
theorem rmio2 (l : Launch) (Z : State) (a0 : Array Value) (hw : ∀ d ∈ tables_1, d.before a0 Z = true) (ws : List Jvm.Cond) (a1 : Addr) (p2 : Int32) (cx : Int32) (b : Addr) (h0 : Heap) (n0 : Nat) (Z0 : n0 ≤ h0.size) (S0 : Sta Z h0 "java/lang/String" "COMPACT_STRINGS" "Z" (.int cx)) (hcx : ¬ cx = (0 : Int32)) (Fc : Fld Z h0 a1 "java/lang/String" "coder" "B" (.int (0 : Int32))) (Fv : Fld Z h0 a1 "java/lang/String" "value" "[B" (.ref b)) (A0 : own_AI Z h0 b .byte (15 : Int32) own_tab) (Ex : Exa Z h0 a1 "java/lang/String") :
    MetFree l (⟨"java/lang/String", "indexOf", "(II)I"⟩ : MethodName) (head1 (Jvm.Cond.code (⟨"java/lang/String", "indexOf", "(II)I"⟩ : MethodName) jdk_42_method_80_code 3 (some .int) :: ws) ({ frames := 2, cells := 0, slots := 0, locals := 32 } : Room)) (fun a U => a = #[(.ref a1), (.int p2), (.int (0 : Int32))] ∧ Z.Warmed39 U.vm ∧ U.heap = h0) (fun _ _ _ _ _ => True) (fun _ U o U' => ∃ v L, o = .returned v ∧ Qio2 Z a1 p2 cx b h0 n0 v U'.heap L ∧ FrameEnd U o U' L ({ frames := 2, cells := 0, slots := 0, locals := 32 } : Room).cells ({ frames := 2, cells := 0, slots := 0, locals := 32 } : Room).slots) := by
  refine MetFree.of_bodySF (plainFor_of_name pnio2) hisR ?_
  intro p e s m args below meth c s₁ Bd hml0 hP hK
  obtain ⟨rfl, hZ, hh⟩ := hP
  have hx := Bd.exec
  have hby := Bd.bytes
  have hml : c.maxLocals = 3 := hml0
  have hown : s.vm.findClass "java/lang/String" = some m.cls := findClass_of_methodNamed Bd.named
  have hnm := (name_of_methodNamed Bd.named Bd.method).1
  have X0 : Stand p l e ({ frames := 2, cells := 0, slots := 0, locals := 32 } : Room) s m #[(.ref a1), (.int p2), (.int (0 : Int32))] below meth c s₁ [] 0 0 := Stand.of_body Bd
  have e0 : s₁.heap = h0 := by rw [← hh, Bd.state]; rfl
  have N0 := Fr.nil n0
  have pre0 : ∀ t, Steps p.tables e below (s₁.setTop (mkF m 0 #[.val (.ref a1), .val (.int p2), .val (.int (0 : Int32))] [])) t → Steps p.tables e below (s₁.setTop (entryFrame m #[(.ref a1), (.int p2), (.int (0 : Int32))] 3)) t := fun t k => castTop (efio2 m a1 p2) k
  have pre1 : ∀ t, Steps p.tables e below (s₁.setTop (mkF m 1 #[.val (.ref a1), .val (.int p2), .val (.int (0 : Int32))] [(.ref a1)])) t → Steps p.tables e below (s₁.setTop (entryFrame m #[(.ref a1), (.int p2), (.int (0 : Int32))] 3)) t := by
    intro t k
    refine pre0 t ?_
    show Steps p.tables e below (s₁.setTop (mkF m 0 #[.val (.ref a1), .val (.int p2), .val (.int (0 : Int32))] [])) _
    refine XS.aloadN X0.here hx rfl (hb hby d3_0) rfl rfl ?_
    show Steps p.tables e below (s₁.setTop (mkF m 1 #[.val (.ref a1), .val (.int p2), .val (.int (0 : Int32))] [(.ref a1)])) _
    exact k
  obtain ⟨cq2, kq2, qa2, qb2, qc2⟩ := isOf hZ e0 Ex
  obtain ⟨_, _, ⟨T2, L2, k2, n2⟩, -, X2, ⟨Lc2, hQ2, l2, y2, z2⟩, st2⟩ := X0.virtualBack hx (y := (⟨"java/lang/String", "isLatin1", "()Z"⟩ : MethodName)) (z := (⟨"java/lang/String", "isLatin1", "()Z"⟩ : MethodName)) hown (mvT hZ (hw _ (List.mem_of_getElem? (i := 23) rfl))) (mvT hZ (hw _ (List.mem_of_getElem? (i := 24) rfl))) (notFace_of_selects (args := #[]) (mvT hZ (hw _ (List.mem_of_getElem? (i := 26) rfl)))) (mvT hZ (hw _ (List.mem_of_getElem? (i := 26) rfl))) (mvT hZ (hw _ (List.mem_of_getElem? (i := 25) rfl))) (by decide) (backOf (W := 0) (rmlat l Z a0 hw [] a1 cx h0 n0 Z0 S0 hcx Fc) hZ (hw _ (List.mem_of_getElem? (i := 27) rfl)) (hw _ (List.mem_of_getElem? (i := 6) rfl)) (by decide) (by decide)) qa2 qc2 (g := (mkF m 1 #[.val (.ref a1), .val (.int p2), .val (.int (0 : Int32))] [(.ref a1)])) rfl (by rw [hml]; rfl) (Steps.refl _) (argsL := []) (rest := []) (lenOf pdio2_0 rfl) rfl (by show 2 * 0 + _ ≤ _; exact Nat.le_of_eq rfl) (hb hby d3_1) (fun _ _ => ⟨rfl, e0, (by decide : 0 + 0 ≤ _), (by decide : 0 + 0 ≤ _)⟩)
  dsimp only [Pt.U, Pt.locs, Pt.cells, Pt.slots] at X2 l2 y2 z2 st2 hQ2
  subst l2 y2 z2
  obtain ⟨rfl, Nq2, e2⟩ := hQ2
  have N2 := Fr.app N0 Nq2
  have pre2 : ∀ t, Steps p.tables e below (T2.setTop (mkF m 4 #[.val (.ref a1), .val (.int p2), .val (.int (0 : Int32))] [(.int (fnlat))])) t → Steps p.tables e below (s₁.setTop (entryFrame m #[(.ref a1), (.int p2), (.int (0 : Int32))] 3)) t := fun t k => pre1 t (st2.trans k)
  have pre3 : ∀ t, Steps p.tables e below (T2.setTop (mkF m 8 #[.val (.ref a1), .val (.int p2), .val (.int (0 : Int32))] [(.ref a1)])) t → Steps p.tables e below (s₁.setTop (entryFrame m #[(.ref a1), (.int p2), (.int (0 : Int32))] 3)) t := by
    intro t k
    refine pre2 t ?_
    refine XS.ifNo X2.here hx rfl (hb hby d3_4) rfl ((if0 _ _).trans (feq (by decide : ¬ (fnlat) = (0 : Int32))).1) ?_
    show Steps p.tables e below (T2.setTop (mkF m 7 #[.val (.ref a1), .val (.int p2), .val (.int (0 : Int32))] [])) _
    refine XS.aloadN X2.here hx rfl (hb hby d3_7) rfl rfl ?_
    show Steps p.tables e below (T2.setTop (mkF m 8 #[.val (.ref a1), .val (.int p2), .val (.int (0 : Int32))] [(.ref a1)])) _
    exact k
  obtain ⟨T4, X4, e4, st4⟩ := getF X2 hx hZ hown (host := "") (Or.inl (hw _ (List.mem_of_getElem? (i := 30) rfl))) Via.refl e2 Fv (g := (mkF m 8 #[.val (.ref a1), .val (.int p2), .val (.int (0 : Int32))] [(.ref a1)])) rfl rfl (hb hby d3_8)
  have pre4 : ∀ t, Steps p.tables e below (T4.setTop (mkF m 11 #[.val (.ref a1), .val (.int p2), .val (.int (0 : Int32))] [(.ref b)])) t → Steps p.tables e below (s₁.setTop (entryFrame m #[(.ref a1), (.int p2), (.int (0 : Int32))] 3)) t := fun t k => pre3 t (st4 _ k)
  have pre5 : ∀ t, Steps p.tables e below (T4.setTop (mkF m 14 #[.val (.ref a1), .val (.int p2), .val (.int (0 : Int32))] [(.ref a1), (.int (0 : Int32)), (.int p2), (.ref b)])) t → Steps p.tables e below (s₁.setTop (entryFrame m #[(.ref a1), (.int p2), (.int (0 : Int32))] 3)) t := by
    intro t k
    refine pre4 t ?_
    refine XS.iloadN X4.here hx rfl (hb hby d3_11) rfl ?_
    show Steps p.tables e below (T4.setTop (mkF m 12 #[.val (.ref a1), .val (.int p2), .val (.int (0 : Int32))] [(.int p2), (.ref b)])) _
    refine XS.iloadN X4.here hx rfl (hb hby d3_12) rfl ?_
    show Steps p.tables e below (T4.setTop (mkF m 13 #[.val (.ref a1), .val (.int p2), .val (.int (0 : Int32))] [(.int (0 : Int32)), (.int p2), (.ref b)])) _
    refine XS.aloadN X4.here hx rfl (hb hby d3_13) rfl rfl ?_
    show Steps p.tables e below (T4.setTop (mkF m 14 #[.val (.ref a1), .val (.int p2), .val (.int (0 : Int32))] [(.ref a1), (.int (0 : Int32)), (.int p2), (.ref b)])) _
    exact k
  obtain ⟨cq6, kq6, qa6, qb6, qc6⟩ := isOf hZ e4 Ex
  obtain ⟨_, _, ⟨T6, L6, k6, n6⟩, -, X6, ⟨Lc6, hQ6, l6, y6, z6⟩, st6⟩ := X4.virtualBack hx (y := (⟨"java/lang/String", "length", "()I"⟩ : MethodName)) (z := (⟨"java/lang/String", "length", "()I"⟩ : MethodName)) hown (mvT hZ (hw _ (List.mem_of_getElem? (i := 31) rfl))) (mvT hZ (hw _ (List.mem_of_getElem? (i := 32) rfl))) (notFace_of_selects (args := #[]) (mvT hZ (hw _ (List.mem_of_getElem? (i := 34) rfl)))) (mvT hZ (hw _ (List.mem_of_getElem? (i := 34) rfl))) (mvT hZ (hw _ (List.mem_of_getElem? (i := 33) rfl))) (by decide) (backOf (W := 3) (rmlen l Z a0 hw [] a1 cx b h0 n0 Z0 S0 hcx Fc Fv A0 Ex) hZ (hw _ (List.mem_of_getElem? (i := 35) rfl)) (hw _ (List.mem_of_getElem? (i := 6) rfl)) (by decide) (by decide)) qa6 qc6 (g := (mkF m 14 #[.val (.ref a1), .val (.int p2), .val (.int (0 : Int32))] [(.ref a1), (.int (0 : Int32)), (.int p2), (.ref b)])) rfl (by rw [hml]; rfl) (Steps.refl _) (argsL := []) (rest := [(.int (0 : Int32)), (.int p2), (.ref b)]) (lenOf pdio2_1 rfl) rfl (by show 2 * 0 + _ ≤ _; exact Nat.le_of_eq rfl) (hb hby d3_14) (fun _ _ => ⟨rfl, e4, (by decide : 0 + 0 ≤ _), (by decide : 0 + 0 ≤ _)⟩)
  dsimp only [Pt.U, Pt.locs, Pt.cells, Pt.slots] at X6 l6 y6 z6 st6 hQ6
  subst l6 y6 z6
  obtain ⟨rfl, Nq6, e6⟩ := hQ6
  have N6 := Fr.app N2 Nq6
  have pre6 : ∀ t, Steps p.tables e below (T6.setTop (mkF m 17 #[.val (.ref a1), .val (.int p2), .val (.int (0 : Int32))] [(.int (fnlen)), (.int (0 : Int32)), (.int p2), (.ref b)])) t → Steps p.tables e below (s₁.setTop (entryFrame m #[(.ref a1), (.int p2), (.int (0 : Int32))] 3)) t := fun t k => pre5 t (st6.trans k)
  have pre7 : ∀ t, Steps p.tables e below (T6.setTop (mkF m 17 #[.val (.ref a1), .val (.int p2), .val (.int (0 : Int32))] [(.int (15 : Int32)), (.int (0 : Int32)), (.int p2), (.ref b)])) t → Steps p.tables e below (s₁.setTop (entryFrame m #[(.ref a1), (.int p2), (.int (0 : Int32))] 3)) t := by
    intro t k
    refine pre6 t ?_
    show Steps p.tables e below (T6.setTop (mkF m 17 #[.val (.ref a1), .val (.int p2), .val (.int (0 : Int32))] [(.int (15 : Int32)), (.int (0 : Int32)), (.int p2), (.ref b)])) _
    exact k
  obtain ⟨_, _, ⟨T8, L8, k8, n8⟩, -, X8, ⟨Lc8, hQ8, l8, y8, z8⟩, st8⟩ := Jvm.LawKit.callS X6 hx (y := (⟨"java/lang/StringLatin1", "indexOf", "([BIII)I"⟩ : MethodName)) hown (mvT hZ (hw _ (List.mem_of_getElem? (i := 41) rfl))) (mvT hZ (hw _ (List.mem_of_getElem? (i := 42) rfl))) (mvT hZ (hw _ (List.mem_of_getElem? (i := 43) rfl))) (mvT hZ (hw _ (List.mem_of_getElem? (i := 44) rfl))) (by decide) (backOf (W := 0) (rmiox l Z a0 hw [] b p2 h0 n0 Z0 A0) hZ (hw _ (List.mem_of_getElem? (i := 44) rfl)) (hw _ (List.mem_of_getElem? (i := 43) rfl)) (by decide) (by decide)) (g := (mkF m 17 #[.val (.ref a1), .val (.int p2), .val (.int (0 : Int32))] [(.int (15 : Int32)), (.int (0 : Int32)), (.int p2), (.ref b)])) rfl (by rw [hml]; rfl) (argsL := [(.ref b), (.int p2), (.int (0 : Int32)), (.int (15 : Int32))]) (rest := []) (lenOf pdio2_2 rfl) rfl (by show 2 * 0 + _ ≤ _; exact Nat.le_of_eq rfl) (hb hby d3_17) (fun _ _ => ⟨rfl, e6, (by decide : 0 + 0 ≤ _), (by decide : 0 + 0 ≤ _)⟩)
  dsimp only [Pt.U, Pt.locs, Pt.cells, Pt.slots] at X8 l8 y8 z8 st8 hQ8
  subst l8 y8 z8
  obtain ⟨rfl, Nq8, e8⟩ := hQ8
  have N8 := Fr.app N6 Nq8
  have pre8 : ∀ t, Steps p.tables e below (T8.setTop (mkF m 20 #[.val (.ref a1), .val (.int p2), .val (.int (0 : Int32))] [(.int (fniox p2))])) t → Steps p.tables e below (s₁.setTop (entryFrame m #[(.ref a1), (.int p2), (.int (0 : Int32))] 3)) t := fun t k => pre7 t (st8 _ k)
  have pre9 : ∀ t, Steps p.tables e below (T8.setTop (mkF m 36 #[.val (.ref a1), .val (.int p2), .val (.int (0 : Int32))] [(.int (fniox p2))])) t → Steps p.tables e below (s₁.setTop (entryFrame m #[(.ref a1), (.int p2), (.int (0 : Int32))] 3)) t := by
    intro t k
    refine pre8 t ?_
    refine XS.goto X8.here hx rfl (pc0 := 20) (pc' := 36) rfl (hb hby d3_20) (by decide) (by decide) ?_
    show Steps p.tables e below (T8.setTop (mkF m 36 #[.val (.ref a1), .val (.int p2), .val (.int (0 : Int32))] [(.int (fniox p2))])) _
    exact k
  obtain ⟨fs, hr, hrun, hended, hW, hsame⟩ := X8.leave (v := some (.int (fniox p2))) (fun h => by rw [Bd.returns] at h; cases h)
  refine ⟨_, _, pre9 _ ?_, hrun, hended, _, _, rfl, ?_, ⟨_, rfl⟩, hW, hsame.mono (by decide) (by decide)⟩
  · show Steps p.tables e below (T8.setTop (mkF m 36 #[.val (.ref a1), .val (.int p2), .val (.int (0 : Int32))] [(.int (fniox p2))])) _
    exact own_retI X8 hx Bd.returns (hb hby d3_36) hr
  · show Qio2 Z a1 p2 cx b h0 n0 _ T8.heap _
    rw [e8]
    refine ⟨?_, N8, rfl⟩
    simp only [fnio2]
/-! body 2: indexOf -/
theorem d2_0 : decode jdk_42_method_79_code 0 = .ok (.aload_n 0, 1) := by decide +kernel
theorem d2_1 : decode jdk_42_method_79_code 1 = .ok (.iload_n 1, 1) := by decide +kernel
theorem d2_2 : decode jdk_42_method_79_code 2 = .ok (.iconst 0, 1) := by decide +kernel
theorem d2_3 : decode jdk_42_method_79_code 3 = .ok (.invokevirtual 633, 3) := by decide +kernel
theorem d2_6 : decode jdk_42_method_79_code 6 = .ok (.ireturn, 1) := by decide +kernel
theorem pdio1_0 : parseMethodDescriptor "(II)I" = some ⟨[.int, .int], some .int⟩ := by decide +kernel
theorem pnio1 : plainName "java/lang/String" = true := by first | (simp [plainName, overriddenIn]; done) | decide +kernel
theorem efio1 (m : MethodId) (a1 : Addr) (p2 : Int32) : entryFrame m #[(.ref a1), (.int p2)] 2 = mkF m 0 #[.val (.ref a1), .val (.int p2)] [] := by first | (simp [entryFrame, mkF, argsToLocals, Value.category]; done) | rfl
def fnio1 (p2 : Int32) : Int32 :=
  (fnio2 p2)
def Qio1 (Z : State) (a1 : Addr) (p2 : Int32) (cx : Int32) (b : Addr) (h0 : Heap) (n0 : Nat) (v : Option Value) (h : Heap) (L : List Loc) : Prop := v = some (.int (fnio1 p2)) ∧ Fr n0 L ∧ h = h0
set_option maxRecDepth 65536 in
set_option maxHeartbeats 40000000 in
theorem rmio1 (l : Launch) (Z : State) (a0 : Array Value) (hw : ∀ d ∈ tables_1, d.before a0 Z = true) (ws : List Jvm.Cond) (a1 : Addr) (p2 : Int32) (cx : Int32) (b : Addr) (h0 : Heap) (n0 : Nat) (Z0 : n0 ≤ h0.size) (S0 : Sta Z h0 "java/lang/String" "COMPACT_STRINGS" "Z" (.int cx)) (hcx : ¬ cx = (0 : Int32)) (Fc : Fld Z h0 a1 "java/lang/String" "coder" "B" (.int (0 : Int32))) (Fv : Fld Z h0 a1 "java/lang/String" "value" "[B" (.ref b)) (A0 : own_AI Z h0 b .byte (15 : Int32) own_tab) (Ex : Exa Z h0 a1 "java/lang/String") :
    MetFree l (⟨"java/lang/String", "indexOf", "(I)I"⟩ : MethodName) (head1 (Jvm.Cond.code (⟨"java/lang/String", "indexOf", "(I)I"⟩ : MethodName) jdk_42_method_79_code 2 (some .int) :: ws) ({ frames := 3, cells := 0, slots := 0, locals := 46 } : Room)) (fun a U => a = #[(.ref a1), (.int p2)] ∧ Z.Warmed39 U.vm ∧ U.heap = h0) (fun _ _ _ _ _ => True) (fun _ U o U' => ∃ v L, o = .returned v ∧ Qio1 Z a1 p2 cx b h0 n0 v U'.heap L ∧ FrameEnd U o U' L ({ frames := 3, cells := 0, slots := 0, locals := 46 } : Room).cells ({ frames := 3, cells := 0, slots := 0, locals := 46 } : Room).slots) := by
  refine MetFree.of_bodySF (plainFor_of_name pnio1) hisR ?_
  intro p e s m args below meth c s₁ Bd hml0 hP hK
  obtain ⟨rfl, hZ, hh⟩ := hP
  have hx := Bd.exec
  have hby := Bd.bytes
  have hml : c.maxLocals = 2 := hml0
  have hown : s.vm.findClass "java/lang/String" = some m.cls := findClass_of_methodNamed Bd.named
  have hnm := (name_of_methodNamed Bd.named Bd.method).1
  have X0 : Stand p l e ({ frames := 3, cells := 0, slots := 0, locals := 46 } : Room) s m #[(.ref a1), (.int p2)] below meth c s₁ [] 0 0 := Stand.of_body Bd
  have e0 : s₁.heap = h0 := by rw [← hh, Bd.state]; rfl
  have N0 := Fr.nil n0
  have pre0 : ∀ t, Steps p.tables e below (s₁.setTop (mkF m 0 #[.val (.ref a1), .val (.int p2)] [])) t → Steps p.tables e below (s₁.setTop (entryFrame m #[(.ref a1), (.int p2)] 2)) t := fun t k => castTop (efio1 m a1 p2) k
  have pre1 : ∀ t, Steps p.tables e below (s₁.setTop (mkF m 3 #[.val (.ref a1), .val (.int p2)] [(.int (0 : Int32)), (.int p2), (.ref a1)])) t → Steps p.tables e below (s₁.setTop (entryFrame m #[(.ref a1), (.int p2)] 2)) t := by
    intro t k
    refine pre0 t ?_
    show Steps p.tables e below (s₁.setTop (mkF m 0 #[.val (.ref a1), .val (.int p2)] [])) _
    refine XS.aloadN X0.here hx rfl (hb hby d2_0) rfl rfl ?_
    show Steps p.tables e below (s₁.setTop (mkF m 1 #[.val (.ref a1), .val (.int p2)] [(.ref a1)])) _
    refine XS.iloadN X0.here hx rfl (hb hby d2_1) rfl ?_
    show Steps p.tables e below (s₁.setTop (mkF m 2 #[.val (.ref a1), .val (.int p2)] [(.int p2), (.ref a1)])) _
    refine XS.iconst X0.here hx rfl (hb hby d2_2) ?_
    show Steps p.tables e below (s₁.setTop (mkF m 3 #[.val (.ref a1), .val (.int p2)] [(.int (0 : Int32)), (.int p2), (.ref a1)])) _
    exact k
  obtain ⟨cq2, kq2, qa2, qb2, qc2⟩ := isOf hZ e0 Ex
  obtain ⟨_, _, ⟨T2, L2, k2, n2⟩, -, X2, ⟨Lc2, hQ2, l2, y2, z2⟩, st2⟩ := X0.virtualBack hx (y := (⟨"java/lang/String", "indexOf", "(II)I"⟩ : MethodName)) (z := (⟨"java/lang/String", "indexOf", "(II)I"⟩ : MethodName)) hown (mvT hZ (hw _ (List.mem_of_getElem? (i := 18) rfl))) (mvT hZ (hw _ (List.mem_of_getElem? (i := 19) rfl))) (notFace_of_selects (args := #[]) (mvT hZ (hw _ (List.mem_of_getElem? (i := 21) rfl)))) (mvT hZ (hw _ (List.mem_of_getElem? (i := 21) rfl))) (mvT hZ (hw _ (List.mem_of_getElem? (i := 20) rfl))) (by decide) (backOf (W := 0) (rmio2 l Z a0 hw [] a1 p2 cx b h0 n0 Z0 S0 hcx Fc Fv A0 Ex) hZ (hw _ (List.mem_of_getElem? (i := 22) rfl)) (hw _ (List.mem_of_getElem? (i := 6) rfl)) (by decide) (by decide)) qa2 qc2 (g := (mkF m 3 #[.val (.ref a1), .val (.int p2)] [(.int (0 : Int32)), (.int p2), (.ref a1)])) rfl (by rw [hml]; rfl) (Steps.refl _) (argsL := [(.int p2), (.int (0 : Int32))]) (rest := []) (lenOf pdio1_0 rfl) rfl (by show 2 * 0 + _ ≤ _; exact Nat.le_of_eq rfl) (hb hby d2_3) (fun _ _ => ⟨rfl, e0, (by decide : 0 + 0 ≤ _), (by decide : 0 + 0 ≤ _)⟩)
  dsimp only [Pt.U, Pt.locs, Pt.cells, Pt.slots] at X2 l2 y2 z2 st2 hQ2
  subst l2 y2 z2
  obtain ⟨rfl, Nq2, e2⟩ := hQ2
  have N2 := Fr.app N0 Nq2
  have pre2 : ∀ t, Steps p.tables e below (T2.setTop (mkF m 6 #[.val (.ref a1), .val (.int p2)] [(.int (fnio2 p2))])) t → Steps p.tables e below (s₁.setTop (entryFrame m #[(.ref a1), (.int p2)] 2)) t := fun t k => pre1 t (st2.trans k)
  obtain ⟨fs, hr, hrun, hended, hW, hsame⟩ := X2.leave (v := some (.int (fnio2 p2))) (fun h => by rw [Bd.returns] at h; cases h)
  refine ⟨_, _, pre2 _ ?_, hrun, hended, _, _, rfl, ?_, ⟨_, rfl⟩, hW, hsame.mono (by decide) (by decide)⟩
  · show Steps p.tables e below (T2.setTop (mkF m 6 #[.val (.ref a1), .val (.int p2)] [(.int (fnio2 p2))])) _
    exact own_retI X2 hx Bd.returns (hb hby d2_6) hr
  · show Qio1 Z a1 p2 cx b h0 n0 _ T2.heap _
    rw [e2]
    refine ⟨?_, N2, rfl⟩
    simp only [fnio1]
/-! body 1: isTokenChar -/
theorem d1_0 : decode prog_5_method_4_code 0 = .ok (.iload_n 0, 1) := by decide +kernel
theorem d1_1 : decode prog_5_method_4_code 1 = .ok (.bipush 97, 2) := by decide +kernel
theorem d1_3 : decode prog_5_method_4_code 3 = .ok (.if_icmp .lt 9, 3) := by decide +kernel
theorem d1_6 : decode prog_5_method_4_code 6 = .ok (.iload_n 0, 1) := by decide +kernel
theorem d1_7 : decode prog_5_method_4_code 7 = .ok (.bipush 122, 2) := by decide +kernel
theorem d1_9 : decode prog_5_method_4_code 9 = .ok (.if_icmp .le 27, 3) := by decide +kernel
theorem d1_12 : decode prog_5_method_4_code 12 = .ok (.iload_n 0, 1) := by decide +kernel
theorem d1_13 : decode prog_5_method_4_code 13 = .ok (.bipush 65, 2) := by decide +kernel
theorem d1_15 : decode prog_5_method_4_code 15 = .ok (.if_icmp .lt 9, 3) := by decide +kernel
theorem d1_18 : decode prog_5_method_4_code 18 = .ok (.iload_n 0, 1) := by decide +kernel
theorem d1_19 : decode prog_5_method_4_code 19 = .ok (.bipush 90, 2) := by decide +kernel
theorem d1_21 : decode prog_5_method_4_code 21 = .ok (.if_icmp .le 15, 3) := by decide +kernel
theorem d1_24 : decode prog_5_method_4_code 24 = .ok (.iload_n 0, 1) := by decide +kernel
theorem d1_25 : decode prog_5_method_4_code 25 = .ok (.bipush 48, 2) := by decide +kernel
theorem d1_27 : decode prog_5_method_4_code 27 = .ok (.if_icmp .lt 13, 3) := by decide +kernel
theorem d1_30 : decode prog_5_method_4_code 30 = .ok (.iload_n 0, 1) := by decide +kernel
theorem d1_31 : decode prog_5_method_4_code 31 = .ok (.bipush 57, 2) := by decide +kernel
theorem d1_33 : decode prog_5_method_4_code 33 = .ok (.if_icmp .gt 7, 3) := by decide +kernel
theorem d1_36 : decode prog_5_method_4_code 36 = .ok (.iconst 1, 1) := by decide +kernel
theorem d1_37 : decode prog_5_method_4_code 37 = .ok (.goto 4, 3) := by decide +kernel
theorem d1_40 : decode prog_5_method_4_code 40 = .ok (.iconst 0, 1) := by decide +kernel
theorem d1_41 : decode prog_5_method_4_code 41 = .ok (.istore_n 1, 1) := by decide +kernel
theorem d1_42 : decode prog_5_method_4_code 42 = .ok (.iload_n 1, 1) := by decide +kernel
theorem d1_43 : decode prog_5_method_4_code 43 = .ok (.ifCond .ne 12, 3) := by decide +kernel
theorem d1_46 : decode prog_5_method_4_code 46 = .ok (.ldc 47, 2) := by decide +kernel
theorem d1_48 : decode prog_5_method_4_code 48 = .ok (.iload_n 0, 1) := by decide +kernel
theorem d1_49 : decode prog_5_method_4_code 49 = .ok (.invokevirtual 49, 3) := by decide +kernel
theorem d1_52 : decode prog_5_method_4_code 52 = .ok (.ifCond .lt 7, 3) := by decide +kernel
theorem d1_55 : decode prog_5_method_4_code 55 = .ok (.iconst 1, 1) := by decide +kernel
theorem d1_56 : decode prog_5_method_4_code 56 = .ok (.goto 4, 3) := by decide +kernel
theorem d1_59 : decode prog_5_method_4_code 59 = .ok (.iconst 0, 1) := by decide +kernel
theorem d1_60 : decode prog_5_method_4_code 60 = .ok (.ireturn, 1) := by decide +kernel
theorem pdtok_0 : parseMethodDescriptor "(I)I" = some ⟨[.int], some .int⟩ := by decide +kernel
theorem pntok : plainName "com/example/tally/tally/http/IdempotencyKeyHeader" = true := by first | (simp [plainName, overriddenIn]; done) | decide +kernel
theorem eftok (m : MethodId) (p1 : Int32) : entryFrame m #[(.int p1)] 2 = mkF m 0 #[.val (.int p1), .unset] [] := by first | (simp [entryFrame, mkF, argsToLocals, Value.category]; done) | rfl
def fntok (p1 : Int32) : Int32 :=
  let u41s0 : Int32 := (if p1 < (97 : Int32) then (if p1 < (65 : Int32) then (if p1 < (48 : Int32) then (0 : Int32) else (if (57 : Int32) < p1 then (0 : Int32) else (1 : Int32))) else (if (90 : Int32) < p1 then (if p1 < (48 : Int32) then (0 : Int32) else (if (57 : Int32) < p1 then (0 : Int32) else (1 : Int32))) else (1 : Int32))) else (if (122 : Int32) < p1 then (if p1 < (65 : Int32) then (if p1 < (48 : Int32) then (0 : Int32) else (if (57 : Int32) < p1 then (0 : Int32) else (1 : Int32))) else (if (90 : Int32) < p1 then (if p1 < (48 : Int32) then (0 : Int32) else (if (57 : Int32) < p1 then (0 : Int32) else (1 : Int32))) else (1 : Int32))) else (1 : Int32)))
  if u41s0 = (0 : Int32) then
    let u60s0 : Int32 := (if (fnio1 p1) < (0 : Int32) then (0 : Int32) else (1 : Int32))
    (nar .boolean u60s0)
  else
    (nar .boolean (1 : Int32))
def Qtok (Z : State) (p1 : Int32) (cx : Int32) (h0 : Heap) (n0 : Nat) (v : Option Value) (h : Heap) (L : List Loc) : Prop := v = some (.int (fntok p1)) ∧ Fr n0 L
set_option maxRecDepth 65536 in
set_option maxHeartbeats 40000000 in
theorem rmtok (l : Launch) (Z : State) (a0 : Array Value) (hw : ∀ d ∈ tables_1, d.before a0 Z = true) (ws : List Jvm.Cond) (p1 : Int32) (cx : Int32) (h0 : Heap) (n0 : Nat) (Z0 : n0 ≤ h0.size) (S0 : Sta Z h0 "java/lang/String" "COMPACT_STRINGS" "Z" (.int cx)) (hcx : ¬ cx = (0 : Int32)) (hCH : Jvm.Lit.constHeld Z "com/example/tally/tally/http/IdempotencyKeyHeader" 47) (hcw : Jvm.Lit.compactW.before a0 Z = true) (hZh : h0 = Z.heap) :
    MetFree l (⟨"com/example/tally/tally/http/IdempotencyKeyHeader", "isTokenChar", "(C)Z"⟩ : MethodName) (head1 (Jvm.Cond.code (⟨"com/example/tally/tally/http/IdempotencyKeyHeader", "isTokenChar", "(C)Z"⟩ : MethodName) prog_5_method_4_code 2 (some .boolean) :: ws) ({ frames := 5, cells := 2, slots := 64, locals := 120 } : Room)) (fun a U => a = #[(.int p1)] ∧ Z.Warmed39 U.vm ∧ U.heap = h0 ∧ U.vm.interned = Z.vm.interned) (fun _ _ _ _ _ => True) (fun _ U o U' => ∃ v L, o = .returned v ∧ Qtok Z p1 cx h0 n0 v U'.heap L ∧ ReturnedEndW U o U' L ({ frames := 5, cells := 2, slots := 64, locals := 120 } : Room).cells ({ frames := 5, cells := 2, slots := 64, locals := 120 } : Room).slots) := by
  refine MetFree.of_bodySF (plainFor_of_name pntok) hisR ?_
  intro p e s m args below meth c s₁ Bd hml0 hP hK
  obtain ⟨rfl, hZ, hh, hI⟩ := hP
  have hx := Bd.exec
  have hby := Bd.bytes
  have hml : c.maxLocals = 2 := hml0
  have hown : s.vm.findClass "com/example/tally/tally/http/IdempotencyKeyHeader" = some m.cls := findClass_of_methodNamed Bd.named
  have hnm := (name_of_methodNamed Bd.named Bd.method).1
  have X0 : Stand p l e ({ frames := 5, cells := 2, slots := 64, locals := 120 } : Room) s m #[(.int p1)] below meth c s₁ [] 0 0 := Stand.of_body Bd
  have e0 : s₁.heap = h0 := by rw [← hh, Bd.state]; rfl
  have N0 := Fr.nil n0
  have pre0 : ∀ t, Steps p.tables e below (s₁.setTop (mkF m 0 #[.val (.int p1), .unset] [])) t → Steps p.tables e below (s₁.setTop (entryFrame m #[(.int p1)] 2)) t := fun t k => castTop (eftok m p1) k
  have hS0 : s.Since s.vm 0 := (State.WarmedH.refl s).since 0
  have hk0 : 0 ≤ h0.size := Nat.zero_le _
  obtain ⟨u41s0, hu41s0⟩ : ∃ z : Int32, z = (if p1 < (97 : Int32) then (if p1 < (65 : Int32) then (if p1 < (48 : Int32) then (0 : Int32) else (if (57 : Int32) < p1 then (0 : Int32) else (1 : Int32))) else (if (90 : Int32) < p1 then (if p1 < (48 : Int32) then (0 : Int32) else (if (57 : Int32) < p1 then (0 : Int32) else (1 : Int32))) else (1 : Int32))) else (if (122 : Int32) < p1 then (if p1 < (65 : Int32) then (if p1 < (48 : Int32) then (0 : Int32) else (if (57 : Int32) < p1 then (0 : Int32) else (1 : Int32))) else (if (90 : Int32) < p1 then (if p1 < (48 : Int32) then (0 : Int32) else (if (57 : Int32) < p1 then (0 : Int32) else (1 : Int32))) else (1 : Int32))) else (1 : Int32))) := ⟨_, rfl⟩
  have pre1 : ∀ t, Steps p.tables e below (s₁.setTop (mkF m 41 #[.val (.int p1), .unset] [(.int u41s0)])) t → Steps p.tables e below (s₁.setTop (entryFrame m #[(.int p1)] 2)) t := by
    intro t k
    subst hu41s0
    refine pre0 t ?_
    show Steps p.tables e below (s₁.setTop (mkF m 0 #[.val (.int p1), .unset] [])) _
    refine XS.iloadN X0.here hx rfl (hb hby d1_0) rfl ?_
    show Steps p.tables e below (s₁.setTop (mkF m 1 #[.val (.int p1), .unset] [(.int p1)])) _
    refine XS.bipush X0.here hx rfl (hb hby d1_1) ?_
    show Steps p.tables e below (s₁.setTop (mkF m 3 #[.val (.int p1), .unset] [(.int (97 : Int32)), (.int p1)])) _
    by_cases hb3 : p1 < (97 : Int32)
    · refine XS.icmpYes X0.here hx rfl (pc0 := 3) (pc' := 12) rfl (hb hby d1_3) rfl (tlt hb3).1 (by decide) (by decide) ?_
      show Steps p.tables e below (s₁.setTop (mkF m 12 #[.val (.int p1), .unset] [])) _
      refine XS.iloadN X0.here hx rfl (hb hby d1_12) rfl ?_
      show Steps p.tables e below (s₁.setTop (mkF m 13 #[.val (.int p1), .unset] [(.int p1)])) _
      refine XS.bipush X0.here hx rfl (hb hby d1_13) ?_
      show Steps p.tables e below (s₁.setTop (mkF m 15 #[.val (.int p1), .unset] [(.int (65 : Int32)), (.int p1)])) _
      by_cases hb15 : p1 < (65 : Int32)
      · refine XS.icmpYes X0.here hx rfl (pc0 := 15) (pc' := 24) rfl (hb hby d1_15) rfl (tlt hb15).1 (by decide) (by decide) ?_
        show Steps p.tables e below (s₁.setTop (mkF m 24 #[.val (.int p1), .unset] [])) _
        refine XS.iloadN X0.here hx rfl (hb hby d1_24) rfl ?_
        show Steps p.tables e below (s₁.setTop (mkF m 25 #[.val (.int p1), .unset] [(.int p1)])) _
        refine XS.bipush X0.here hx rfl (hb hby d1_25) ?_
        show Steps p.tables e below (s₁.setTop (mkF m 27 #[.val (.int p1), .unset] [(.int (48 : Int32)), (.int p1)])) _
        by_cases hb27 : p1 < (48 : Int32)
        · simp only [if_pos hb3, if_pos hb15, if_pos hb27] at k
          refine XS.icmpYes X0.here hx rfl (pc0 := 27) (pc' := 40) rfl (hb hby d1_27) rfl (tlt hb27).1 (by decide) (by decide) ?_
          show Steps p.tables e below (s₁.setTop (mkF m 40 #[.val (.int p1), .unset] [])) _
          refine XS.iconst X0.here hx rfl (hb hby d1_40) ?_
          show Steps p.tables e below (s₁.setTop (mkF m 41 #[.val (.int p1), .unset] [(.int (0 : Int32))])) _
          exact k
        · refine XS.icmpNo X0.here hx rfl (hb hby d1_27) rfl (flt hb27).1 ?_
          show Steps p.tables e below (s₁.setTop (mkF m 30 #[.val (.int p1), .unset] [])) _
          refine XS.iloadN X0.here hx rfl (hb hby d1_30) rfl ?_
          show Steps p.tables e below (s₁.setTop (mkF m 31 #[.val (.int p1), .unset] [(.int p1)])) _
          refine XS.bipush X0.here hx rfl (hb hby d1_31) ?_
          show Steps p.tables e below (s₁.setTop (mkF m 33 #[.val (.int p1), .unset] [(.int (57 : Int32)), (.int p1)])) _
          by_cases hb33 : (57 : Int32) < p1
          · simp only [if_pos hb3, if_pos hb15, if_neg hb27, if_pos hb33] at k
            refine XS.icmpYes X0.here hx rfl (pc0 := 33) (pc' := 40) rfl (hb hby d1_33) rfl (tlt hb33).2.2.1 (by decide) (by decide) ?_
            show Steps p.tables e below (s₁.setTop (mkF m 40 #[.val (.int p1), .unset] [])) _
            refine XS.iconst X0.here hx rfl (hb hby d1_40) ?_
            show Steps p.tables e below (s₁.setTop (mkF m 41 #[.val (.int p1), .unset] [(.int (0 : Int32))])) _
            exact k
          · simp only [if_pos hb3, if_pos hb15, if_neg hb27, if_neg hb33] at k
            refine XS.icmpNo X0.here hx rfl (hb hby d1_33) rfl (flt hb33).2.2.1 ?_
            show Steps p.tables e below (s₁.setTop (mkF m 36 #[.val (.int p1), .unset] [])) _
            refine XS.iconst X0.here hx rfl (hb hby d1_36) ?_
            show Steps p.tables e below (s₁.setTop (mkF m 37 #[.val (.int p1), .unset] [(.int (1 : Int32))])) _
            refine XS.goto X0.here hx rfl (pc0 := 37) (pc' := 41) rfl (hb hby d1_37) (by decide) (by decide) ?_
            show Steps p.tables e below (s₁.setTop (mkF m 41 #[.val (.int p1), .unset] [(.int (1 : Int32))])) _
            exact k
      · refine XS.icmpNo X0.here hx rfl (hb hby d1_15) rfl (flt hb15).1 ?_
        show Steps p.tables e below (s₁.setTop (mkF m 18 #[.val (.int p1), .unset] [])) _
        refine XS.iloadN X0.here hx rfl (hb hby d1_18) rfl ?_
        show Steps p.tables e below (s₁.setTop (mkF m 19 #[.val (.int p1), .unset] [(.int p1)])) _
        refine XS.bipush X0.here hx rfl (hb hby d1_19) ?_
        show Steps p.tables e below (s₁.setTop (mkF m 21 #[.val (.int p1), .unset] [(.int (90 : Int32)), (.int p1)])) _
        by_cases hb21 : (90 : Int32) < p1
        · refine XS.icmpNo X0.here hx rfl (hb hby d1_21) rfl (tlt hb21).2.2.2 ?_
          show Steps p.tables e below (s₁.setTop (mkF m 24 #[.val (.int p1), .unset] [])) _
          refine XS.iloadN X0.here hx rfl (hb hby d1_24) rfl ?_
          show Steps p.tables e below (s₁.setTop (mkF m 25 #[.val (.int p1), .unset] [(.int p1)])) _
          refine XS.bipush X0.here hx rfl (hb hby d1_25) ?_
          show Steps p.tables e below (s₁.setTop (mkF m 27 #[.val (.int p1), .unset] [(.int (48 : Int32)), (.int p1)])) _
          by_cases hb27 : p1 < (48 : Int32)
          · simp only [if_pos hb3, if_neg hb15, if_pos hb21, if_pos hb27] at k
            refine XS.icmpYes X0.here hx rfl (pc0 := 27) (pc' := 40) rfl (hb hby d1_27) rfl (tlt hb27).1 (by decide) (by decide) ?_
            show Steps p.tables e below (s₁.setTop (mkF m 40 #[.val (.int p1), .unset] [])) _
            refine XS.iconst X0.here hx rfl (hb hby d1_40) ?_
            show Steps p.tables e below (s₁.setTop (mkF m 41 #[.val (.int p1), .unset] [(.int (0 : Int32))])) _
            exact k
          · refine XS.icmpNo X0.here hx rfl (hb hby d1_27) rfl (flt hb27).1 ?_
            show Steps p.tables e below (s₁.setTop (mkF m 30 #[.val (.int p1), .unset] [])) _
            refine XS.iloadN X0.here hx rfl (hb hby d1_30) rfl ?_
            show Steps p.tables e below (s₁.setTop (mkF m 31 #[.val (.int p1), .unset] [(.int p1)])) _
            refine XS.bipush X0.here hx rfl (hb hby d1_31) ?_
            show Steps p.tables e below (s₁.setTop (mkF m 33 #[.val (.int p1), .unset] [(.int (57 : Int32)), (.int p1)])) _
            by_cases hb33 : (57 : Int32) < p1
            · simp only [if_pos hb3, if_neg hb15, if_pos hb21, if_neg hb27, if_pos hb33] at k
              refine XS.icmpYes X0.here hx rfl (pc0 := 33) (pc' := 40) rfl (hb hby d1_33) rfl (tlt hb33).2.2.1 (by decide) (by decide) ?_
              show Steps p.tables e below (s₁.setTop (mkF m 40 #[.val (.int p1), .unset] [])) _
              refine XS.iconst X0.here hx rfl (hb hby d1_40) ?_
              show Steps p.tables e below (s₁.setTop (mkF m 41 #[.val (.int p1), .unset] [(.int (0 : Int32))])) _
              exact k
            · simp only [if_pos hb3, if_neg hb15, if_pos hb21, if_neg hb27, if_neg hb33] at k
              refine XS.icmpNo X0.here hx rfl (hb hby d1_33) rfl (flt hb33).2.2.1 ?_
              show Steps p.tables e below (s₁.setTop (mkF m 36 #[.val (.int p1), .unset] [])) _
              refine XS.iconst X0.here hx rfl (hb hby d1_36) ?_
              show Steps p.tables e below (s₁.setTop (mkF m 37 #[.val (.int p1), .unset] [(.int (1 : Int32))])) _
              refine XS.goto X0.here hx rfl (pc0 := 37) (pc' := 41) rfl (hb hby d1_37) (by decide) (by decide) ?_
              show Steps p.tables e below (s₁.setTop (mkF m 41 #[.val (.int p1), .unset] [(.int (1 : Int32))])) _
              exact k
        · simp only [if_pos hb3, if_neg hb15, if_neg hb21] at k
          refine XS.icmpYes X0.here hx rfl (pc0 := 21) (pc' := 36) rfl (hb hby d1_21) rfl (flt hb21).2.2.2 (by decide) (by decide) ?_
          show Steps p.tables e below (s₁.setTop (mkF m 36 #[.val (.int p1), .unset] [])) _
          refine XS.iconst X0.here hx rfl (hb hby d1_36) ?_
          show Steps p.tables e below (s₁.setTop (mkF m 37 #[.val (.int p1), .unset] [(.int (1 : Int32))])) _
          refine XS.goto X0.here hx rfl (pc0 := 37) (pc' := 41) rfl (hb hby d1_37) (by decide) (by decide) ?_
          show Steps p.tables e below (s₁.setTop (mkF m 41 #[.val (.int p1), .unset] [(.int (1 : Int32))])) _
          exact k
    · refine XS.icmpNo X0.here hx rfl (hb hby d1_3) rfl (flt hb3).1 ?_
      show Steps p.tables e below (s₁.setTop (mkF m 6 #[.val (.int p1), .unset] [])) _
      refine XS.iloadN X0.here hx rfl (hb hby d1_6) rfl ?_
      show Steps p.tables e below (s₁.setTop (mkF m 7 #[.val (.int p1), .unset] [(.int p1)])) _
      refine XS.bipush X0.here hx rfl (hb hby d1_7) ?_
      show Steps p.tables e below (s₁.setTop (mkF m 9 #[.val (.int p1), .unset] [(.int (122 : Int32)), (.int p1)])) _
      by_cases hb9 : (122 : Int32) < p1
      · refine XS.icmpNo X0.here hx rfl (hb hby d1_9) rfl (tlt hb9).2.2.2 ?_
        show Steps p.tables e below (s₁.setTop (mkF m 12 #[.val (.int p1), .unset] [])) _
        refine XS.iloadN X0.here hx rfl (hb hby d1_12) rfl ?_
        show Steps p.tables e below (s₁.setTop (mkF m 13 #[.val (.int p1), .unset] [(.int p1)])) _
        refine XS.bipush X0.here hx rfl (hb hby d1_13) ?_
        show Steps p.tables e below (s₁.setTop (mkF m 15 #[.val (.int p1), .unset] [(.int (65 : Int32)), (.int p1)])) _
        by_cases hb15 : p1 < (65 : Int32)
        · refine XS.icmpYes X0.here hx rfl (pc0 := 15) (pc' := 24) rfl (hb hby d1_15) rfl (tlt hb15).1 (by decide) (by decide) ?_
          show Steps p.tables e below (s₁.setTop (mkF m 24 #[.val (.int p1), .unset] [])) _
          refine XS.iloadN X0.here hx rfl (hb hby d1_24) rfl ?_
          show Steps p.tables e below (s₁.setTop (mkF m 25 #[.val (.int p1), .unset] [(.int p1)])) _
          refine XS.bipush X0.here hx rfl (hb hby d1_25) ?_
          show Steps p.tables e below (s₁.setTop (mkF m 27 #[.val (.int p1), .unset] [(.int (48 : Int32)), (.int p1)])) _
          by_cases hb27 : p1 < (48 : Int32)
          · simp only [if_neg hb3, if_pos hb9, if_pos hb15, if_pos hb27] at k
            refine XS.icmpYes X0.here hx rfl (pc0 := 27) (pc' := 40) rfl (hb hby d1_27) rfl (tlt hb27).1 (by decide) (by decide) ?_
            show Steps p.tables e below (s₁.setTop (mkF m 40 #[.val (.int p1), .unset] [])) _
            refine XS.iconst X0.here hx rfl (hb hby d1_40) ?_
            show Steps p.tables e below (s₁.setTop (mkF m 41 #[.val (.int p1), .unset] [(.int (0 : Int32))])) _
            exact k
          · refine XS.icmpNo X0.here hx rfl (hb hby d1_27) rfl (flt hb27).1 ?_
            show Steps p.tables e below (s₁.setTop (mkF m 30 #[.val (.int p1), .unset] [])) _
            refine XS.iloadN X0.here hx rfl (hb hby d1_30) rfl ?_
            show Steps p.tables e below (s₁.setTop (mkF m 31 #[.val (.int p1), .unset] [(.int p1)])) _
            refine XS.bipush X0.here hx rfl (hb hby d1_31) ?_
            show Steps p.tables e below (s₁.setTop (mkF m 33 #[.val (.int p1), .unset] [(.int (57 : Int32)), (.int p1)])) _
            by_cases hb33 : (57 : Int32) < p1
            · simp only [if_neg hb3, if_pos hb9, if_pos hb15, if_neg hb27, if_pos hb33] at k
              refine XS.icmpYes X0.here hx rfl (pc0 := 33) (pc' := 40) rfl (hb hby d1_33) rfl (tlt hb33).2.2.1 (by decide) (by decide) ?_
              show Steps p.tables e below (s₁.setTop (mkF m 40 #[.val (.int p1), .unset] [])) _
              refine XS.iconst X0.here hx rfl (hb hby d1_40) ?_
              show Steps p.tables e below (s₁.setTop (mkF m 41 #[.val (.int p1), .unset] [(.int (0 : Int32))])) _
              exact k
            · simp only [if_neg hb3, if_pos hb9, if_pos hb15, if_neg hb27, if_neg hb33] at k
              refine XS.icmpNo X0.here hx rfl (hb hby d1_33) rfl (flt hb33).2.2.1 ?_
              show Steps p.tables e below (s₁.setTop (mkF m 36 #[.val (.int p1), .unset] [])) _
              refine XS.iconst X0.here hx rfl (hb hby d1_36) ?_
              show Steps p.tables e below (s₁.setTop (mkF m 37 #[.val (.int p1), .unset] [(.int (1 : Int32))])) _
              refine XS.goto X0.here hx rfl (pc0 := 37) (pc' := 41) rfl (hb hby d1_37) (by decide) (by decide) ?_
              show Steps p.tables e below (s₁.setTop (mkF m 41 #[.val (.int p1), .unset] [(.int (1 : Int32))])) _
              exact k
        · refine XS.icmpNo X0.here hx rfl (hb hby d1_15) rfl (flt hb15).1 ?_
          show Steps p.tables e below (s₁.setTop (mkF m 18 #[.val (.int p1), .unset] [])) _
          refine XS.iloadN X0.here hx rfl (hb hby d1_18) rfl ?_
          show Steps p.tables e below (s₁.setTop (mkF m 19 #[.val (.int p1), .unset] [(.int p1)])) _
          refine XS.bipush X0.here hx rfl (hb hby d1_19) ?_
          show Steps p.tables e below (s₁.setTop (mkF m 21 #[.val (.int p1), .unset] [(.int (90 : Int32)), (.int p1)])) _
          by_cases hb21 : (90 : Int32) < p1
          · refine XS.icmpNo X0.here hx rfl (hb hby d1_21) rfl (tlt hb21).2.2.2 ?_
            show Steps p.tables e below (s₁.setTop (mkF m 24 #[.val (.int p1), .unset] [])) _
            refine XS.iloadN X0.here hx rfl (hb hby d1_24) rfl ?_
            show Steps p.tables e below (s₁.setTop (mkF m 25 #[.val (.int p1), .unset] [(.int p1)])) _
            refine XS.bipush X0.here hx rfl (hb hby d1_25) ?_
            show Steps p.tables e below (s₁.setTop (mkF m 27 #[.val (.int p1), .unset] [(.int (48 : Int32)), (.int p1)])) _
            by_cases hb27 : p1 < (48 : Int32)
            · simp only [if_neg hb3, if_pos hb9, if_neg hb15, if_pos hb21, if_pos hb27] at k
              refine XS.icmpYes X0.here hx rfl (pc0 := 27) (pc' := 40) rfl (hb hby d1_27) rfl (tlt hb27).1 (by decide) (by decide) ?_
              show Steps p.tables e below (s₁.setTop (mkF m 40 #[.val (.int p1), .unset] [])) _
              refine XS.iconst X0.here hx rfl (hb hby d1_40) ?_
              show Steps p.tables e below (s₁.setTop (mkF m 41 #[.val (.int p1), .unset] [(.int (0 : Int32))])) _
              exact k
            · refine XS.icmpNo X0.here hx rfl (hb hby d1_27) rfl (flt hb27).1 ?_
              show Steps p.tables e below (s₁.setTop (mkF m 30 #[.val (.int p1), .unset] [])) _
              refine XS.iloadN X0.here hx rfl (hb hby d1_30) rfl ?_
              show Steps p.tables e below (s₁.setTop (mkF m 31 #[.val (.int p1), .unset] [(.int p1)])) _
              refine XS.bipush X0.here hx rfl (hb hby d1_31) ?_
              show Steps p.tables e below (s₁.setTop (mkF m 33 #[.val (.int p1), .unset] [(.int (57 : Int32)), (.int p1)])) _
              by_cases hb33 : (57 : Int32) < p1
              · simp only [if_neg hb3, if_pos hb9, if_neg hb15, if_pos hb21, if_neg hb27, if_pos hb33] at k
                refine XS.icmpYes X0.here hx rfl (pc0 := 33) (pc' := 40) rfl (hb hby d1_33) rfl (tlt hb33).2.2.1 (by decide) (by decide) ?_
                show Steps p.tables e below (s₁.setTop (mkF m 40 #[.val (.int p1), .unset] [])) _
                refine XS.iconst X0.here hx rfl (hb hby d1_40) ?_
                show Steps p.tables e below (s₁.setTop (mkF m 41 #[.val (.int p1), .unset] [(.int (0 : Int32))])) _
                exact k
              · simp only [if_neg hb3, if_pos hb9, if_neg hb15, if_pos hb21, if_neg hb27, if_neg hb33] at k
                refine XS.icmpNo X0.here hx rfl (hb hby d1_33) rfl (flt hb33).2.2.1 ?_
                show Steps p.tables e below (s₁.setTop (mkF m 36 #[.val (.int p1), .unset] [])) _
                refine XS.iconst X0.here hx rfl (hb hby d1_36) ?_
                show Steps p.tables e below (s₁.setTop (mkF m 37 #[.val (.int p1), .unset] [(.int (1 : Int32))])) _
                refine XS.goto X0.here hx rfl (pc0 := 37) (pc' := 41) rfl (hb hby d1_37) (by decide) (by decide) ?_
                show Steps p.tables e below (s₁.setTop (mkF m 41 #[.val (.int p1), .unset] [(.int (1 : Int32))])) _
                exact k
          · simp only [if_neg hb3, if_pos hb9, if_neg hb15, if_neg hb21] at k
            refine XS.icmpYes X0.here hx rfl (pc0 := 21) (pc' := 36) rfl (hb hby d1_21) rfl (flt hb21).2.2.2 (by decide) (by decide) ?_
            show Steps p.tables e below (s₁.setTop (mkF m 36 #[.val (.int p1), .unset] [])) _
            refine XS.iconst X0.here hx rfl (hb hby d1_36) ?_
            show Steps p.tables e below (s₁.setTop (mkF m 37 #[.val (.int p1), .unset] [(.int (1 : Int32))])) _
            refine XS.goto X0.here hx rfl (pc0 := 37) (pc' := 41) rfl (hb hby d1_37) (by decide) (by decide) ?_
            show Steps p.tables e below (s₁.setTop (mkF m 41 #[.val (.int p1), .unset] [(.int (1 : Int32))])) _
            exact k
      · simp only [if_neg hb3, if_neg hb9] at k
        refine XS.icmpYes X0.here hx rfl (pc0 := 9) (pc' := 36) rfl (hb hby d1_9) rfl (flt hb9).2.2.2 (by decide) (by decide) ?_
        show Steps p.tables e below (s₁.setTop (mkF m 36 #[.val (.int p1), .unset] [])) _
        refine XS.iconst X0.here hx rfl (hb hby d1_36) ?_
        show Steps p.tables e below (s₁.setTop (mkF m 37 #[.val (.int p1), .unset] [(.int (1 : Int32))])) _
        refine XS.goto X0.here hx rfl (pc0 := 37) (pc' := 41) rfl (hb hby d1_37) (by decide) (by decide) ?_
        show Steps p.tables e below (s₁.setTop (mkF m 41 #[.val (.int p1), .unset] [(.int (1 : Int32))])) _
        exact k
  have pre2 : ∀ t, Steps p.tables e below (s₁.setTop (mkF m 43 #[.val (.int p1), .val (.int u41s0)] [(.int u41s0)])) t → Steps p.tables e below (s₁.setTop (entryFrame m #[(.int p1)] 2)) t := by
    intro t k
    refine pre1 t ?_
    refine XS.istoreN X0.here hx rfl (hb hby d1_41) rfl (l' := #[.val (.int p1), .val (.int u41s0)]) rfl ?_
    show Steps p.tables e below (s₁.setTop (mkF m 42 #[.val (.int p1), .val (.int u41s0)] [])) _
    refine XS.iloadN X0.here hx rfl (hb hby d1_42) rfl ?_
    show Steps p.tables e below (s₁.setTop (mkF m 43 #[.val (.int p1), .val (.int u41s0)] [(.int u41s0)])) _
    exact k
  by_cases hc43 : u41s0 = (0 : Int32)
  · have pre3 : ∀ t, Steps p.tables e below (s₁.setTop (mkF m 46 #[.val (.int p1), .val (.int u41s0)] [])) t → Steps p.tables e below (s₁.setTop (entryFrame m #[(.int p1)] 2)) t := by
      intro t k
      refine pre2 t ?_
      refine XS.ifNo X0.here hx rfl (hb hby d1_43) rfl ((if0 _ _).trans (teq hc43).2) ?_
      show Steps p.tables e below (s₁.setTop (mkF m 46 #[.val (.int p1), .val (.int u41s0)] [])) _
      exact k
    obtain ⟨b4, T4, h4, kk4, d4, kc4, X4, e4, E4, hS4, hq4, hZ, hown, Ex4, Fc4, Fv4, Av4, -, -, -, st4⟩ := ldcSV (s := s) (vm0 := s.vm) X0 hx hZ hown (hw _ (List.mem_of_getElem? (i := 5) rfl)) (own_wS hw) e0 hS0 hk0 (Fr.nil _) (fun x cl q => by rw [hh, hZh]; exact q) (own_IB hI) (List.not_mem_nil) hCH hcw (vs := own_vs) (z := (15 : Int32)) ⟨by decide, by decide⟩ (by decide) (by decide) (g := (mkF m 46 #[.val (.int p1), .val (.int u41s0)] [])) rfl (hb hby d1_46) (n := 60) (by decide) (by decide) (by decide) (by decide)
    have F4_0 := S0.ext E4
    have Z4 : n0 ≤ h4.size := Nat.le_trans Z0 E4.1
    have V4 := own_ofArv Av4
    have pre4 : ∀ t, Steps p.tables e below (T4.setTop (mkF m 48 #[.val (.int p1), .val (.int u41s0)] [(.ref b4)])) t → Steps p.tables e below (s₁.setTop (entryFrame m #[(.int p1)] 2)) t := fun t k => pre3 t (st4 _ k)
    have pre5 : ∀ t, Steps p.tables e below (T4.setTop (mkF m 49 #[.val (.int p1), .val (.int u41s0)] [(.int p1), (.ref b4)])) t → Steps p.tables e below (s₁.setTop (entryFrame m #[(.int p1)] 2)) t := by
      intro t k
      refine pre4 t ?_
      refine XS.iloadN X4.here hx rfl (hb hby d1_48) rfl ?_
      show Steps p.tables e below (T4.setTop (mkF m 49 #[.val (.int p1), .val (.int u41s0)] [(.int p1), (.ref b4)])) _
      exact k
    obtain ⟨cq6, kq6, qa6, qb6, qc6⟩ := isOf hZ e4 Ex4
    obtain ⟨_, _, ⟨T6, L6, k6, n6⟩, -, X6, ⟨Lc6, hQ6, l6, y6, z6⟩, st6⟩ := X4.virtualBack hx (y := (⟨"java/lang/String", "indexOf", "(I)I"⟩ : MethodName)) (z := (⟨"java/lang/String", "indexOf", "(I)I"⟩ : MethodName)) hown (mvT hZ (hw _ (List.mem_of_getElem? (i := 13) rfl))) (mvT hZ (hw _ (List.mem_of_getElem? (i := 14) rfl))) (notFace_of_selects (args := #[]) (mvT hZ (hw _ (List.mem_of_getElem? (i := 16) rfl)))) (mvT hZ (hw _ (List.mem_of_getElem? (i := 16) rfl))) (mvT hZ (hw _ (List.mem_of_getElem? (i := 15) rfl))) (by decide) (backOf (W := 0) (rmio1 l Z a0 hw [] b4 p1 cx d4 h4 n0 Z4 F4_0 hcx Fc4 Fv4 V4 Ex4) hZ (hw _ (List.mem_of_getElem? (i := 17) rfl)) (hw _ (List.mem_of_getElem? (i := 6) rfl)) (by decide) (by decide)) qa6 qc6 (g := (mkF m 49 #[.val (.int p1), .val (.int u41s0)] [(.int p1), (.ref b4)])) rfl (by rw [hml]; rfl) (Steps.refl _) (argsL := [(.int p1)]) (rest := []) (lenOf pdtok_0 rfl) rfl (by show 2 * 0 + _ ≤ _; exact Nat.le_of_eq rfl) (hb hby d1_49) (fun _ _ => ⟨rfl, e4, (by decide : 2 + 0 ≤ _), (by decide : 64 + 0 ≤ _)⟩)
    dsimp only [Pt.U, Pt.locs, Pt.cells, Pt.slots] at X6 l6 y6 z6 st6 hQ6
    subst l6 y6 z6
    obtain ⟨rfl, Nq6, e6⟩ := hQ6
    have N6 := Fr.app N0 Nq6
    have pre6 : ∀ t, Steps p.tables e below (T6.setTop (mkF m 52 #[.val (.int p1), .val (.int u41s0)] [(.int (fnio1 p1))])) t → Steps p.tables e below (s₁.setTop (entryFrame m #[(.int p1)] 2)) t := fun t k => pre5 t (st6.trans k)
    obtain ⟨u60s0, hu60s0⟩ : ∃ z : Int32, z = (if (fnio1 p1) < (0 : Int32) then (0 : Int32) else (1 : Int32)) := ⟨_, rfl⟩
    have pre7 : ∀ t, Steps p.tables e below (T6.setTop (mkF m 60 #[.val (.int p1), .val (.int u41s0)] [(.int u60s0)])) t → Steps p.tables e below (s₁.setTop (entryFrame m #[(.int p1)] 2)) t := by
      intro t k
      subst hu60s0
      refine pre6 t ?_
      by_cases hb52 : (fnio1 p1) < (0 : Int32)
      · simp only [if_pos hb52] at k
        refine XS.ifYes X6.here hx rfl (pc0 := 52) (pc' := 59) rfl (hb hby d1_52) rfl ((if0 _ _).trans (tlt hb52).1) (by decide) (by decide) ?_
        show Steps p.tables e below (T6.setTop (mkF m 59 #[.val (.int p1), .val (.int u41s0)] [])) _
        refine XS.iconst X6.here hx rfl (hb hby d1_59) ?_
        show Steps p.tables e below (T6.setTop (mkF m 60 #[.val (.int p1), .val (.int u41s0)] [(.int (0 : Int32))])) _
        exact k
      · simp only [if_neg hb52] at k
        refine XS.ifNo X6.here hx rfl (hb hby d1_52) rfl ((if0 _ _).trans (flt hb52).1) ?_
        show Steps p.tables e below (T6.setTop (mkF m 55 #[.val (.int p1), .val (.int u41s0)] [])) _
        refine XS.iconst X6.here hx rfl (hb hby d1_55) ?_
        show Steps p.tables e below (T6.setTop (mkF m 56 #[.val (.int p1), .val (.int u41s0)] [(.int (1 : Int32))])) _
        refine XS.goto X6.here hx rfl (pc0 := 56) (pc' := 60) rfl (hb hby d1_56) (by decide) (by decide) ?_
        show Steps p.tables e below (T6.setTop (mkF m 60 #[.val (.int p1), .val (.int u41s0)] [(.int (1 : Int32))])) _
        exact k
    obtain ⟨fs, hr, hrun, hended, hREW⟩ := Stand.leaveW (s := s) (vm₁ := T4.vm) X6 hS4 (by rw [e6]; exact hq4) (v := some (.int (nar .boolean u60s0))) (fun h => by rw [Bd.returns] at h; cases h)
    refine ⟨_, _, pre7 _ ?_, hrun, hended, _, _, rfl, ?_, hREW.1, hREW.2.1, hREW.2.2.1, hREW.2.2.2.mono (by decide) (by decide)⟩
    · show Steps p.tables e below (T6.setTop (mkF m 60 #[.val (.int p1), .val (.int u41s0)] [(.int u60s0)])) _
      exact retN X6 hx (t := .boolean) Bd.returns (by simp) (hb hby d1_60) hr
    · show Qtok Z p1 cx h0 n0 _ T6.heap _
      refine ⟨?_, N6⟩
      subst hu60s0 hu41s0
      simp only [fntok, if_pos hc43]
  · have pre8 : ∀ t, Steps p.tables e below (s₁.setTop (mkF m 60 #[.val (.int p1), .val (.int u41s0)] [(.int (1 : Int32))])) t → Steps p.tables e below (s₁.setTop (entryFrame m #[(.int p1)] 2)) t := by
      intro t k
      refine pre2 t ?_
      refine XS.ifYes X0.here hx rfl (pc0 := 43) (pc' := 55) rfl (hb hby d1_43) rfl ((if0 _ _).trans (feq hc43).2) (by decide) (by decide) ?_
      show Steps p.tables e below (s₁.setTop (mkF m 55 #[.val (.int p1), .val (.int u41s0)] [])) _
      refine XS.iconst X0.here hx rfl (hb hby d1_55) ?_
      show Steps p.tables e below (s₁.setTop (mkF m 56 #[.val (.int p1), .val (.int u41s0)] [(.int (1 : Int32))])) _
      refine XS.goto X0.here hx rfl (pc0 := 56) (pc' := 60) rfl (hb hby d1_56) (by decide) (by decide) ?_
      show Steps p.tables e below (s₁.setTop (mkF m 60 #[.val (.int p1), .val (.int u41s0)] [(.int (1 : Int32))])) _
      exact k
    obtain ⟨fs, hr, hrun, hended, hREW⟩ := Stand.leaveW (s := s) (vm₁ := s.vm) X0 hS0 (by rw [e0]; exact hk0) (v := some (.int (nar .boolean (1 : Int32)))) (fun h => by rw [Bd.returns] at h; cases h)
    refine ⟨_, _, pre8 _ ?_, hrun, hended, _, _, rfl, ?_, hREW.1, hREW.2.1, hREW.2.2.1, hREW.2.2.2.mono (by decide) (by decide)⟩
    · show Steps p.tables e below (s₁.setTop (mkF m 60 #[.val (.int p1), .val (.int u41s0)] [(.int (1 : Int32))])) _
      exact retN X0 hx (t := .boolean) Bd.returns (by simp) (hb hby d1_60) hr
    · show Qtok Z p1 cx h0 n0 _ s₁.heap _
      refine ⟨?_, N0⟩
      subst hu41s0
      simp only [fntok, if_neg hc43]
/-! body 12: isDelimiter -/
theorem d12_0 : decode method_2_code 0 = .ok (.iload_n 0, 1) := by decide +kernel
theorem d12_1 : decode method_2_code 1 = .ok (.bipush 34, 2) := by decide +kernel
theorem d12_3 : decode method_2_code 3 = .ok (.if_icmp .eq 99, 3) := by decide +kernel
theorem d12_6 : decode method_2_code 6 = .ok (.iload_n 0, 1) := by decide +kernel
theorem d12_7 : decode method_2_code 7 = .ok (.bipush 40, 2) := by decide +kernel
theorem d12_9 : decode method_2_code 9 = .ok (.if_icmp .eq 93, 3) := by decide +kernel
theorem d12_12 : decode method_2_code 12 = .ok (.iload_n 0, 1) := by decide +kernel
theorem d12_13 : decode method_2_code 13 = .ok (.bipush 41, 2) := by decide +kernel
theorem d12_15 : decode method_2_code 15 = .ok (.if_icmp .eq 87, 3) := by decide +kernel
theorem d12_18 : decode method_2_code 18 = .ok (.iload_n 0, 1) := by decide +kernel
theorem d12_19 : decode method_2_code 19 = .ok (.bipush 44, 2) := by decide +kernel
theorem d12_21 : decode method_2_code 21 = .ok (.if_icmp .eq 81, 3) := by decide +kernel
theorem d12_24 : decode method_2_code 24 = .ok (.iload_n 0, 1) := by decide +kernel
theorem d12_25 : decode method_2_code 25 = .ok (.bipush 47, 2) := by decide +kernel
theorem d12_27 : decode method_2_code 27 = .ok (.if_icmp .eq 75, 3) := by decide +kernel
theorem d12_30 : decode method_2_code 30 = .ok (.iload_n 0, 1) := by decide +kernel
theorem d12_31 : decode method_2_code 31 = .ok (.bipush 58, 2) := by decide +kernel
theorem d12_33 : decode method_2_code 33 = .ok (.if_icmp .eq 69, 3) := by decide +kernel
theorem d12_36 : decode method_2_code 36 = .ok (.iload_n 0, 1) := by decide +kernel
theorem d12_37 : decode method_2_code 37 = .ok (.bipush 59, 2) := by decide +kernel
theorem d12_39 : decode method_2_code 39 = .ok (.if_icmp .eq 63, 3) := by decide +kernel
theorem d12_42 : decode method_2_code 42 = .ok (.iload_n 0, 1) := by decide +kernel
theorem d12_43 : decode method_2_code 43 = .ok (.bipush 60, 2) := by decide +kernel
theorem d12_45 : decode method_2_code 45 = .ok (.if_icmp .eq 57, 3) := by decide +kernel
theorem d12_48 : decode method_2_code 48 = .ok (.iload_n 0, 1) := by decide +kernel
theorem d12_49 : decode method_2_code 49 = .ok (.bipush 61, 2) := by decide +kernel
theorem d12_51 : decode method_2_code 51 = .ok (.if_icmp .eq 51, 3) := by decide +kernel
theorem d12_54 : decode method_2_code 54 = .ok (.iload_n 0, 1) := by decide +kernel
theorem d12_55 : decode method_2_code 55 = .ok (.bipush 62, 2) := by decide +kernel
theorem d12_57 : decode method_2_code 57 = .ok (.if_icmp .eq 45, 3) := by decide +kernel
theorem d12_60 : decode method_2_code 60 = .ok (.iload_n 0, 1) := by decide +kernel
theorem d12_61 : decode method_2_code 61 = .ok (.bipush 63, 2) := by decide +kernel
theorem d12_63 : decode method_2_code 63 = .ok (.if_icmp .eq 39, 3) := by decide +kernel
theorem d12_66 : decode method_2_code 66 = .ok (.iload_n 0, 1) := by decide +kernel
theorem d12_67 : decode method_2_code 67 = .ok (.bipush 64, 2) := by decide +kernel
theorem d12_69 : decode method_2_code 69 = .ok (.if_icmp .eq 33, 3) := by decide +kernel
theorem d12_72 : decode method_2_code 72 = .ok (.iload_n 0, 1) := by decide +kernel
theorem d12_73 : decode method_2_code 73 = .ok (.bipush 91, 2) := by decide +kernel
theorem d12_75 : decode method_2_code 75 = .ok (.if_icmp .eq 27, 3) := by decide +kernel
theorem d12_78 : decode method_2_code 78 = .ok (.iload_n 0, 1) := by decide +kernel
theorem d12_79 : decode method_2_code 79 = .ok (.bipush 92, 2) := by decide +kernel
theorem d12_81 : decode method_2_code 81 = .ok (.if_icmp .eq 21, 3) := by decide +kernel
theorem d12_84 : decode method_2_code 84 = .ok (.iload_n 0, 1) := by decide +kernel
theorem d12_85 : decode method_2_code 85 = .ok (.bipush 93, 2) := by decide +kernel
theorem d12_87 : decode method_2_code 87 = .ok (.if_icmp .eq 15, 3) := by decide +kernel
theorem d12_90 : decode method_2_code 90 = .ok (.iload_n 0, 1) := by decide +kernel
theorem d12_91 : decode method_2_code 91 = .ok (.bipush 123, 2) := by decide +kernel
theorem d12_93 : decode method_2_code 93 = .ok (.if_icmp .eq 9, 3) := by decide +kernel
theorem d12_96 : decode method_2_code 96 = .ok (.iload_n 0, 1) := by decide +kernel
theorem d12_97 : decode method_2_code 97 = .ok (.bipush 125, 2) := by decide +kernel
theorem d12_99 : decode method_2_code 99 = .ok (.if_icmp .ne 7, 3) := by decide +kernel
theorem d12_102 : decode method_2_code 102 = .ok (.iconst 1, 1) := by decide +kernel
theorem d12_103 : decode method_2_code 103 = .ok (.goto 4, 3) := by decide +kernel
theorem d12_106 : decode method_2_code 106 = .ok (.iconst 0, 1) := by decide +kernel
theorem d12_107 : decode method_2_code 107 = .ok (.ireturn, 1) := by decide +kernel
theorem pndel : plainName "com/example/tally/tally/http/IdempotencyKeyHeaderIsTokenCharPinLaw" = true := by first | (simp [plainName, overriddenIn]; done) | decide +kernel
theorem efdel (m : MethodId) (p1 : Int32) : entryFrame m #[(.int p1)] 1 = mkF m 0 #[.val (.int p1)] [] := by first | (simp [entryFrame, mkF, argsToLocals, Value.category]; done) | rfl
def fndel (p1 : Int32) : Int32 :=
  let u107s0 : Int32 := (if p1 = (34 : Int32) then (1 : Int32) else (if p1 = (40 : Int32) then (1 : Int32) else (if p1 = (41 : Int32) then (1 : Int32) else (if p1 = (44 : Int32) then (1 : Int32) else (if p1 = (47 : Int32) then (1 : Int32) else (if p1 = (58 : Int32) then (1 : Int32) else (if p1 = (59 : Int32) then (1 : Int32) else (if p1 = (60 : Int32) then (1 : Int32) else (if p1 = (61 : Int32) then (1 : Int32) else (if p1 = (62 : Int32) then (1 : Int32) else (if p1 = (63 : Int32) then (1 : Int32) else (if p1 = (64 : Int32) then (1 : Int32) else (if p1 = (91 : Int32) then (1 : Int32) else (if p1 = (92 : Int32) then (1 : Int32) else (if p1 = (93 : Int32) then (1 : Int32) else (if p1 = (123 : Int32) then (1 : Int32) else (if p1 = (125 : Int32) then (1 : Int32) else (0 : Int32))))))))))))))))))
  (nar .boolean u107s0)
def Qdel (Z : State) (p1 : Int32) (h0 : Heap) (n0 : Nat) (v : Option Value) (h : Heap) (L : List Loc) : Prop := v = some (.int (fndel p1)) ∧ Fr n0 L ∧ h = h0
set_option maxRecDepth 65536 in
set_option maxHeartbeats 40000000 in
theorem rmdel (l : Launch) (Z : State) (a0 : Array Value) (hw : ∀ d ∈ tables_1, d.before a0 Z = true) (ws : List Jvm.Cond) (p1 : Int32) (h0 : Heap) (n0 : Nat) (Z0 : n0 ≤ h0.size) :
    MetFree l (⟨"com/example/tally/tally/http/IdempotencyKeyHeaderIsTokenCharPinLaw", "isDelimiter", "(C)Z"⟩ : MethodName) (head1 (Jvm.Cond.code (⟨"com/example/tally/tally/http/IdempotencyKeyHeaderIsTokenCharPinLaw", "isDelimiter", "(C)Z"⟩ : MethodName) method_2_code 1 (some .boolean) :: ws) ({ frames := 0, cells := 0, slots := 0, locals := 0 } : Room)) (fun a U => a = #[(.int p1)] ∧ Z.Warmed39 U.vm ∧ U.heap = h0) (fun _ _ _ _ _ => True) (fun _ U o U' => ∃ v L, o = .returned v ∧ Qdel Z p1 h0 n0 v U'.heap L ∧ FrameEnd U o U' L ({ frames := 0, cells := 0, slots := 0, locals := 0 } : Room).cells ({ frames := 0, cells := 0, slots := 0, locals := 0 } : Room).slots) := by
  refine MetFree.of_bodySF (plainFor_of_name pndel) hisR ?_
  intro p e s m args below meth c s₁ Bd hml0 hP hK
  obtain ⟨rfl, hZ, hh⟩ := hP
  have hx := Bd.exec
  have hby := Bd.bytes
  have hml : c.maxLocals = 1 := hml0
  have hown : s.vm.findClass "com/example/tally/tally/http/IdempotencyKeyHeaderIsTokenCharPinLaw" = some m.cls := findClass_of_methodNamed Bd.named
  have hnm := (name_of_methodNamed Bd.named Bd.method).1
  have X0 : Stand p l e ({ frames := 0, cells := 0, slots := 0, locals := 0 } : Room) s m #[(.int p1)] below meth c s₁ [] 0 0 := Stand.of_body Bd
  have e0 : s₁.heap = h0 := by rw [← hh, Bd.state]; rfl
  have N0 := Fr.nil n0
  have pre0 : ∀ t, Steps p.tables e below (s₁.setTop (mkF m 0 #[.val (.int p1)] [])) t → Steps p.tables e below (s₁.setTop (entryFrame m #[(.int p1)] 1)) t := fun t k => castTop (efdel m p1) k
  obtain ⟨u107s0, hu107s0⟩ : ∃ z : Int32, z = (if p1 = (34 : Int32) then (1 : Int32) else (if p1 = (40 : Int32) then (1 : Int32) else (if p1 = (41 : Int32) then (1 : Int32) else (if p1 = (44 : Int32) then (1 : Int32) else (if p1 = (47 : Int32) then (1 : Int32) else (if p1 = (58 : Int32) then (1 : Int32) else (if p1 = (59 : Int32) then (1 : Int32) else (if p1 = (60 : Int32) then (1 : Int32) else (if p1 = (61 : Int32) then (1 : Int32) else (if p1 = (62 : Int32) then (1 : Int32) else (if p1 = (63 : Int32) then (1 : Int32) else (if p1 = (64 : Int32) then (1 : Int32) else (if p1 = (91 : Int32) then (1 : Int32) else (if p1 = (92 : Int32) then (1 : Int32) else (if p1 = (93 : Int32) then (1 : Int32) else (if p1 = (123 : Int32) then (1 : Int32) else (if p1 = (125 : Int32) then (1 : Int32) else (0 : Int32)))))))))))))))))) := ⟨_, rfl⟩
  have pre1 : ∀ t, Steps p.tables e below (s₁.setTop (mkF m 107 #[.val (.int p1)] [(.int u107s0)])) t → Steps p.tables e below (s₁.setTop (entryFrame m #[(.int p1)] 1)) t := by
    intro t k
    subst hu107s0
    refine pre0 t ?_
    show Steps p.tables e below (s₁.setTop (mkF m 0 #[.val (.int p1)] [])) _
    refine XS.iloadN X0.here hx rfl (hb hby d12_0) rfl ?_
    show Steps p.tables e below (s₁.setTop (mkF m 1 #[.val (.int p1)] [(.int p1)])) _
    refine XS.bipush X0.here hx rfl (hb hby d12_1) ?_
    show Steps p.tables e below (s₁.setTop (mkF m 3 #[.val (.int p1)] [(.int (34 : Int32)), (.int p1)])) _
    by_cases hb3 : p1 = (34 : Int32)
    · simp only [if_pos hb3] at k
      refine XS.icmpYes X0.here hx rfl (pc0 := 3) (pc' := 102) rfl (hb hby d12_3) rfl (teq hb3).1 (by decide) (by decide) ?_
      show Steps p.tables e below (s₁.setTop (mkF m 102 #[.val (.int p1)] [])) _
      refine XS.iconst X0.here hx rfl (hb hby d12_102) ?_
      show Steps p.tables e below (s₁.setTop (mkF m 103 #[.val (.int p1)] [(.int (1 : Int32))])) _
      refine XS.goto X0.here hx rfl (pc0 := 103) (pc' := 107) rfl (hb hby d12_103) (by decide) (by decide) ?_
      show Steps p.tables e below (s₁.setTop (mkF m 107 #[.val (.int p1)] [(.int (1 : Int32))])) _
      exact k
    · refine XS.icmpNo X0.here hx rfl (hb hby d12_3) rfl (feq hb3).1 ?_
      show Steps p.tables e below (s₁.setTop (mkF m 6 #[.val (.int p1)] [])) _
      refine XS.iloadN X0.here hx rfl (hb hby d12_6) rfl ?_
      show Steps p.tables e below (s₁.setTop (mkF m 7 #[.val (.int p1)] [(.int p1)])) _
      refine XS.bipush X0.here hx rfl (hb hby d12_7) ?_
      show Steps p.tables e below (s₁.setTop (mkF m 9 #[.val (.int p1)] [(.int (40 : Int32)), (.int p1)])) _
      by_cases hb9 : p1 = (40 : Int32)
      · simp only [if_neg hb3, if_pos hb9] at k
        refine XS.icmpYes X0.here hx rfl (pc0 := 9) (pc' := 102) rfl (hb hby d12_9) rfl (teq hb9).1 (by decide) (by decide) ?_
        show Steps p.tables e below (s₁.setTop (mkF m 102 #[.val (.int p1)] [])) _
        refine XS.iconst X0.here hx rfl (hb hby d12_102) ?_
        show Steps p.tables e below (s₁.setTop (mkF m 103 #[.val (.int p1)] [(.int (1 : Int32))])) _
        refine XS.goto X0.here hx rfl (pc0 := 103) (pc' := 107) rfl (hb hby d12_103) (by decide) (by decide) ?_
        show Steps p.tables e below (s₁.setTop (mkF m 107 #[.val (.int p1)] [(.int (1 : Int32))])) _
        exact k
      · refine XS.icmpNo X0.here hx rfl (hb hby d12_9) rfl (feq hb9).1 ?_
        show Steps p.tables e below (s₁.setTop (mkF m 12 #[.val (.int p1)] [])) _
        refine XS.iloadN X0.here hx rfl (hb hby d12_12) rfl ?_
        show Steps p.tables e below (s₁.setTop (mkF m 13 #[.val (.int p1)] [(.int p1)])) _
        refine XS.bipush X0.here hx rfl (hb hby d12_13) ?_
        show Steps p.tables e below (s₁.setTop (mkF m 15 #[.val (.int p1)] [(.int (41 : Int32)), (.int p1)])) _
        by_cases hb15 : p1 = (41 : Int32)
        · simp only [if_neg hb3, if_neg hb9, if_pos hb15] at k
          refine XS.icmpYes X0.here hx rfl (pc0 := 15) (pc' := 102) rfl (hb hby d12_15) rfl (teq hb15).1 (by decide) (by decide) ?_
          show Steps p.tables e below (s₁.setTop (mkF m 102 #[.val (.int p1)] [])) _
          refine XS.iconst X0.here hx rfl (hb hby d12_102) ?_
          show Steps p.tables e below (s₁.setTop (mkF m 103 #[.val (.int p1)] [(.int (1 : Int32))])) _
          refine XS.goto X0.here hx rfl (pc0 := 103) (pc' := 107) rfl (hb hby d12_103) (by decide) (by decide) ?_
          show Steps p.tables e below (s₁.setTop (mkF m 107 #[.val (.int p1)] [(.int (1 : Int32))])) _
          exact k
        · refine XS.icmpNo X0.here hx rfl (hb hby d12_15) rfl (feq hb15).1 ?_
          show Steps p.tables e below (s₁.setTop (mkF m 18 #[.val (.int p1)] [])) _
          refine XS.iloadN X0.here hx rfl (hb hby d12_18) rfl ?_
          show Steps p.tables e below (s₁.setTop (mkF m 19 #[.val (.int p1)] [(.int p1)])) _
          refine XS.bipush X0.here hx rfl (hb hby d12_19) ?_
          show Steps p.tables e below (s₁.setTop (mkF m 21 #[.val (.int p1)] [(.int (44 : Int32)), (.int p1)])) _
          by_cases hb21 : p1 = (44 : Int32)
          · simp only [if_neg hb3, if_neg hb9, if_neg hb15, if_pos hb21] at k
            refine XS.icmpYes X0.here hx rfl (pc0 := 21) (pc' := 102) rfl (hb hby d12_21) rfl (teq hb21).1 (by decide) (by decide) ?_
            show Steps p.tables e below (s₁.setTop (mkF m 102 #[.val (.int p1)] [])) _
            refine XS.iconst X0.here hx rfl (hb hby d12_102) ?_
            show Steps p.tables e below (s₁.setTop (mkF m 103 #[.val (.int p1)] [(.int (1 : Int32))])) _
            refine XS.goto X0.here hx rfl (pc0 := 103) (pc' := 107) rfl (hb hby d12_103) (by decide) (by decide) ?_
            show Steps p.tables e below (s₁.setTop (mkF m 107 #[.val (.int p1)] [(.int (1 : Int32))])) _
            exact k
          · refine XS.icmpNo X0.here hx rfl (hb hby d12_21) rfl (feq hb21).1 ?_
            show Steps p.tables e below (s₁.setTop (mkF m 24 #[.val (.int p1)] [])) _
            refine XS.iloadN X0.here hx rfl (hb hby d12_24) rfl ?_
            show Steps p.tables e below (s₁.setTop (mkF m 25 #[.val (.int p1)] [(.int p1)])) _
            refine XS.bipush X0.here hx rfl (hb hby d12_25) ?_
            show Steps p.tables e below (s₁.setTop (mkF m 27 #[.val (.int p1)] [(.int (47 : Int32)), (.int p1)])) _
            by_cases hb27 : p1 = (47 : Int32)
            · simp only [if_neg hb3, if_neg hb9, if_neg hb15, if_neg hb21, if_pos hb27] at k
              refine XS.icmpYes X0.here hx rfl (pc0 := 27) (pc' := 102) rfl (hb hby d12_27) rfl (teq hb27).1 (by decide) (by decide) ?_
              show Steps p.tables e below (s₁.setTop (mkF m 102 #[.val (.int p1)] [])) _
              refine XS.iconst X0.here hx rfl (hb hby d12_102) ?_
              show Steps p.tables e below (s₁.setTop (mkF m 103 #[.val (.int p1)] [(.int (1 : Int32))])) _
              refine XS.goto X0.here hx rfl (pc0 := 103) (pc' := 107) rfl (hb hby d12_103) (by decide) (by decide) ?_
              show Steps p.tables e below (s₁.setTop (mkF m 107 #[.val (.int p1)] [(.int (1 : Int32))])) _
              exact k
            · refine XS.icmpNo X0.here hx rfl (hb hby d12_27) rfl (feq hb27).1 ?_
              show Steps p.tables e below (s₁.setTop (mkF m 30 #[.val (.int p1)] [])) _
              refine XS.iloadN X0.here hx rfl (hb hby d12_30) rfl ?_
              show Steps p.tables e below (s₁.setTop (mkF m 31 #[.val (.int p1)] [(.int p1)])) _
              refine XS.bipush X0.here hx rfl (hb hby d12_31) ?_
              show Steps p.tables e below (s₁.setTop (mkF m 33 #[.val (.int p1)] [(.int (58 : Int32)), (.int p1)])) _
              by_cases hb33 : p1 = (58 : Int32)
              · simp only [if_neg hb3, if_neg hb9, if_neg hb15, if_neg hb21, if_neg hb27, if_pos hb33] at k
                refine XS.icmpYes X0.here hx rfl (pc0 := 33) (pc' := 102) rfl (hb hby d12_33) rfl (teq hb33).1 (by decide) (by decide) ?_
                show Steps p.tables e below (s₁.setTop (mkF m 102 #[.val (.int p1)] [])) _
                refine XS.iconst X0.here hx rfl (hb hby d12_102) ?_
                show Steps p.tables e below (s₁.setTop (mkF m 103 #[.val (.int p1)] [(.int (1 : Int32))])) _
                refine XS.goto X0.here hx rfl (pc0 := 103) (pc' := 107) rfl (hb hby d12_103) (by decide) (by decide) ?_
                show Steps p.tables e below (s₁.setTop (mkF m 107 #[.val (.int p1)] [(.int (1 : Int32))])) _
                exact k
              · refine XS.icmpNo X0.here hx rfl (hb hby d12_33) rfl (feq hb33).1 ?_
                show Steps p.tables e below (s₁.setTop (mkF m 36 #[.val (.int p1)] [])) _
                refine XS.iloadN X0.here hx rfl (hb hby d12_36) rfl ?_
                show Steps p.tables e below (s₁.setTop (mkF m 37 #[.val (.int p1)] [(.int p1)])) _
                refine XS.bipush X0.here hx rfl (hb hby d12_37) ?_
                show Steps p.tables e below (s₁.setTop (mkF m 39 #[.val (.int p1)] [(.int (59 : Int32)), (.int p1)])) _
                by_cases hb39 : p1 = (59 : Int32)
                · simp only [if_neg hb3, if_neg hb9, if_neg hb15, if_neg hb21, if_neg hb27, if_neg hb33, if_pos hb39] at k
                  refine XS.icmpYes X0.here hx rfl (pc0 := 39) (pc' := 102) rfl (hb hby d12_39) rfl (teq hb39).1 (by decide) (by decide) ?_
                  show Steps p.tables e below (s₁.setTop (mkF m 102 #[.val (.int p1)] [])) _
                  refine XS.iconst X0.here hx rfl (hb hby d12_102) ?_
                  show Steps p.tables e below (s₁.setTop (mkF m 103 #[.val (.int p1)] [(.int (1 : Int32))])) _
                  refine XS.goto X0.here hx rfl (pc0 := 103) (pc' := 107) rfl (hb hby d12_103) (by decide) (by decide) ?_
                  show Steps p.tables e below (s₁.setTop (mkF m 107 #[.val (.int p1)] [(.int (1 : Int32))])) _
                  exact k
                · refine XS.icmpNo X0.here hx rfl (hb hby d12_39) rfl (feq hb39).1 ?_
                  show Steps p.tables e below (s₁.setTop (mkF m 42 #[.val (.int p1)] [])) _
                  refine XS.iloadN X0.here hx rfl (hb hby d12_42) rfl ?_
                  show Steps p.tables e below (s₁.setTop (mkF m 43 #[.val (.int p1)] [(.int p1)])) _
                  refine XS.bipush X0.here hx rfl (hb hby d12_43) ?_
                  show Steps p.tables e below (s₁.setTop (mkF m 45 #[.val (.int p1)] [(.int (60 : Int32)), (.int p1)])) _
                  by_cases hb45 : p1 = (60 : Int32)
                  · simp only [if_neg hb3, if_neg hb9, if_neg hb15, if_neg hb21, if_neg hb27, if_neg hb33, if_neg hb39, if_pos hb45] at k
                    refine XS.icmpYes X0.here hx rfl (pc0 := 45) (pc' := 102) rfl (hb hby d12_45) rfl (teq hb45).1 (by decide) (by decide) ?_
                    show Steps p.tables e below (s₁.setTop (mkF m 102 #[.val (.int p1)] [])) _
                    refine XS.iconst X0.here hx rfl (hb hby d12_102) ?_
                    show Steps p.tables e below (s₁.setTop (mkF m 103 #[.val (.int p1)] [(.int (1 : Int32))])) _
                    refine XS.goto X0.here hx rfl (pc0 := 103) (pc' := 107) rfl (hb hby d12_103) (by decide) (by decide) ?_
                    show Steps p.tables e below (s₁.setTop (mkF m 107 #[.val (.int p1)] [(.int (1 : Int32))])) _
                    exact k
                  · refine XS.icmpNo X0.here hx rfl (hb hby d12_45) rfl (feq hb45).1 ?_
                    show Steps p.tables e below (s₁.setTop (mkF m 48 #[.val (.int p1)] [])) _
                    refine XS.iloadN X0.here hx rfl (hb hby d12_48) rfl ?_
                    show Steps p.tables e below (s₁.setTop (mkF m 49 #[.val (.int p1)] [(.int p1)])) _
                    refine XS.bipush X0.here hx rfl (hb hby d12_49) ?_
                    show Steps p.tables e below (s₁.setTop (mkF m 51 #[.val (.int p1)] [(.int (61 : Int32)), (.int p1)])) _
                    by_cases hb51 : p1 = (61 : Int32)
                    · simp only [if_neg hb3, if_neg hb9, if_neg hb15, if_neg hb21, if_neg hb27, if_neg hb33, if_neg hb39, if_neg hb45, if_pos hb51] at k
                      refine XS.icmpYes X0.here hx rfl (pc0 := 51) (pc' := 102) rfl (hb hby d12_51) rfl (teq hb51).1 (by decide) (by decide) ?_
                      show Steps p.tables e below (s₁.setTop (mkF m 102 #[.val (.int p1)] [])) _
                      refine XS.iconst X0.here hx rfl (hb hby d12_102) ?_
                      show Steps p.tables e below (s₁.setTop (mkF m 103 #[.val (.int p1)] [(.int (1 : Int32))])) _
                      refine XS.goto X0.here hx rfl (pc0 := 103) (pc' := 107) rfl (hb hby d12_103) (by decide) (by decide) ?_
                      show Steps p.tables e below (s₁.setTop (mkF m 107 #[.val (.int p1)] [(.int (1 : Int32))])) _
                      exact k
                    · refine XS.icmpNo X0.here hx rfl (hb hby d12_51) rfl (feq hb51).1 ?_
                      show Steps p.tables e below (s₁.setTop (mkF m 54 #[.val (.int p1)] [])) _
                      refine XS.iloadN X0.here hx rfl (hb hby d12_54) rfl ?_
                      show Steps p.tables e below (s₁.setTop (mkF m 55 #[.val (.int p1)] [(.int p1)])) _
                      refine XS.bipush X0.here hx rfl (hb hby d12_55) ?_
                      show Steps p.tables e below (s₁.setTop (mkF m 57 #[.val (.int p1)] [(.int (62 : Int32)), (.int p1)])) _
                      by_cases hb57 : p1 = (62 : Int32)
                      · simp only [if_neg hb3, if_neg hb9, if_neg hb15, if_neg hb21, if_neg hb27, if_neg hb33, if_neg hb39, if_neg hb45, if_neg hb51, if_pos hb57] at k
                        refine XS.icmpYes X0.here hx rfl (pc0 := 57) (pc' := 102) rfl (hb hby d12_57) rfl (teq hb57).1 (by decide) (by decide) ?_
                        show Steps p.tables e below (s₁.setTop (mkF m 102 #[.val (.int p1)] [])) _
                        refine XS.iconst X0.here hx rfl (hb hby d12_102) ?_
                        show Steps p.tables e below (s₁.setTop (mkF m 103 #[.val (.int p1)] [(.int (1 : Int32))])) _
                        refine XS.goto X0.here hx rfl (pc0 := 103) (pc' := 107) rfl (hb hby d12_103) (by decide) (by decide) ?_
                        show Steps p.tables e below (s₁.setTop (mkF m 107 #[.val (.int p1)] [(.int (1 : Int32))])) _
                        exact k
                      · refine XS.icmpNo X0.here hx rfl (hb hby d12_57) rfl (feq hb57).1 ?_
                        show Steps p.tables e below (s₁.setTop (mkF m 60 #[.val (.int p1)] [])) _
                        refine XS.iloadN X0.here hx rfl (hb hby d12_60) rfl ?_
                        show Steps p.tables e below (s₁.setTop (mkF m 61 #[.val (.int p1)] [(.int p1)])) _
                        refine XS.bipush X0.here hx rfl (hb hby d12_61) ?_
                        show Steps p.tables e below (s₁.setTop (mkF m 63 #[.val (.int p1)] [(.int (63 : Int32)), (.int p1)])) _
                        by_cases hb63 : p1 = (63 : Int32)
                        · simp only [if_neg hb3, if_neg hb9, if_neg hb15, if_neg hb21, if_neg hb27, if_neg hb33, if_neg hb39, if_neg hb45, if_neg hb51, if_neg hb57, if_pos hb63] at k
                          refine XS.icmpYes X0.here hx rfl (pc0 := 63) (pc' := 102) rfl (hb hby d12_63) rfl (teq hb63).1 (by decide) (by decide) ?_
                          show Steps p.tables e below (s₁.setTop (mkF m 102 #[.val (.int p1)] [])) _
                          refine XS.iconst X0.here hx rfl (hb hby d12_102) ?_
                          show Steps p.tables e below (s₁.setTop (mkF m 103 #[.val (.int p1)] [(.int (1 : Int32))])) _
                          refine XS.goto X0.here hx rfl (pc0 := 103) (pc' := 107) rfl (hb hby d12_103) (by decide) (by decide) ?_
                          show Steps p.tables e below (s₁.setTop (mkF m 107 #[.val (.int p1)] [(.int (1 : Int32))])) _
                          exact k
                        · refine XS.icmpNo X0.here hx rfl (hb hby d12_63) rfl (feq hb63).1 ?_
                          show Steps p.tables e below (s₁.setTop (mkF m 66 #[.val (.int p1)] [])) _
                          refine XS.iloadN X0.here hx rfl (hb hby d12_66) rfl ?_
                          show Steps p.tables e below (s₁.setTop (mkF m 67 #[.val (.int p1)] [(.int p1)])) _
                          refine XS.bipush X0.here hx rfl (hb hby d12_67) ?_
                          show Steps p.tables e below (s₁.setTop (mkF m 69 #[.val (.int p1)] [(.int (64 : Int32)), (.int p1)])) _
                          by_cases hb69 : p1 = (64 : Int32)
                          · simp only [if_neg hb3, if_neg hb9, if_neg hb15, if_neg hb21, if_neg hb27, if_neg hb33, if_neg hb39, if_neg hb45, if_neg hb51, if_neg hb57, if_neg hb63, if_pos hb69] at k
                            refine XS.icmpYes X0.here hx rfl (pc0 := 69) (pc' := 102) rfl (hb hby d12_69) rfl (teq hb69).1 (by decide) (by decide) ?_
                            show Steps p.tables e below (s₁.setTop (mkF m 102 #[.val (.int p1)] [])) _
                            refine XS.iconst X0.here hx rfl (hb hby d12_102) ?_
                            show Steps p.tables e below (s₁.setTop (mkF m 103 #[.val (.int p1)] [(.int (1 : Int32))])) _
                            refine XS.goto X0.here hx rfl (pc0 := 103) (pc' := 107) rfl (hb hby d12_103) (by decide) (by decide) ?_
                            show Steps p.tables e below (s₁.setTop (mkF m 107 #[.val (.int p1)] [(.int (1 : Int32))])) _
                            exact k
                          · refine XS.icmpNo X0.here hx rfl (hb hby d12_69) rfl (feq hb69).1 ?_
                            show Steps p.tables e below (s₁.setTop (mkF m 72 #[.val (.int p1)] [])) _
                            refine XS.iloadN X0.here hx rfl (hb hby d12_72) rfl ?_
                            show Steps p.tables e below (s₁.setTop (mkF m 73 #[.val (.int p1)] [(.int p1)])) _
                            refine XS.bipush X0.here hx rfl (hb hby d12_73) ?_
                            show Steps p.tables e below (s₁.setTop (mkF m 75 #[.val (.int p1)] [(.int (91 : Int32)), (.int p1)])) _
                            by_cases hb75 : p1 = (91 : Int32)
                            · simp only [if_neg hb3, if_neg hb9, if_neg hb15, if_neg hb21, if_neg hb27, if_neg hb33, if_neg hb39, if_neg hb45, if_neg hb51, if_neg hb57, if_neg hb63, if_neg hb69, if_pos hb75] at k
                              refine XS.icmpYes X0.here hx rfl (pc0 := 75) (pc' := 102) rfl (hb hby d12_75) rfl (teq hb75).1 (by decide) (by decide) ?_
                              show Steps p.tables e below (s₁.setTop (mkF m 102 #[.val (.int p1)] [])) _
                              refine XS.iconst X0.here hx rfl (hb hby d12_102) ?_
                              show Steps p.tables e below (s₁.setTop (mkF m 103 #[.val (.int p1)] [(.int (1 : Int32))])) _
                              refine XS.goto X0.here hx rfl (pc0 := 103) (pc' := 107) rfl (hb hby d12_103) (by decide) (by decide) ?_
                              show Steps p.tables e below (s₁.setTop (mkF m 107 #[.val (.int p1)] [(.int (1 : Int32))])) _
                              exact k
                            · refine XS.icmpNo X0.here hx rfl (hb hby d12_75) rfl (feq hb75).1 ?_
                              show Steps p.tables e below (s₁.setTop (mkF m 78 #[.val (.int p1)] [])) _
                              refine XS.iloadN X0.here hx rfl (hb hby d12_78) rfl ?_
                              show Steps p.tables e below (s₁.setTop (mkF m 79 #[.val (.int p1)] [(.int p1)])) _
                              refine XS.bipush X0.here hx rfl (hb hby d12_79) ?_
                              show Steps p.tables e below (s₁.setTop (mkF m 81 #[.val (.int p1)] [(.int (92 : Int32)), (.int p1)])) _
                              by_cases hb81 : p1 = (92 : Int32)
                              · simp only [if_neg hb3, if_neg hb9, if_neg hb15, if_neg hb21, if_neg hb27, if_neg hb33, if_neg hb39, if_neg hb45, if_neg hb51, if_neg hb57, if_neg hb63, if_neg hb69, if_neg hb75, if_pos hb81] at k
                                refine XS.icmpYes X0.here hx rfl (pc0 := 81) (pc' := 102) rfl (hb hby d12_81) rfl (teq hb81).1 (by decide) (by decide) ?_
                                show Steps p.tables e below (s₁.setTop (mkF m 102 #[.val (.int p1)] [])) _
                                refine XS.iconst X0.here hx rfl (hb hby d12_102) ?_
                                show Steps p.tables e below (s₁.setTop (mkF m 103 #[.val (.int p1)] [(.int (1 : Int32))])) _
                                refine XS.goto X0.here hx rfl (pc0 := 103) (pc' := 107) rfl (hb hby d12_103) (by decide) (by decide) ?_
                                show Steps p.tables e below (s₁.setTop (mkF m 107 #[.val (.int p1)] [(.int (1 : Int32))])) _
                                exact k
                              · refine XS.icmpNo X0.here hx rfl (hb hby d12_81) rfl (feq hb81).1 ?_
                                show Steps p.tables e below (s₁.setTop (mkF m 84 #[.val (.int p1)] [])) _
                                refine XS.iloadN X0.here hx rfl (hb hby d12_84) rfl ?_
                                show Steps p.tables e below (s₁.setTop (mkF m 85 #[.val (.int p1)] [(.int p1)])) _
                                refine XS.bipush X0.here hx rfl (hb hby d12_85) ?_
                                show Steps p.tables e below (s₁.setTop (mkF m 87 #[.val (.int p1)] [(.int (93 : Int32)), (.int p1)])) _
                                by_cases hb87 : p1 = (93 : Int32)
                                · simp only [if_neg hb3, if_neg hb9, if_neg hb15, if_neg hb21, if_neg hb27, if_neg hb33, if_neg hb39, if_neg hb45, if_neg hb51, if_neg hb57, if_neg hb63, if_neg hb69, if_neg hb75, if_neg hb81, if_pos hb87] at k
                                  refine XS.icmpYes X0.here hx rfl (pc0 := 87) (pc' := 102) rfl (hb hby d12_87) rfl (teq hb87).1 (by decide) (by decide) ?_
                                  show Steps p.tables e below (s₁.setTop (mkF m 102 #[.val (.int p1)] [])) _
                                  refine XS.iconst X0.here hx rfl (hb hby d12_102) ?_
                                  show Steps p.tables e below (s₁.setTop (mkF m 103 #[.val (.int p1)] [(.int (1 : Int32))])) _
                                  refine XS.goto X0.here hx rfl (pc0 := 103) (pc' := 107) rfl (hb hby d12_103) (by decide) (by decide) ?_
                                  show Steps p.tables e below (s₁.setTop (mkF m 107 #[.val (.int p1)] [(.int (1 : Int32))])) _
                                  exact k
                                · refine XS.icmpNo X0.here hx rfl (hb hby d12_87) rfl (feq hb87).1 ?_
                                  show Steps p.tables e below (s₁.setTop (mkF m 90 #[.val (.int p1)] [])) _
                                  refine XS.iloadN X0.here hx rfl (hb hby d12_90) rfl ?_
                                  show Steps p.tables e below (s₁.setTop (mkF m 91 #[.val (.int p1)] [(.int p1)])) _
                                  refine XS.bipush X0.here hx rfl (hb hby d12_91) ?_
                                  show Steps p.tables e below (s₁.setTop (mkF m 93 #[.val (.int p1)] [(.int (123 : Int32)), (.int p1)])) _
                                  by_cases hb93 : p1 = (123 : Int32)
                                  · simp only [if_neg hb3, if_neg hb9, if_neg hb15, if_neg hb21, if_neg hb27, if_neg hb33, if_neg hb39, if_neg hb45, if_neg hb51, if_neg hb57, if_neg hb63, if_neg hb69, if_neg hb75, if_neg hb81, if_neg hb87, if_pos hb93] at k
                                    refine XS.icmpYes X0.here hx rfl (pc0 := 93) (pc' := 102) rfl (hb hby d12_93) rfl (teq hb93).1 (by decide) (by decide) ?_
                                    show Steps p.tables e below (s₁.setTop (mkF m 102 #[.val (.int p1)] [])) _
                                    refine XS.iconst X0.here hx rfl (hb hby d12_102) ?_
                                    show Steps p.tables e below (s₁.setTop (mkF m 103 #[.val (.int p1)] [(.int (1 : Int32))])) _
                                    refine XS.goto X0.here hx rfl (pc0 := 103) (pc' := 107) rfl (hb hby d12_103) (by decide) (by decide) ?_
                                    show Steps p.tables e below (s₁.setTop (mkF m 107 #[.val (.int p1)] [(.int (1 : Int32))])) _
                                    exact k
                                  · refine XS.icmpNo X0.here hx rfl (hb hby d12_93) rfl (feq hb93).1 ?_
                                    show Steps p.tables e below (s₁.setTop (mkF m 96 #[.val (.int p1)] [])) _
                                    refine XS.iloadN X0.here hx rfl (hb hby d12_96) rfl ?_
                                    show Steps p.tables e below (s₁.setTop (mkF m 97 #[.val (.int p1)] [(.int p1)])) _
                                    refine XS.bipush X0.here hx rfl (hb hby d12_97) ?_
                                    show Steps p.tables e below (s₁.setTop (mkF m 99 #[.val (.int p1)] [(.int (125 : Int32)), (.int p1)])) _
                                    by_cases hb99 : p1 = (125 : Int32)
                                    · simp only [if_neg hb3, if_neg hb9, if_neg hb15, if_neg hb21, if_neg hb27, if_neg hb33, if_neg hb39, if_neg hb45, if_neg hb51, if_neg hb57, if_neg hb63, if_neg hb69, if_neg hb75, if_neg hb81, if_neg hb87, if_neg hb93, if_pos hb99] at k
                                      refine XS.icmpNo X0.here hx rfl (hb hby d12_99) rfl (teq hb99).2 ?_
                                      show Steps p.tables e below (s₁.setTop (mkF m 102 #[.val (.int p1)] [])) _
                                      refine XS.iconst X0.here hx rfl (hb hby d12_102) ?_
                                      show Steps p.tables e below (s₁.setTop (mkF m 103 #[.val (.int p1)] [(.int (1 : Int32))])) _
                                      refine XS.goto X0.here hx rfl (pc0 := 103) (pc' := 107) rfl (hb hby d12_103) (by decide) (by decide) ?_
                                      show Steps p.tables e below (s₁.setTop (mkF m 107 #[.val (.int p1)] [(.int (1 : Int32))])) _
                                      exact k
                                    · simp only [if_neg hb3, if_neg hb9, if_neg hb15, if_neg hb21, if_neg hb27, if_neg hb33, if_neg hb39, if_neg hb45, if_neg hb51, if_neg hb57, if_neg hb63, if_neg hb69, if_neg hb75, if_neg hb81, if_neg hb87, if_neg hb93, if_neg hb99] at k
                                      refine XS.icmpYes X0.here hx rfl (pc0 := 99) (pc' := 106) rfl (hb hby d12_99) rfl (feq hb99).2 (by decide) (by decide) ?_
                                      show Steps p.tables e below (s₁.setTop (mkF m 106 #[.val (.int p1)] [])) _
                                      refine XS.iconst X0.here hx rfl (hb hby d12_106) ?_
                                      show Steps p.tables e below (s₁.setTop (mkF m 107 #[.val (.int p1)] [(.int (0 : Int32))])) _
                                      exact k
  obtain ⟨fs, hr, hrun, hended, hW, hsame⟩ := X0.leave (v := some (.int (nar .boolean u107s0))) (fun h => by rw [Bd.returns] at h; cases h)
  refine ⟨_, _, pre1 _ ?_, hrun, hended, _, _, rfl, ?_, ⟨_, rfl⟩, hW, hsame.mono (by decide) (by decide)⟩
  · show Steps p.tables e below (s₁.setTop (mkF m 107 #[.val (.int p1)] [(.int u107s0)])) _
    exact retN X0 hx (t := .boolean) Bd.returns (by simp) (hb hby d12_107) hr
  · show Qdel Z p1 h0 n0 _ s₁.heap _
    rw [e0]
    refine ⟨?_, N0, rfl⟩
    subst hu107s0
    simp only [fndel]
/-! body 0: law -/
theorem pd0_0 : parseMethodDescriptor "(C)Z" = some ⟨[.char], some .boolean⟩ := by decide +kernel
theorem pn0 : plainName "com/example/tally/tally/http/IdempotencyKeyHeaderIsTokenCharPinLaw" = true := by first | (simp [plainName, overriddenIn]; done) | decide +kernel
theorem ef0 (m : MethodId) (p1 : Int32) : entryFrame m #[(.int p1)] maxLocals = mkF m 0 #[.val (.int p1), .unset, .unset, .unset] [] := by first | (simp [entryFrame, mkF, argsToLocals, Value.category, maxLocals]; done) | rfl
def fn0 (p1 : Int32) : Int32 :=
  let v5 : Int32 := ((p1 &&& (65535 : Int32)).toUInt32.toUInt16.toUInt32.toInt32)
  let u23s0 : Int32 := (if v5 < (33 : Int32) then (0 : Int32) else (if (126 : Int32) < v5 then (0 : Int32) else (1 : Int32)))
  if u23s0 = (0 : Int32) then
    let u54s0 : Int32 := (if (fntok v5) = (0 : Int32) then (1 : Int32) else (0 : Int32))
    (nar .boolean u54s0)
  else
    let u40s0 : Int32 := (if (fndel v5) = (0 : Int32) then (1 : Int32) else (0 : Int32))
    let u54s0_1 : Int32 := (if (fntok v5) = u40s0 then (1 : Int32) else (0 : Int32))
    (nar .boolean u54s0_1)
/-! the plain law -/
theorem own_char (x : Int32) : ∃ n : Nat, n < 65536 ∧ x.toUInt32.toUInt16.toUInt32.toInt32 = Int32.ofNat n := by
  refine ⟨x.toUInt32.toUInt16.toNat, UInt16.toNat_lt _, ?_⟩
  apply Int32.toBitVec_inj.mp
  apply BitVec.eq_of_toNat_eq
  have q : x.toUInt32.toNat = x.toBitVec.toNat := rfl
  simp
  omega
def own_g (v5 : Int32) : Int32 :=
  let u23s0 : Int32 := (if v5 < (33 : Int32) then (0 : Int32) else (if (126 : Int32) < v5 then (0 : Int32) else (1 : Int32)))
  if u23s0 = (0 : Int32) then
    let u54s0 : Int32 := (if (fntok v5) = (0 : Int32) then (1 : Int32) else (0 : Int32))
    (nar .boolean u54s0)
  else
    let u40s0 : Int32 := (if (fndel v5) = (0 : Int32) then (1 : Int32) else (0 : Int32))
    let u54s0_1 : Int32 := (if (fntok v5) = u40s0 then (1 : Int32) else (0 : Int32))
    (nar .boolean u54s0_1)
theorem own_small : ∀ n : Nat, n < 256 → own_g (Int32.ofNat n) = 1 := by decide +kernel
theorem own_big (n : Nat) (h1 : 256 ≤ n) (h2 : n < 65536) : own_g (Int32.ofNat n) = 1 := by
  have a : (Int32.ofNat n).toInt = n := own_ofNat (by omega)
  have lo : ∀ k : Int32, k.toInt ≤ 255 → ¬ Int32.ofNat n < k := fun k hk => by rw [Int32.lt_iff_toInt_lt, a]; omega
  have hi : ∀ k : Int32, k.toInt ≤ 255 → k < Int32.ofNat n := fun k hk => by rw [Int32.lt_iff_toInt_lt, a]; omega
  have enc : fnenc (Int32.ofNat n) = 0 := by
    simp only [fnenc, if_neg (lo 0 (by decide)), if_pos (hi 255 (by decide))]; rfl
  have i1 : fnio1 (Int32.ofNat n) = -1 := by simp only [fnio1, fnio2, fniox, if_pos enc]
  have tok : fntok (Int32.ofNat n) = 0 := by
    simp only [fntok, i1, if_neg (lo 97 (by decide)), if_pos (hi 122 (by decide)), if_neg (lo 65 (by decide)), if_pos (hi 90 (by decide)), if_neg (lo 48 (by decide)), if_pos (hi 57 (by decide)), if_true]
    rfl
  simp only [own_g, if_neg (lo 33 (by decide)), if_pos (hi 126 (by decide)), if_true, if_pos tok]
  rfl
theorem own_law (p1 : Int32) : fn0 p1 = 1 := by
  obtain ⟨n, hn, e⟩ := own_char (p1 &&& (65535 : Int32))
  have h : own_g (Int32.ofNat n) = 1 := by
    by_cases q : n < 256
    · exact own_small n q
    · exact own_big n (by omega) hn
  have e0 : fn0 p1 = own_g ((p1 &&& (65535 : Int32)).toUInt32.toUInt16.toUInt32.toInt32) := rfl
  rw [e0, e]; exact h
def Q0 (Z : State) (p1 : Int32) (cx : Int32) (h0 : Heap) (n0 : Nat) (v : Option Value) (h : Heap) (L : List Loc) : Prop := v = some (.int (fn0 p1)) ∧ Fr n0 L
set_option maxRecDepth 65536 in
set_option maxHeartbeats 40000000 in
theorem rm0 (l : Launch) (Z : State) (a0 : Array Value) (hw : ∀ d ∈ tables_1, d.before a0 Z = true) (ws : List Jvm.Cond) (p1 : Int32) (cx : Int32) (h0 : Heap) (n0 : Nat) (Z0 : n0 ≤ h0.size) (S0 : Sta Z h0 "java/lang/String" "COMPACT_STRINGS" "Z" (.int cx)) (hcx : ¬ cx = (0 : Int32)) (hCH : Jvm.Lit.constHeld Z "com/example/tally/tally/http/IdempotencyKeyHeader" 47) (hcw : Jvm.Lit.compactW.before a0 Z = true) (hZh : h0 = Z.heap) :
    MetFree l x (head1 (Jvm.Cond.code x code maxLocals ret :: ws) room_1) (fun a U => a = #[(.int p1)] ∧ Z.Warmed39 U.vm ∧ U.heap = h0 ∧ U.vm.interned = Z.vm.interned) (fun _ _ _ _ _ => True) (fun _ U o U' => ∃ v L, o = .returned v ∧ Q0 Z p1 cx h0 n0 v U'.heap L ∧ ReturnedEndW U o U' L room_1.cells room_1.slots) := by
  refine MetFree.of_bodySF (plainFor_of_name pn0) hisR ?_
  intro p e s m args below meth c s₁ Bd hml0 hP hK
  obtain ⟨rfl, hZ, hh, hI⟩ := hP
  have hx := Bd.exec
  have hby := Bd.bytes
  have hml : c.maxLocals = 4 := hml0
  have hown : s.vm.findClass "com/example/tally/tally/http/IdempotencyKeyHeaderIsTokenCharPinLaw" = some m.cls := findClass_of_methodNamed Bd.named
  have hnm := (name_of_methodNamed Bd.named Bd.method).1
  have X0 : Stand p l e room_1 s m #[(.int p1)] below meth c s₁ [] 0 0 := Stand.of_body Bd
  have e0 : s₁.heap = h0 := by rw [← hh, Bd.state]; rfl
  have N0 := Fr.nil n0
  have pre0 : ∀ t, Steps p.tables e below (s₁.setTop (mkF m 0 #[.val (.int p1), .unset, .unset, .unset] [])) t → Steps p.tables e below (s₁.setTop (entryFrame m #[(.int p1)] maxLocals)) t := fun t k => castTop (ef0 m p1) k
  have hS0 : s.Since s.vm 0 := (State.WarmedH.refl s).since 0
  have hk0 : 0 ≤ h0.size := Nat.zero_le _
  obtain ⟨v5, hv5⟩ : ∃ z : Int32, z = ((p1 &&& (65535 : Int32)).toUInt32.toUInt16.toUInt32.toInt32) := ⟨_, rfl⟩
  have pre1 : ∀ t, Steps p.tables e below (s₁.setTop (mkF m 6 #[.val (.int p1), .val (.int v5), .unset, .unset] [])) t → Steps p.tables e below (s₁.setTop (entryFrame m #[(.int p1)] maxLocals)) t := by
    intro t k
    subst hv5
    refine pre0 t ?_
    show Steps p.tables e below (s₁.setTop (mkF m 0 #[.val (.int p1), .unset, .unset, .unset] [])) _
    refine XS.iloadN X0.here hx rfl (hb hby at_0) rfl ?_
    show Steps p.tables e below (s₁.setTop (mkF m 1 #[.val (.int p1), .unset, .unset, .unset] [(.int p1)])) _
    refine X0.ldcInt hx hown (mvT hZ (hw _ (List.mem_of_getElem? (i := 0) rfl))) (g := (mkF m 1 #[.val (.int p1), .unset, .unset, .unset] [(.int p1)])) rfl (hb hby at_1) _ ?_
    show Steps p.tables e below (s₁.setTop (mkF m 3 #[.val (.int p1), .unset, .unset, .unset] [(.int (65535 : Int32)), (.int p1)])) _
    refine XS.iand X0.here hx rfl (hb hby at_3) rfl ?_
    show Steps p.tables e below (s₁.setTop (mkF m 4 #[.val (.int p1), .unset, .unset, .unset] [(.int (p1 &&& (65535 : Int32)))])) _
    refine XS.i2c X0.here hx rfl (hb hby at_4) rfl ?_
    show Steps p.tables e below (s₁.setTop (mkF m 5 #[.val (.int p1), .unset, .unset, .unset] [(.int ((p1 &&& (65535 : Int32)).toUInt32.toUInt16.toUInt32.toInt32))])) _
    refine XS.istoreN X0.here hx rfl (hb hby at_5) rfl (l' := #[.val (.int p1), .val (.int ((p1 &&& (65535 : Int32)).toUInt32.toUInt16.toUInt32.toInt32)), .unset, .unset]) rfl ?_
    show Steps p.tables e below (s₁.setTop (mkF m 6 #[.val (.int p1), .val (.int ((p1 &&& (65535 : Int32)).toUInt32.toUInt16.toUInt32.toInt32)), .unset, .unset] [])) _
    exact k
  obtain ⟨u23s0, hu23s0⟩ : ∃ z : Int32, z = (if v5 < (33 : Int32) then (0 : Int32) else (if (126 : Int32) < v5 then (0 : Int32) else (1 : Int32))) := ⟨_, rfl⟩
  have pre2 : ∀ t, Steps p.tables e below (s₁.setTop (mkF m 23 #[.val (.int p1), .val (.int v5), .unset, .unset] [(.int u23s0)])) t → Steps p.tables e below (s₁.setTop (entryFrame m #[(.int p1)] maxLocals)) t := by
    intro t k
    subst hu23s0
    refine pre1 t ?_
    refine XS.iloadN X0.here hx rfl (hb hby at_6) rfl ?_
    show Steps p.tables e below (s₁.setTop (mkF m 7 #[.val (.int p1), .val (.int v5), .unset, .unset] [(.int v5)])) _
    refine XS.bipush X0.here hx rfl (hb hby at_7) ?_
    show Steps p.tables e below (s₁.setTop (mkF m 9 #[.val (.int p1), .val (.int v5), .unset, .unset] [(.int (33 : Int32)), (.int v5)])) _
    by_cases hb9 : v5 < (33 : Int32)
    · simp only [if_pos hb9] at k
      refine XS.icmpYes X0.here hx rfl (pc0 := 9) (pc' := 22) rfl (hb hby at_9) rfl (tlt hb9).1 (by decide) (by decide) ?_
      show Steps p.tables e below (s₁.setTop (mkF m 22 #[.val (.int p1), .val (.int v5), .unset, .unset] [])) _
      refine XS.iconst X0.here hx rfl (hb hby at_22) ?_
      show Steps p.tables e below (s₁.setTop (mkF m 23 #[.val (.int p1), .val (.int v5), .unset, .unset] [(.int (0 : Int32))])) _
      exact k
    · refine XS.icmpNo X0.here hx rfl (hb hby at_9) rfl (flt hb9).1 ?_
      show Steps p.tables e below (s₁.setTop (mkF m 12 #[.val (.int p1), .val (.int v5), .unset, .unset] [])) _
      refine XS.iloadN X0.here hx rfl (hb hby at_12) rfl ?_
      show Steps p.tables e below (s₁.setTop (mkF m 13 #[.val (.int p1), .val (.int v5), .unset, .unset] [(.int v5)])) _
      refine XS.bipush X0.here hx rfl (hb hby at_13) ?_
      show Steps p.tables e below (s₁.setTop (mkF m 15 #[.val (.int p1), .val (.int v5), .unset, .unset] [(.int (126 : Int32)), (.int v5)])) _
      by_cases hb15 : (126 : Int32) < v5
      · simp only [if_neg hb9, if_pos hb15] at k
        refine XS.icmpYes X0.here hx rfl (pc0 := 15) (pc' := 22) rfl (hb hby at_15) rfl (tlt hb15).2.2.1 (by decide) (by decide) ?_
        show Steps p.tables e below (s₁.setTop (mkF m 22 #[.val (.int p1), .val (.int v5), .unset, .unset] [])) _
        refine XS.iconst X0.here hx rfl (hb hby at_22) ?_
        show Steps p.tables e below (s₁.setTop (mkF m 23 #[.val (.int p1), .val (.int v5), .unset, .unset] [(.int (0 : Int32))])) _
        exact k
      · simp only [if_neg hb9, if_neg hb15] at k
        refine XS.icmpNo X0.here hx rfl (hb hby at_15) rfl (flt hb15).2.2.1 ?_
        show Steps p.tables e below (s₁.setTop (mkF m 18 #[.val (.int p1), .val (.int v5), .unset, .unset] [])) _
        refine XS.iconst X0.here hx rfl (hb hby at_18) ?_
        show Steps p.tables e below (s₁.setTop (mkF m 19 #[.val (.int p1), .val (.int v5), .unset, .unset] [(.int (1 : Int32))])) _
        refine XS.goto X0.here hx rfl (pc0 := 19) (pc' := 23) rfl (hb hby at_19) (by decide) (by decide) ?_
        show Steps p.tables e below (s₁.setTop (mkF m 23 #[.val (.int p1), .val (.int v5), .unset, .unset] [(.int (1 : Int32))])) _
        exact k
  have pre3 : ∀ t, Steps p.tables e below (s₁.setTop (mkF m 25 #[.val (.int p1), .val (.int v5), .val (.int u23s0), .unset] [(.int u23s0)])) t → Steps p.tables e below (s₁.setTop (entryFrame m #[(.int p1)] maxLocals)) t := by
    intro t k
    refine pre2 t ?_
    refine XS.istoreN X0.here hx rfl (hb hby at_23) rfl (l' := #[.val (.int p1), .val (.int v5), .val (.int u23s0), .unset]) rfl ?_
    show Steps p.tables e below (s₁.setTop (mkF m 24 #[.val (.int p1), .val (.int v5), .val (.int u23s0), .unset] [])) _
    refine XS.iloadN X0.here hx rfl (hb hby at_24) rfl ?_
    show Steps p.tables e below (s₁.setTop (mkF m 25 #[.val (.int p1), .val (.int v5), .val (.int u23s0), .unset] [(.int u23s0)])) _
    exact k
  by_cases hc25 : u23s0 = (0 : Int32)
  · have pre4 : ∀ t, Steps p.tables e below (s₁.setTop (mkF m 42 #[.val (.int p1), .val (.int v5), .val (.int u23s0), .val (.int (0 : Int32))] [(.int v5)])) t → Steps p.tables e below (s₁.setTop (entryFrame m #[(.int p1)] maxLocals)) t := by
      intro t k
      refine pre3 t ?_
      refine XS.ifYes X0.here hx rfl (pc0 := 25) (pc' := 39) rfl (hb hby at_25) rfl ((if0 _ _).trans (teq hc25).1) (by decide) (by decide) ?_
      show Steps p.tables e below (s₁.setTop (mkF m 39 #[.val (.int p1), .val (.int v5), .val (.int u23s0), .unset] [])) _
      refine XS.iconst X0.here hx rfl (hb hby at_39) ?_
      show Steps p.tables e below (s₁.setTop (mkF m 40 #[.val (.int p1), .val (.int v5), .val (.int u23s0), .unset] [(.int (0 : Int32))])) _
      refine XS.istoreN X0.here hx rfl (hb hby at_40) rfl (l' := #[.val (.int p1), .val (.int v5), .val (.int u23s0), .val (.int (0 : Int32))]) rfl ?_
      show Steps p.tables e below (s₁.setTop (mkF m 41 #[.val (.int p1), .val (.int v5), .val (.int u23s0), .val (.int (0 : Int32))] [])) _
      refine XS.iloadN X0.here hx rfl (hb hby at_41) rfl ?_
      show Steps p.tables e below (s₁.setTop (mkF m 42 #[.val (.int p1), .val (.int v5), .val (.int u23s0), .val (.int (0 : Int32))] [(.int v5)])) _
      exact k
    obtain ⟨_, _, ⟨T5, L5, k5, n5⟩, -, X5, hs5, hg5, ⟨Lc5, hQ5, l5, y5, z5⟩, st5⟩ := callSS X0 hx (y := (⟨"com/example/tally/tally/http/IdempotencyKeyHeader", "isTokenChar", "(C)Z"⟩ : MethodName)) hown (mvT hZ (hw _ (List.mem_of_getElem? (i := 1) rfl))) (mvT hZ (hw _ (List.mem_of_getElem? (i := 2) rfl))) (mvT hZ (hw _ (List.mem_of_getElem? (i := 3) rfl))) (mvT hZ (hw _ (List.mem_of_getElem? (i := 4) rfl))) (by decide) (own_backOfI (W := 0) (rmtok l Z a0 hw [] v5 cx h0 n0 Z0 S0 hcx hCH hcw hZh) hZ hI (hw _ (List.mem_of_getElem? (i := 4) rfl)) (hw _ (List.mem_of_getElem? (i := 3) rfl)) (by decide) (by decide)) (g := (mkF m 42 #[.val (.int p1), .val (.int v5), .val (.int u23s0), .val (.int (0 : Int32))] [(.int v5)])) rfl (by rw [hml]; rfl) (argsL := [(.int v5)]) (rest := []) (lenOf pd0_0 rfl) rfl (by show 2 * 0 + _ ≤ _; exact Nat.le_of_eq rfl) (hb hby at_42) (fun _ _ => ⟨rfl, e0, (by decide : 0 + 2 ≤ _), (by decide : 0 + 64 ≤ _)⟩)
    dsimp only [Pt.U, Pt.locs, Pt.cells, Pt.slots] at X5 l5 y5 z5 st5 hQ5 hs5 hg5
    subst l5 y5 z5
    obtain ⟨X5, hS5, hZ, hown⟩ := rebS (s := s) (vm0 := s.vm) hS0 (by rw [e0]; exact hk0) X5 hs5 hg5 hZ hown
    have hk5 : T5.heap.size ≤ T5.heap.size := Nat.le_refl _
    obtain ⟨rfl, Nq5⟩ := hQ5
    have N5 := Fr.app N0 Nq5
    have pre5 : ∀ t, Steps p.tables e below (T5.setTop (mkF m 45 #[.val (.int p1), .val (.int v5), .val (.int u23s0), .val (.int (0 : Int32))] [(.int (fntok v5))])) t → Steps p.tables e below (s₁.setTop (entryFrame m #[(.int p1)] maxLocals)) t := fun t k => pre4 t (st5.trans k)
    obtain ⟨u54s0, hu54s0⟩ : ∃ z : Int32, z = (if (fntok v5) = (0 : Int32) then (1 : Int32) else (0 : Int32)) := ⟨_, rfl⟩
    have pre6 : ∀ t, Steps p.tables e below (T5.setTop (mkF m 54 #[.val (.int p1), .val (.int v5), .val (.int u23s0), .val (.int (0 : Int32))] [(.int u54s0)])) t → Steps p.tables e below (s₁.setTop (entryFrame m #[(.int p1)] maxLocals)) t := by
      intro t k
      subst hu54s0
      refine pre5 t ?_
      refine XS.iloadN X5.here hx rfl (hb hby at_45) rfl ?_
      show Steps p.tables e below (T5.setTop (mkF m 46 #[.val (.int p1), .val (.int v5), .val (.int u23s0), .val (.int (0 : Int32))] [(.int (0 : Int32)), (.int (fntok v5))])) _
      by_cases hb46 : (fntok v5) = (0 : Int32)
      · simp only [if_pos hb46] at k
        refine XS.icmpNo X5.here hx rfl (hb hby at_46) rfl (teq hb46).2 ?_
        show Steps p.tables e below (T5.setTop (mkF m 49 #[.val (.int p1), .val (.int v5), .val (.int u23s0), .val (.int (0 : Int32))] [])) _
        refine XS.iconst X5.here hx rfl (hb hby at_49) ?_
        show Steps p.tables e below (T5.setTop (mkF m 50 #[.val (.int p1), .val (.int v5), .val (.int u23s0), .val (.int (0 : Int32))] [(.int (1 : Int32))])) _
        refine XS.goto X5.here hx rfl (pc0 := 50) (pc' := 54) rfl (hb hby at_50) (by decide) (by decide) ?_
        show Steps p.tables e below (T5.setTop (mkF m 54 #[.val (.int p1), .val (.int v5), .val (.int u23s0), .val (.int (0 : Int32))] [(.int (1 : Int32))])) _
        exact k
      · simp only [if_neg hb46] at k
        refine XS.icmpYes X5.here hx rfl (pc0 := 46) (pc' := 53) rfl (hb hby at_46) rfl (feq hb46).2 (by decide) (by decide) ?_
        show Steps p.tables e below (T5.setTop (mkF m 53 #[.val (.int p1), .val (.int v5), .val (.int u23s0), .val (.int (0 : Int32))] [])) _
        refine XS.iconst X5.here hx rfl (hb hby at_53) ?_
        show Steps p.tables e below (T5.setTop (mkF m 54 #[.val (.int p1), .val (.int v5), .val (.int u23s0), .val (.int (0 : Int32))] [(.int (0 : Int32))])) _
        exact k
    obtain ⟨fs, hr, hrun, hended, hREW⟩ := Stand.leaveW (s := s) (vm₁ := T5.vm) X5 hS5 hk5 (v := some (.int (nar .boolean u54s0))) (fun h => by rw [Bd.returns] at h; cases h)
    refine ⟨_, _, pre6 _ ?_, hrun, hended, _, _, rfl, ?_, hREW.1, hREW.2.1, hREW.2.2.1, hREW.2.2.2.mono (by decide) (by decide)⟩
    · show Steps p.tables e below (T5.setTop (mkF m 54 #[.val (.int p1), .val (.int v5), .val (.int u23s0), .val (.int (0 : Int32))] [(.int u54s0)])) _
      exact retN X5 hx (t := .boolean) Bd.returns (by simp) (hb hby at_54) hr
    · show Q0 Z p1 cx h0 n0 _ T5.heap _
      refine ⟨?_, N5⟩
      subst hu54s0 hu23s0 hv5
      simp only [fn0, if_pos hc25]
  · have pre7 : ∀ t, Steps p.tables e below (s₁.setTop (mkF m 29 #[.val (.int p1), .val (.int v5), .val (.int u23s0), .unset] [(.int v5)])) t → Steps p.tables e below (s₁.setTop (entryFrame m #[(.int p1)] maxLocals)) t := by
      intro t k
      refine pre3 t ?_
      refine XS.ifNo X0.here hx rfl (hb hby at_25) rfl ((if0 _ _).trans (feq hc25).1) ?_
      show Steps p.tables e below (s₁.setTop (mkF m 28 #[.val (.int p1), .val (.int v5), .val (.int u23s0), .unset] [])) _
      refine XS.iloadN X0.here hx rfl (hb hby at_28) rfl ?_
      show Steps p.tables e below (s₁.setTop (mkF m 29 #[.val (.int p1), .val (.int v5), .val (.int u23s0), .unset] [(.int v5)])) _
      exact k
    obtain ⟨_, _, ⟨T8, L8, k8, n8⟩, -, X8, ⟨Lc8, hQ8, l8, y8, z8⟩, st8⟩ := Jvm.LawKit.callS X0 hx (y := (⟨"com/example/tally/tally/http/IdempotencyKeyHeaderIsTokenCharPinLaw", "isDelimiter", "(C)Z"⟩ : MethodName)) hown (mvT hZ (hw _ (List.mem_of_getElem? (i := 58) rfl))) (mvT hZ (hw _ (List.mem_of_getElem? (i := 59) rfl))) (mvT hZ (hw _ (List.mem_of_getElem? (i := 60) rfl))) (mvT hZ (hw _ (List.mem_of_getElem? (i := 61) rfl))) (by decide) (backOf (W := 0) (rmdel l Z a0 hw [] v5 h0 n0 Z0) hZ (hw _ (List.mem_of_getElem? (i := 61) rfl)) (hw _ (List.mem_of_getElem? (i := 60) rfl)) (by decide) (by decide)) (g := (mkF m 29 #[.val (.int p1), .val (.int v5), .val (.int u23s0), .unset] [(.int v5)])) rfl (by rw [hml]; rfl) (argsL := [(.int v5)]) (rest := []) (lenOf pd0_0 rfl) rfl (by show 2 * 0 + _ ≤ _; exact Nat.le_of_eq rfl) (hb hby at_29) (fun _ _ => ⟨rfl, e0, (by decide : 0 + 0 ≤ _), (by decide : 0 + 0 ≤ _)⟩)
    dsimp only [Pt.U, Pt.locs, Pt.cells, Pt.slots] at X8 l8 y8 z8 st8 hQ8
    subst l8 y8 z8
    obtain ⟨rfl, Nq8, e8⟩ := hQ8
    have N8 := Fr.app N0 Nq8
    have pre8 : ∀ t, Steps p.tables e below (T8.setTop (mkF m 32 #[.val (.int p1), .val (.int v5), .val (.int u23s0), .unset] [(.int (fndel v5))])) t → Steps p.tables e below (s₁.setTop (entryFrame m #[(.int p1)] maxLocals)) t := fun t k => pre7 t (st8 _ k)
    obtain ⟨u40s0, hu40s0⟩ : ∃ z : Int32, z = (if (fndel v5) = (0 : Int32) then (1 : Int32) else (0 : Int32)) := ⟨_, rfl⟩
    have pre9 : ∀ t, Steps p.tables e below (T8.setTop (mkF m 40 #[.val (.int p1), .val (.int v5), .val (.int u23s0), .unset] [(.int u40s0)])) t → Steps p.tables e below (s₁.setTop (entryFrame m #[(.int p1)] maxLocals)) t := by
      intro t k
      subst hu40s0
      refine pre8 t ?_
      by_cases hb32 : (fndel v5) = (0 : Int32)
      · simp only [if_pos hb32] at k
        refine XS.ifNo X8.here hx rfl (hb hby at_32) rfl ((if0 _ _).trans (teq hb32).2) ?_
        show Steps p.tables e below (T8.setTop (mkF m 35 #[.val (.int p1), .val (.int v5), .val (.int u23s0), .unset] [])) _
        refine XS.iconst X8.here hx rfl (hb hby at_35) ?_
        show Steps p.tables e below (T8.setTop (mkF m 36 #[.val (.int p1), .val (.int v5), .val (.int u23s0), .unset] [(.int (1 : Int32))])) _
        refine XS.goto X8.here hx rfl (pc0 := 36) (pc' := 40) rfl (hb hby at_36) (by decide) (by decide) ?_
        show Steps p.tables e below (T8.setTop (mkF m 40 #[.val (.int p1), .val (.int v5), .val (.int u23s0), .unset] [(.int (1 : Int32))])) _
        exact k
      · simp only [if_neg hb32] at k
        refine XS.ifYes X8.here hx rfl (pc0 := 32) (pc' := 39) rfl (hb hby at_32) rfl ((if0 _ _).trans (feq hb32).2) (by decide) (by decide) ?_
        show Steps p.tables e below (T8.setTop (mkF m 39 #[.val (.int p1), .val (.int v5), .val (.int u23s0), .unset] [])) _
        refine XS.iconst X8.here hx rfl (hb hby at_39) ?_
        show Steps p.tables e below (T8.setTop (mkF m 40 #[.val (.int p1), .val (.int v5), .val (.int u23s0), .unset] [(.int (0 : Int32))])) _
        exact k
    have pre10 : ∀ t, Steps p.tables e below (T8.setTop (mkF m 42 #[.val (.int p1), .val (.int v5), .val (.int u23s0), .val (.int u40s0)] [(.int v5)])) t → Steps p.tables e below (s₁.setTop (entryFrame m #[(.int p1)] maxLocals)) t := by
      intro t k
      refine pre9 t ?_
      refine XS.istoreN X8.here hx rfl (hb hby at_40) rfl (l' := #[.val (.int p1), .val (.int v5), .val (.int u23s0), .val (.int u40s0)]) rfl ?_
      show Steps p.tables e below (T8.setTop (mkF m 41 #[.val (.int p1), .val (.int v5), .val (.int u23s0), .val (.int u40s0)] [])) _
      refine XS.iloadN X8.here hx rfl (hb hby at_41) rfl ?_
      show Steps p.tables e below (T8.setTop (mkF m 42 #[.val (.int p1), .val (.int v5), .val (.int u23s0), .val (.int u40s0)] [(.int v5)])) _
      exact k
    obtain ⟨_, _, ⟨T11, L11, k11, n11⟩, -, X11, hs11, hg11, ⟨Lc11, hQ11, l11, y11, z11⟩, st11⟩ := callSS X8 hx (y := (⟨"com/example/tally/tally/http/IdempotencyKeyHeader", "isTokenChar", "(C)Z"⟩ : MethodName)) hown (mvT hZ (hw _ (List.mem_of_getElem? (i := 1) rfl))) (mvT hZ (hw _ (List.mem_of_getElem? (i := 2) rfl))) (mvT hZ (hw _ (List.mem_of_getElem? (i := 3) rfl))) (mvT hZ (hw _ (List.mem_of_getElem? (i := 4) rfl))) (by decide) (own_backOfI (W := 0) (rmtok l Z a0 hw [] v5 cx h0 n0 Z0 S0 hcx hCH hcw hZh) hZ hI (hw _ (List.mem_of_getElem? (i := 4) rfl)) (hw _ (List.mem_of_getElem? (i := 3) rfl)) (by decide) (by decide)) (g := (mkF m 42 #[.val (.int p1), .val (.int v5), .val (.int u23s0), .val (.int u40s0)] [(.int v5)])) rfl (by rw [hml]; rfl) (argsL := [(.int v5)]) (rest := []) (lenOf pd0_0 rfl) rfl (by show 2 * 0 + _ ≤ _; exact Nat.le_of_eq rfl) (hb hby at_42) (fun _ _ => ⟨rfl, e8, (by decide : 0 + 2 ≤ _), (by decide : 0 + 64 ≤ _)⟩)
    dsimp only [Pt.U, Pt.locs, Pt.cells, Pt.slots] at X11 l11 y11 z11 st11 hQ11 hs11 hg11
    subst l11 y11 z11
    obtain ⟨X11, hS11, hZ, hown⟩ := rebS (s := s) (vm0 := s.vm) hS0 (by rw [e8]; exact hk0) X11 hs11 hg11 hZ hown
    have hk11 : T11.heap.size ≤ T11.heap.size := Nat.le_refl _
    obtain ⟨rfl, Nq11⟩ := hQ11
    have N11 := Fr.app N8 Nq11
    have pre11 : ∀ t, Steps p.tables e below (T11.setTop (mkF m 45 #[.val (.int p1), .val (.int v5), .val (.int u23s0), .val (.int u40s0)] [(.int (fntok v5))])) t → Steps p.tables e below (s₁.setTop (entryFrame m #[(.int p1)] maxLocals)) t := fun t k => pre10 t (st11.trans k)
    obtain ⟨u54s0_1, hu54s0_1⟩ : ∃ z : Int32, z = (if (fntok v5) = u40s0 then (1 : Int32) else (0 : Int32)) := ⟨_, rfl⟩
    have pre12 : ∀ t, Steps p.tables e below (T11.setTop (mkF m 54 #[.val (.int p1), .val (.int v5), .val (.int u23s0), .val (.int u40s0)] [(.int u54s0_1)])) t → Steps p.tables e below (s₁.setTop (entryFrame m #[(.int p1)] maxLocals)) t := by
      intro t k
      subst hu54s0_1
      refine pre11 t ?_
      refine XS.iloadN X11.here hx rfl (hb hby at_45) rfl ?_
      show Steps p.tables e below (T11.setTop (mkF m 46 #[.val (.int p1), .val (.int v5), .val (.int u23s0), .val (.int u40s0)] [(.int u40s0), (.int (fntok v5))])) _
      by_cases hb46 : (fntok v5) = u40s0
      · simp only [if_pos hb46] at k
        refine XS.icmpNo X11.here hx rfl (hb hby at_46) rfl (teq hb46).2 ?_
        show Steps p.tables e below (T11.setTop (mkF m 49 #[.val (.int p1), .val (.int v5), .val (.int u23s0), .val (.int u40s0)] [])) _
        refine XS.iconst X11.here hx rfl (hb hby at_49) ?_
        show Steps p.tables e below (T11.setTop (mkF m 50 #[.val (.int p1), .val (.int v5), .val (.int u23s0), .val (.int u40s0)] [(.int (1 : Int32))])) _
        refine XS.goto X11.here hx rfl (pc0 := 50) (pc' := 54) rfl (hb hby at_50) (by decide) (by decide) ?_
        show Steps p.tables e below (T11.setTop (mkF m 54 #[.val (.int p1), .val (.int v5), .val (.int u23s0), .val (.int u40s0)] [(.int (1 : Int32))])) _
        exact k
      · simp only [if_neg hb46] at k
        refine XS.icmpYes X11.here hx rfl (pc0 := 46) (pc' := 53) rfl (hb hby at_46) rfl (feq hb46).2 (by decide) (by decide) ?_
        show Steps p.tables e below (T11.setTop (mkF m 53 #[.val (.int p1), .val (.int v5), .val (.int u23s0), .val (.int u40s0)] [])) _
        refine XS.iconst X11.here hx rfl (hb hby at_53) ?_
        show Steps p.tables e below (T11.setTop (mkF m 54 #[.val (.int p1), .val (.int v5), .val (.int u23s0), .val (.int u40s0)] [(.int (0 : Int32))])) _
        exact k
    obtain ⟨fs, hr, hrun, hended, hREW⟩ := Stand.leaveW (s := s) (vm₁ := T11.vm) X11 hS11 hk11 (v := some (.int (nar .boolean u54s0_1))) (fun h => by rw [Bd.returns] at h; cases h)
    refine ⟨_, _, pre12 _ ?_, hrun, hended, _, _, rfl, ?_, hREW.1, hREW.2.1, hREW.2.2.1, hREW.2.2.2.mono (by decide) (by decide)⟩
    · show Steps p.tables e below (T11.setTop (mkF m 54 #[.val (.int p1), .val (.int v5), .val (.int u23s0), .val (.int u40s0)] [(.int u54s0_1)])) _
      exact retN X11 hx (t := .boolean) Bd.returns (by simp) (hb hby at_54) hr
    · show Q0 Z p1 cx h0 n0 _ T11.heap _
      refine ⟨?_, N11⟩
      subst hu54s0_1 hu40s0 hu23s0 hv5
      simp only [fn0, if_neg hc25]
set_option maxRecDepth 65536 in
set_option maxHeartbeats 40000000 in
theorem comes_1 {Post : Tables → Env → Array Value → State → Outcome → State → Prop} (hpost : ∀ tb e args s v u, (limb_1_1.after args s (.returned v) u = true ∧ limb_1_2.after args s (.returned v) u = true ∧ True) → ReturnedEndW s (.returned v) u (Jvm.fieldLocs frame_1_writes args s ++ Jvm.arrayLocs frame_1_arrays args s ++ Jvm.staticLocs frame_1_statics s) 8 1088 → Post tb e args s (.returned v) u) :
    ArmFor flags0 classFile x code maxLocals ret World_1 tables_1 room_1 Calls_1 rest_1 Pre_1 Post := by
  intro l hfl _ _ p e ha hc hk s m args below hf hA hF happ hP
  obtain ⟨hcalls, hrest, hpre⟩ := hP
  obtain ⟨-, -, -, hnamed, -, -, -, hat⟩ := (Spec.applies_iff hf).mp happ
  obtain ⟨hg, hn⟩ := and_e (Cond.before_iff.mp (show (Jvm.Cond.and given_1 narrow_1).before args s = true from hpre))
  obtain ⟨hcount, g0⟩ := and_e hg
  have a0 := g0
  obtain ⟨w0, rfl⟩ : ∃ w0 : Value, args = #[w0] := by
    have hs : args.size = 1 := by simpa [Cond.value, given_1] using hcount
    obtain ⟨L⟩ := args
    match L, hs with
    | [w0], _ => exact ⟨w0, rfl⟩
  have hw := fun d (hd : d ∈ tables_1) => atoms_spec (ws := Jvm.Cond.code x code maxLocals ret :: tables_1) hat d (List.mem_cons_of_mem _ hd)
  obtain ⟨i0, ei0⟩ := is_v a0
  obtain rfl : w0 = (.int i0) := Option.some.inj ei0
  obtain ⟨hsets, hown0⟩ := atoms_of _ (rest_1_c_eq ▸ (show rest_1_c.before _ s = true from hrest))
  obtain ⟨cx, ecx⟩ := is_v (Cond.before_iff.mp (hsets _ (List.mem_of_getElem? (i := 1) rfl)))
  have S0 : Sta s s.heap "java/lang/String" "COMPACT_STRINGS" "Z" (.int cx) := Sta.start ecx (Or.inl (hsets _ (List.mem_of_getElem? (i := 0) rfl)))
  have hcw : Jvm.Lit.compactW.before _ s = true := hsets _ (List.mem_of_getElem? (i := 2) rfl)
  have hcx : ¬ cx = (0 : Int32) := own_ncx ecx hcw
  have hCH : Jvm.Lit.constHeld s "com/example/tally/tally/http/IdempotencyKeyHeader" 47 := hcalls.1 ("com/example/tally/tally/http/IdempotencyKeyHeader", 47) (List.mem_of_getElem? (i := 0) rfl)
  obtain ⟨n, o, h1, h2, h3, v, L, rfl, ⟨hv, N⟩, hq⟩ := rm0 l s _ hw tables_1 i0 cx s.heap s.heap.size (Nat.le_refl _) S0 hcx hCH hcw rfl p e ha hc hk s m _ below hf ((Spec.applies_iff_loose hf).mp happ).1 ⟨rfl, State.Warmed39.refl s, rfl, rfl⟩ trivial
  rw [own_law] at hv
  subst hv
  refine ⟨n, _, h1, h2, h3, hpost _ _ _ _ _ _ ⟨Cond.after_iff.mpr rfl, Cond.after_iff.mpr (eq_i res_at (Term.int_eval (1)) rfl), trivial⟩ ⟨hq.1, hq.2.1, hq.2.2.1, (hq.2.2.2.sift fun y hy => Or.inr (N y hy)).mono (by decide) (by decide)⟩⟩
theorem main_1_1 : Claimed_1_1 := comes_1 fun _ _ _ _ _ _ h hF => ⟨h.1, hF⟩
theorem main_1_2 : Claimed_1_2 := comes_1 fun _ _ _ _ _ _ h hF => ⟨h.2.1, hF⟩
end Jvm.Pilot.@@N@@
namespace Jvm.Pilot.@@N@@
open Jvm Jvm.ClassFile Sem Op Lib Jvm.Free Jvm.Stand Jvm.Pilot.@@N@@.Jvm.D
/-! MADE BY PROGRAM (witnessworld.py) out of the Statement's table words and the real class files: 18 classes; the members and pool entries that the words name. The judged class is class 1, her method 2. -/
namespace start1
open Jvm.ClassFile
def u (s : String) : CpInfo := .utf8 (stringToUtf16 s)
/-- a pool by its gaps: so many unusable entries, then the entry; so many at the end -/
def gap : Nat → List CpInfo → List CpInfo
  | 0, r => r
  | n + 1, r => .unusable :: gap n r
def poolList (es : List (Nat × CpInfo)) (last : Nat) : List CpInfo := es.foldr (fun e r => gap e.1 (e.2 :: r)) (gap last [])
def pool (es : List (Nat × CpInfo)) (last : Nat) : Array CpInfo := ⟨poolList es last⟩
def fileOf (pool : Array CpInfo) (this : Nat) (attrs : Array Attribute := #[]) (ms : Array MethodInfo := #[]) (fl : Nat := 33) (sup : Nat := 0) (ifs : Array Nat := #[]) (fds : Array FieldInfo := #[]) : ClassFile where
  minorVersion := 0
  majorVersion := 65
  constantPool := pool
  accessFlags := fl
  thisClass := this
  superClass := sup
  interfaces := ifs
  fields := fds
  methods := ms
  attributes := attrs
def plain (name : String) (sup : Option ClassId) : Class where
  name := name
  kind := .ordinary
  loader := none
  accessFlags := 33
  super := sup
  interfaces := #[]
  cf := none
  fields := #[]
  methods := #[]
  instanceTypes := #[]
  staticTypes := #[]
  resolved := #[]
  callSites := []
  init := .initialized
  statics := none
  mirror := none

def pool0 : Array CpInfo := pool [(5, u "<init>"), (0, u "()V"), (1, .class_ 10), (1, u "java/lang/Object")] 113

def k0m0 : Method := { name := "<init>", desc := "()V", sig := { parameters := [], returnType := none }, accessFlags := 1, code := none }
/-- java/lang/Object -/
def k0 : Class := { plain "java/lang/Object" none with
  accessFlags := 33
  interfaces := #[]
  cf := some (fileOf pool0 8 #[] #[{ accessFlags := 1, nameIndex := 5, descriptorIndex := 6, attributes := #[] }] 33 0 #[] #[])
  fields := #[]
  methods := #[k0m0]
  instanceTypes := #[]
  staticTypes := #[]
  resolved := Array.replicate 124 none
  statics := none }

def pool1 : Array CpInfo := pool [(2, .class_ 4), (1, u "java/lang/Object"), (0, u "<init>"), (0, u "()V"), (0, .integer 65535), (0, .methodref 9 10), (0, .class_ 11), (0, .nameAndType 12 13), (0, u "com/example/tally/tally/http/IdempotencyKeyHeaderIsTokenCharPinLaw"), (0, u "isDelimiter"), (0, u "(C)Z"), (0, .methodref 15 16), (0, .class_ 17), (0, .nameAndType 18 13), (0, u "com/example/tally/tally/http/IdempotencyKeyHeader"), (0, u "isTokenChar"), (3, u "law"), (0, u "(I)Z")] 2

def k1m0 : Method := { name := "<init>", desc := "()V", sig := { parameters := [], returnType := none }, accessFlags := 1, code := none }
def k1c1 : Code := { maxStack := 2, maxLocals := 1, code := method_2_code, exceptionTable := #[], attributes := #[] }
def k1m1 : Method := { name := "isDelimiter", desc := "(C)Z", sig := { parameters := [.char], returnType := some .boolean }, accessFlags := 10, code := some k1c1 }
def k1c2 : Code := { maxStack := 2, maxLocals := 4, code := code, exceptionTable := #[], attributes := #[] }
def k1m2 : Method := { name := "law", desc := "(I)Z", sig := { parameters := [.int], returnType := some .boolean }, accessFlags := 9, code := some k1c2 }
/-- com/example/tally/tally/http/IdempotencyKeyHeaderIsTokenCharPinLaw -/
def k1 : Class := { plain "com/example/tally/tally/http/IdempotencyKeyHeaderIsTokenCharPinLaw" (some 0) with
  accessFlags := 49
  interfaces := #[]
  cf := some (fileOf pool1 9 #[] #[{ accessFlags := 1, nameIndex := 5, descriptorIndex := 6, attributes := #[] }, { accessFlags := 10, nameIndex := 12, descriptorIndex := 13, attributes := #[] }, { accessFlags := 9, nameIndex := 22, descriptorIndex := 23, attributes := #[] }] 49 2 #[] #[])
  fields := #[]
  methods := #[k1m0, k1m1, k1m2]
  instanceTypes := #[]
  staticTypes := #[]
  resolved := Array.replicate 26 none
  statics := none }

def pool2 : Array CpInfo := pool [(2, .class_ 4), (1, u "java/lang/Object"), (0, u "<init>"), (0, u "()V"), (1, .class_ 10), (1, u "com/example/tally/tally/http/IdempotencyKeyHeader"), (3, .class_ 16), (1, u "java/lang/String"), (28, u "isTokenChar"), (0, u "(C)Z"), (0, .string 48), (0, u "!#$%&'*+-.^_`|~"), (0, .methodref 14 50), (0, .nameAndType 51 52), (0, u "indexOf"), (0, u "(I)I"), (40, u "NAME"), (0, u "Ljava/lang/String;"), (1, u "TOKEN_SYMBOLS")] 6

def k2m0 : Method := { name := "<init>", desc := "()V", sig := { parameters := [], returnType := none }, accessFlags := 2, code := none }
def k2c1 : Code := { maxStack := 2, maxLocals := 2, code := prog_5_method_4_code, exceptionTable := #[], attributes := #[] }
def k2m1 : Method := { name := "isTokenChar", desc := "(C)Z", sig := { parameters := [.char], returnType := some .boolean }, accessFlags := 8, code := some k2c1 }
/-- com/example/tally/tally/http/IdempotencyKeyHeader -/
def k2 : Class := { plain "com/example/tally/tally/http/IdempotencyKeyHeader" (some 0) with
  accessFlags := 32
  interfaces := #[]
  cf := some (fileOf pool2 8 #[] #[{ accessFlags := 2, nameIndex := 5, descriptorIndex := 6, attributes := #[] }, { accessFlags := 8, nameIndex := 45, descriptorIndex := 46, attributes := #[] }] 32 2 #[] #[{ accessFlags := 24, nameIndex := 93, descriptorIndex := 94, attributes := #[] }, { accessFlags := 26, nameIndex := 96, descriptorIndex := 94, attributes := #[] }])
  fields := #[{ name := "NAME", type := (.object "java/lang/String"), accessFlags := 24, slot := 0, constantValue := 0 }, { name := "TOKEN_SYMBOLS", type := (.object "java/lang/String"), accessFlags := 26, slot := 1, constantValue := 0 }]
  methods := #[k2m0, k2m1]
  instanceTypes := #[]
  staticTypes := #[(.object "java/lang/String"), (.object "java/lang/String")]
  resolved := Array.replicate 103 none
  statics := none }

def pool3 : Array CpInfo := pool [(1, .class_ 2), (0, u "java/io/Serializable"), (0, .class_ 4), (0, u "java/lang/Object")] 2

/-- java/io/Serializable -/
def k3 : Class := { plain "java/io/Serializable" (some 0) with
  accessFlags := 1537
  interfaces := #[]
  cf := some (fileOf pool3 1 #[] #[] 1537 3 #[] #[])
  fields := #[]
  methods := #[]
  instanceTypes := #[]
  staticTypes := #[]
  resolved := Array.replicate 7 none
  statics := none }

def pool4 : Array CpInfo := pool [(1, .class_ 2), (0, u "java/lang/Comparable"), (0, .class_ 4), (0, u "java/lang/Object")] 7

/-- java/lang/Comparable -/
def k4 : Class := { plain "java/lang/Comparable" (some 0) with
  accessFlags := 1537
  interfaces := #[]
  cf := some (fileOf pool4 1 #[] #[] 1537 3 #[] #[])
  fields := #[]
  methods := #[]
  instanceTypes := #[]
  staticTypes := #[]
  resolved := Array.replicate 12 none
  statics := none }

def pool5 : Array CpInfo := pool [(2, .class_ 4), (1, u "java/lang/CharSequence"), (42, .class_ 48), (0, u "java/lang/CharSequence$1CodePointIterator"), (10, .class_ 60), (0, u "java/lang/CharSequence$1CharIterator"), (5, .class_ 67), (0, u "java/lang/Object")] 63

/-- java/lang/CharSequence -/
def k5 : Class := { plain "java/lang/CharSequence" (some 0) with
  accessFlags := 1537
  interfaces := #[]
  cf := some (fileOf pool5 2 #[.nestMembers #[47, 59]] #[] 1537 66 #[] #[])
  fields := #[]
  methods := #[]
  instanceTypes := #[]
  staticTypes := #[]
  resolved := Array.replicate 131 none
  statics := none }

def pool6 : Array CpInfo := pool [(1, .class_ 2), (0, u "java/lang/constant/Constable"), (0, .class_ 4), (0, u "java/lang/Object")] 6

/-- java/lang/constant/Constable -/
def k6 : Class := { plain "java/lang/constant/Constable" (some 0) with
  accessFlags := 1537
  interfaces := #[]
  cf := some (fileOf pool6 1 #[] #[] 1537 3 #[] #[])
  fields := #[]
  methods := #[]
  instanceTypes := #[]
  staticTypes := #[]
  resolved := Array.replicate 11 none
  statics := none }

def pool7 : Array CpInfo := pool [(1, .class_ 2), (0, u "java/lang/constant/ConstantDesc"), (0, .class_ 4), (0, u "java/lang/Object")] 32

/-- java/lang/constant/ConstantDesc -/
def k7 : Class := { plain "java/lang/constant/ConstantDesc" (some 0) with
  accessFlags := 1537
  interfaces := #[]
  cf := some (fileOf pool7 1 #[] #[] 1537 3 #[] #[])
  fields := #[]
  methods := #[]
  instanceTypes := #[]
  staticTypes := #[]
  resolved := Array.replicate 37 none
  statics := none }

def pool8 : Array CpInfo := pool [(2, .class_ 4), (1, u "java/lang/Object"), (0, u "<init>"), (0, u "()V"), (2, .fieldref 10 11), (0, .class_ 12), (0, .nameAndType 13 14), (0, u "java/lang/String"), (0, u "value"), (0, u "[B"), (0, .fieldref 10 16), (0, .nameAndType 17 18), (0, u "coder"), (0, u "B"), (2, u "hash"), (0, u "I"), (2, u "hashIsZero"), (0, u "Z"), (11, .fieldref 10 39), (0, .nameAndType 40 26), (0, u "COMPACT_STRINGS"), (66, .class_ 109), (1, u "java/lang/StringLatin1"), (32, u "()Z"), (191, u "()I"), (0, .methodref 10 336), (0, .nameAndType 17 337), (0, u "()B"), (154, .methodref 10 493), (0, .nameAndType 494 142), (0, u "isLatin1"), (10, .methodref 10 506), (0, .nameAndType 507 334), (0, u "length"), (67, .class_ 576), (0, u "java/lang/CharSequence"), (22, u "CASE_INSENSITIVE_ORDER"), (0, u "Ljava/util/Comparator;"), (32, .methodref 10 634), (0, .nameAndType 635 636), (0, u "indexOf"), (0, u "(II)I"), (0, .methodref 107 638), (0, .nameAndType 635 639), (0, u "([BIII)I"), (125, u "(I)I"), (335, u "serialPersistentFields"), (0, u "[Ljava/io/ObjectStreamField;"), (0, .class_ 1104), (0, u "java/lang/String$CaseInsensitiveComparator"), (1, .class_ 1107), (0, u "java/io/Serializable"), (0, .class_ 1109), (0, u "java/lang/Comparable"), (0, .class_ 1111), (0, u "java/lang/constant/Constable"), (0, .class_ 1113), (0, u "java/lang/constant/ConstantDesc"), (2, u "serialVersionUID"), (0, u "J"), (3, u "REPL"), (0, u "C"), (2, u "LATIN1"), (1, u "UTF16")] 323

def k8m0 : Method := { name := "<init>", desc := "()V", sig := { parameters := [], returnType := none }, accessFlags := 1, code := none }
def k8c1 : Code := { maxStack := 2, maxLocals := 1, code := jdk_42_method_54_code, exceptionTable := #[], attributes := #[] }
def k8m1 : Method := { name := "length", desc := "()I", sig := { parameters := [], returnType := some .int }, accessFlags := 1, code := some k8c1 }
def k8c2 : Code := { maxStack := 3, maxLocals := 2, code := jdk_42_method_79_code, exceptionTable := #[], attributes := #[] }
def k8m2 : Method := { name := "indexOf", desc := "(I)I", sig := { parameters := [.int], returnType := some .int }, accessFlags := 1, code := some k8c2 }
def k8c3 : Code := { maxStack := 4, maxLocals := 3, code := jdk_42_method_80_code, exceptionTable := #[], attributes := #[] }
def k8m3 : Method := { name := "indexOf", desc := "(II)I", sig := { parameters := [.int, .int], returnType := some .int }, accessFlags := 1, code := some k8c3 }
def k8c4 : Code := { maxStack := 1, maxLocals := 1, code := jdk_42_method_152_code, exceptionTable := #[], attributes := #[] }
def k8m4 : Method := { name := "coder", desc := "()B", sig := { parameters := [], returnType := some .byte }, accessFlags := 0, code := some k8c4 }
def k8c5 : Code := { maxStack := 1, maxLocals := 1, code := jdk_42_method_154_code, exceptionTable := #[], attributes := #[] }
def k8m5 : Method := { name := "isLatin1", desc := "()Z", sig := { parameters := [], returnType := some .boolean }, accessFlags := 0, code := some k8c5 }
/-- java/lang/String -/
def k8 : Class := { plain "java/lang/String" (some 0) with
  accessFlags := 49
  interfaces := #[3, 4, 5, 6, 7]
  cf := some (fileOf pool8 10 #[.nestMembers #[1103]] #[{ accessFlags := 1, nameIndex := 5, descriptorIndex := 6, attributes := #[] }, { accessFlags := 1, nameIndex := 507, descriptorIndex := 334, attributes := #[] }, { accessFlags := 1, nameIndex := 635, descriptorIndex := 765, attributes := #[] }, { accessFlags := 1, nameIndex := 635, descriptorIndex := 636, attributes := #[] }, { accessFlags := 0, nameIndex := 17, descriptorIndex := 337, attributes := #[] }, { accessFlags := 0, nameIndex := 494, descriptorIndex := 142, attributes := #[] }] 49 2 #[1106, 1108, 575, 1110, 1112] #[{ accessFlags := 18, nameIndex := 13, descriptorIndex := 14, attributes := #[] }, { accessFlags := 18, nameIndex := 17, descriptorIndex := 18, attributes := #[] }, { accessFlags := 2, nameIndex := 21, descriptorIndex := 22, attributes := #[] }, { accessFlags := 2, nameIndex := 25, descriptorIndex := 26, attributes := #[] }, { accessFlags := 26, nameIndex := 1116, descriptorIndex := 1117, attributes := #[] }, { accessFlags := 24, nameIndex := 40, descriptorIndex := 26, attributes := #[] }, { accessFlags := 26, nameIndex := 1101, descriptorIndex := 1102, attributes := #[] }, { accessFlags := 26, nameIndex := 1121, descriptorIndex := 1122, attributes := #[] }, { accessFlags := 25, nameIndex := 599, descriptorIndex := 600, attributes := #[] }, { accessFlags := 24, nameIndex := 1125, descriptorIndex := 18, attributes := #[] }, { accessFlags := 24, nameIndex := 1127, descriptorIndex := 18, attributes := #[] }])
  fields := #[{ name := "value", type := (.array .byte), accessFlags := 18, slot := 0, constantValue := 0 }, { name := "coder", type := .byte, accessFlags := 18, slot := 1, constantValue := 0 }, { name := "hash", type := .int, accessFlags := 2, slot := 2, constantValue := 0 }, { name := "hashIsZero", type := .boolean, accessFlags := 2, slot := 3, constantValue := 0 }, { name := "serialVersionUID", type := .long, accessFlags := 26, slot := 0, constantValue := 0 }, { name := "COMPACT_STRINGS", type := .boolean, accessFlags := 24, slot := 1, constantValue := 0 }, { name := "serialPersistentFields", type := (.array (.object "java/io/ObjectStreamField")), accessFlags := 26, slot := 2, constantValue := 0 }, { name := "REPL", type := .char, accessFlags := 26, slot := 3, constantValue := 0 }, { name := "CASE_INSENSITIVE_ORDER", type := (.object "java/util/Comparator"), accessFlags := 25, slot := 4, constantValue := 0 }, { name := "LATIN1", type := .byte, accessFlags := 24, slot := 5, constantValue := 0 }, { name := "UTF16", type := .byte, accessFlags := 24, slot := 6, constantValue := 0 }]
  methods := #[k8m0, k8m1, k8m2, k8m3, k8m4, k8m5]
  instanceTypes := #[(.array .byte), .byte, .int, .boolean]
  staticTypes := #[.long, .boolean, (.array (.object "java/io/ObjectStreamField")), .char, (.object "java/util/Comparator"), .byte, .byte]
  resolved := Array.replicate 1451 none
  statics := some 0 }

def pool9 : Array CpInfo := pool [(4, .class_ 6), (1, u "java/lang/Object"), (0, u "<init>"), (0, u "()V"), (5, .class_ 16), (1, u "java/lang/StringLatin1"), (21, .methodref 39 40), (0, .class_ 41), (0, .nameAndType 42 43), (0, u "java/lang/Math"), (0, u "min"), (0, u "(II)I"), (44, .methodref 14 89), (0, .nameAndType 90 91), (0, u "canEncode"), (0, u "(I)Z"), (0, .methodref 39 93), (0, .nameAndType 94 43), (0, u "max"), (0, .methodref 14 96), (0, .nameAndType 97 98), (0, u "indexOfChar"), (0, u "([BIII)I"), (2, u "indexOf"), (19, u "$assertionsDisabled"), (0, u "Z"), (98, .class_ 223), (1, u "java/lang/StringLatin1$LinesSpliterator"), (166, .class_ 391), (0, u "java/lang/StringLatin1$CharsSpliterator")] 3

def k9m0 : Method := { name := "<init>", desc := "()V", sig := { parameters := [], returnType := none }, accessFlags := 0, code := none }
def k9c1 : Code := { maxStack := 2, maxLocals := 1, code := jdk_43_method_4_code, exceptionTable := #[], attributes := #[] }
def k9m1 : Method := { name := "canEncode", desc := "(I)Z", sig := { parameters := [.int], returnType := some .boolean }, accessFlags := 9, code := some k9c1 }
def k9c2 : Code := { maxStack := 4, maxLocals := 4, code := jdk_43_method_22_code, exceptionTable := #[], attributes := #[] }
def k9m2 : Method := { name := "indexOf", desc := "([BIII)I", sig := { parameters := [(.array .byte), .int, .int, .int], returnType := some .int }, accessFlags := 9, code := some k9c2 }
def k9c3 : Code := { maxStack := 2, maxLocals := 6, code := jdk_43_method_23_code, exceptionTable := #[], attributes := #[] }
def k9m3 : Method := { name := "indexOfChar", desc := "([BIII)I", sig := { parameters := [(.array .byte), .int, .int, .int], returnType := some .int }, accessFlags := 10, code := some k9c3 }
/-- java/lang/StringLatin1 -/
def k9 : Class := { plain "java/lang/StringLatin1" (some 0) with
  accessFlags := 48
  interfaces := #[]
  cf := some (fileOf pool9 14 #[.nestMembers #[390, 221]] #[{ accessFlags := 0, nameIndex := 7, descriptorIndex := 8, attributes := #[] }, { accessFlags := 9, nameIndex := 90, descriptorIndex := 91, attributes := #[] }, { accessFlags := 9, nameIndex := 101, descriptorIndex := 98, attributes := #[] }, { accessFlags := 10, nameIndex := 97, descriptorIndex := 98, attributes := #[] }] 48 4 #[] #[{ accessFlags := 4120, nameIndex := 121, descriptorIndex := 122, attributes := #[] }])
  fields := #[{ name := "$assertionsDisabled", type := .boolean, accessFlags := 4120, slot := 0, constantValue := 0 }]
  methods := #[k9m0, k9m1, k9m2, k9m3]
  instanceTypes := #[]
  staticTypes := #[.boolean]
  resolved := Array.replicate 395 none
  statics := none }

def pool10 : Array CpInfo := pool [(1, .class_ 2), (0, u "java/lang/Math"), (1, .class_ 6), (1, u "java/lang/Object"), (0, u "<init>"), (0, u "()V"), (89, .class_ 100), (1, u "java/lang/Math$RandomNumberGeneratorHolder"), (71, u "negativeZeroFloatBits"), (0, u "J"), (2, u "negativeZeroDoubleBits"), (21, u "max"), (2, u "min"), (43, u "$assertionsDisabled"), (0, u "Z"), (88, u "(II)I"), (2, u "twoToTheDoubleScaleDown"), (0, u "D"), (4, u "twoToTheDoubleScaleUp"), (9, u "E"), (3, u "PI"), (2, u "TAU"), (2, u "DEGREES_TO_RADIANS"), (0, u "RADIANS_TO_DEGREES")] 94

def k10m0 : Method := { name := "<init>", desc := "()V", sig := { parameters := [], returnType := none }, accessFlags := 2, code := none }
def k10c1 : Code := { maxStack := 2, maxLocals := 2, code := jdk_29_method_65_code, exceptionTable := #[], attributes := #[] }
def k10m1 : Method := { name := "max", desc := "(II)I", sig := { parameters := [.int, .int], returnType := some .int }, accessFlags := 9, code := some k10c1 }
def k10c2 : Code := { maxStack := 2, maxLocals := 2, code := jdk_29_method_69_code, exceptionTable := #[], attributes := #[] }
def k10m2 : Method := { name := "min", desc := "(II)I", sig := { parameters := [.int, .int], returnType := some .int }, accessFlags := 9, code := some k10c2 }
/-- java/lang/Math -/
def k10 : Class := { plain "java/lang/Math" (some 0) with
  accessFlags := 49
  interfaces := #[]
  cf := some (fileOf pool10 1 #[.nestMembers #[98]] #[{ accessFlags := 2, nameIndex := 7, descriptorIndex := 8, attributes := #[] }, { accessFlags := 9, nameIndex := 198, descriptorIndex := 335, attributes := #[] }, { accessFlags := 9, nameIndex := 201, descriptorIndex := 335, attributes := #[] }] 49 4 #[] #[{ accessFlags := 25, nameIndex := 354, descriptorIndex := 339, attributes := #[] }, { accessFlags := 25, nameIndex := 358, descriptorIndex := 339, attributes := #[] }, { accessFlags := 25, nameIndex := 361, descriptorIndex := 339, attributes := #[] }, { accessFlags := 26, nameIndex := 364, descriptorIndex := 339, attributes := #[] }, { accessFlags := 26, nameIndex := 365, descriptorIndex := 339, attributes := #[] }, { accessFlags := 26, nameIndex := 172, descriptorIndex := 173, attributes := #[] }, { accessFlags := 26, nameIndex := 176, descriptorIndex := 173, attributes := #[] }, { accessFlags := 8, nameIndex := 344, descriptorIndex := 339, attributes := #[] }, { accessFlags := 8, nameIndex := 338, descriptorIndex := 339, attributes := #[] }, { accessFlags := 4120, nameIndex := 245, descriptorIndex := 246, attributes := #[] }])
  fields := #[{ name := "E", type := .double, accessFlags := 25, slot := 0, constantValue := 0 }, { name := "PI", type := .double, accessFlags := 25, slot := 1, constantValue := 0 }, { name := "TAU", type := .double, accessFlags := 25, slot := 2, constantValue := 0 }, { name := "DEGREES_TO_RADIANS", type := .double, accessFlags := 26, slot := 3, constantValue := 0 }, { name := "RADIANS_TO_DEGREES", type := .double, accessFlags := 26, slot := 4, constantValue := 0 }, { name := "negativeZeroFloatBits", type := .long, accessFlags := 26, slot := 5, constantValue := 0 }, { name := "negativeZeroDoubleBits", type := .long, accessFlags := 26, slot := 6, constantValue := 0 }, { name := "twoToTheDoubleScaleUp", type := .double, accessFlags := 8, slot := 7, constantValue := 0 }, { name := "twoToTheDoubleScaleDown", type := .double, accessFlags := 8, slot := 8, constantValue := 0 }, { name := "$assertionsDisabled", type := .boolean, accessFlags := 4120, slot := 9, constantValue := 0 }]
  methods := #[k10m0, k10m1, k10m2]
  instanceTypes := #[]
  staticTypes := #[.double, .double, .double, .double, .double, .long, .long, .double, .double, .boolean]
  resolved := Array.replicate 460 none
  statics := none }

def pool11 : Array CpInfo := pool [(2, .class_ 4), (1, u "java/lang/Object"), (0, u "<init>"), (0, u "()V"), (17, .class_ 26), (1, u "jdk/internal/util/Preconditions"), (28, .class_ 56), (0, u "jdk/internal/util/Preconditions$4"), (57, .class_ 115), (0, u "jdk/internal/util/Preconditions$1"), (7, u "SIOOBE_FORMATTER"), (0, u "Ljava/util/function/BiFunction;"), (0, .class_ 126), (0, u "jdk/internal/util/Preconditions$2"), (3, u "AIOOBE_FORMATTER"), (0, .class_ 132), (0, u "jdk/internal/util/Preconditions$3"), (3, u "IOOBE_FORMATTER")] 57

def k11m0 : Method := { name := "<init>", desc := "()V", sig := { parameters := [], returnType := none }, accessFlags := 1, code := none }
/-- jdk/internal/util/Preconditions -/
def k11 : Class := { plain "jdk/internal/util/Preconditions" (some 0) with
  accessFlags := 33
  interfaces := #[]
  cf := some (fileOf pool11 24 #[.nestMembers #[55, 131, 125, 114]] #[{ accessFlags := 1, nameIndex := 5, descriptorIndex := 6, attributes := #[] }] 33 2 #[] #[{ accessFlags := 25, nameIndex := 123, descriptorIndex := 124, attributes := #[] }, { accessFlags := 25, nameIndex := 130, descriptorIndex := 124, attributes := #[] }, { accessFlags := 25, nameIndex := 136, descriptorIndex := 124, attributes := #[] }])
  fields := #[{ name := "SIOOBE_FORMATTER", type := (.object "java/util/function/BiFunction"), accessFlags := 25, slot := 0, constantValue := 0 }, { name := "AIOOBE_FORMATTER", type := (.object "java/util/function/BiFunction"), accessFlags := 25, slot := 1, constantValue := 0 }, { name := "IOOBE_FORMATTER", type := (.object "java/util/function/BiFunction"), accessFlags := 25, slot := 2, constantValue := 0 }]
  methods := #[k11m0]
  instanceTypes := #[]
  staticTypes := #[(.object "java/util/function/BiFunction"), (.object "java/util/function/BiFunction"), (.object "java/util/function/BiFunction")]
  resolved := Array.replicate 194 none
  statics := some 1 }

def pool12 : Array CpInfo := pool [(9, u "<init>"), (6, .class_ 18), (1, u "java/lang/Object"), (0, u "()V"), (1, .class_ 23), (1, u "jdk/internal/util/ArraysSupport"), (0, u "LOG2_ARRAY_LONG_INDEX_SCALE"), (0, u "I"), (2, u "U"), (0, u "Ljdk/internal/misc/Unsafe;"), (8, u "BIG_ENDIAN"), (0, u "Z"), (8, u "LOG2_BYTE_BIT_SIZE"), (4, u "LOG2_ARRAY_INT_INDEX_SCALE"), (54, u "JLA"), (0, u "Ljdk/internal/access/JavaLangAccess;"), (11, u "LOG2_ARRAY_BOOLEAN_INDEX_SCALE"), (9, u "LOG2_ARRAY_BYTE_INDEX_SCALE"), (5, u "LOG2_ARRAY_CHAR_INDEX_SCALE"), (5, u "LOG2_ARRAY_SHORT_INDEX_SCALE"), (18, u "LOG2_ARRAY_FLOAT_INDEX_SCALE"), (24, u "LOG2_ARRAY_DOUBLE_INDEX_SCALE"), (89, u "T_BOOLEAN"), (2, u "T_CHAR"), (1, u "T_FLOAT"), (1, u "T_DOUBLE"), (1, u "T_BYTE"), (1, u "T_SHORT"), (1, u "T_INT"), (1, u "T_LONG"), (1, u "SOFT_MAX_ARRAY_LENGTH")] 83

def k12m0 : Method := { name := "<init>", desc := "()V", sig := { parameters := [], returnType := none }, accessFlags := 2, code := none }
/-- jdk/internal/util/ArraysSupport -/
def k12 : Class := { plain "jdk/internal/util/ArraysSupport" (some 0) with
  accessFlags := 33
  interfaces := #[]
  cf := some (fileOf pool12 21 #[] #[{ accessFlags := 2, nameIndex := 9, descriptorIndex := 19, attributes := #[] }] 33 16 #[] #[{ accessFlags := 24, nameIndex := 28, descriptorIndex := 29, attributes := #[] }, { accessFlags := 26, nameIndex := 38, descriptorIndex := 39, attributes := #[] }, { accessFlags := 25, nameIndex := 121, descriptorIndex := 25, attributes := #[] }, { accessFlags := 25, nameIndex := 131, descriptorIndex := 25, attributes := #[] }, { accessFlags := 25, nameIndex := 137, descriptorIndex := 25, attributes := #[] }, { accessFlags := 25, nameIndex := 143, descriptorIndex := 25, attributes := #[] }, { accessFlags := 25, nameIndex := 53, descriptorIndex := 25, attributes := #[] }, { accessFlags := 25, nameIndex := 24, descriptorIndex := 25, attributes := #[] }, { accessFlags := 25, nameIndex := 162, descriptorIndex := 25, attributes := #[] }, { accessFlags := 25, nameIndex := 187, descriptorIndex := 25, attributes := #[] }, { accessFlags := 26, nameIndex := 48, descriptorIndex := 25, attributes := #[] }, { accessFlags := 25, nameIndex := 277, descriptorIndex := 25, attributes := #[] }, { accessFlags := 25, nameIndex := 280, descriptorIndex := 25, attributes := #[] }, { accessFlags := 25, nameIndex := 282, descriptorIndex := 25, attributes := #[] }, { accessFlags := 25, nameIndex := 284, descriptorIndex := 25, attributes := #[] }, { accessFlags := 25, nameIndex := 286, descriptorIndex := 25, attributes := #[] }, { accessFlags := 25, nameIndex := 288, descriptorIndex := 25, attributes := #[] }, { accessFlags := 25, nameIndex := 290, descriptorIndex := 25, attributes := #[] }, { accessFlags := 25, nameIndex := 292, descriptorIndex := 25, attributes := #[] }, { accessFlags := 26, nameIndex := 108, descriptorIndex := 109, attributes := #[] }, { accessFlags := 25, nameIndex := 294, descriptorIndex := 25, attributes := #[] }])
  fields := #[{ name := "U", type := (.object "jdk/internal/misc/Unsafe"), accessFlags := 24, slot := 0, constantValue := 0 }, { name := "BIG_ENDIAN", type := .boolean, accessFlags := 26, slot := 1, constantValue := 0 }, { name := "LOG2_ARRAY_BOOLEAN_INDEX_SCALE", type := .int, accessFlags := 25, slot := 2, constantValue := 0 }, { name := "LOG2_ARRAY_BYTE_INDEX_SCALE", type := .int, accessFlags := 25, slot := 3, constantValue := 0 }, { name := "LOG2_ARRAY_CHAR_INDEX_SCALE", type := .int, accessFlags := 25, slot := 4, constantValue := 0 }, { name := "LOG2_ARRAY_SHORT_INDEX_SCALE", type := .int, accessFlags := 25, slot := 5, constantValue := 0 }, { name := "LOG2_ARRAY_INT_INDEX_SCALE", type := .int, accessFlags := 25, slot := 6, constantValue := 0 }, { name := "LOG2_ARRAY_LONG_INDEX_SCALE", type := .int, accessFlags := 25, slot := 7, constantValue := 0 }, { name := "LOG2_ARRAY_FLOAT_INDEX_SCALE", type := .int, accessFlags := 25, slot := 8, constantValue := 0 }, { name := "LOG2_ARRAY_DOUBLE_INDEX_SCALE", type := .int, accessFlags := 25, slot := 9, constantValue := 0 }, { name := "LOG2_BYTE_BIT_SIZE", type := .int, accessFlags := 26, slot := 10, constantValue := 0 }, { name := "T_BOOLEAN", type := .int, accessFlags := 25, slot := 11, constantValue := 0 }, { name := "T_CHAR", type := .int, accessFlags := 25, slot := 12, constantValue := 0 }, { name := "T_FLOAT", type := .int, accessFlags := 25, slot := 13, constantValue := 0 }, { name := "T_DOUBLE", type := .int, accessFlags := 25, slot := 14, constantValue := 0 }, { name := "T_BYTE", type := .int, accessFlags := 25, slot := 15, constantValue := 0 }, { name := "T_SHORT", type := .int, accessFlags := 25, slot := 16, constantValue := 0 }, { name := "T_INT", type := .int, accessFlags := 25, slot := 17, constantValue := 0 }, { name := "T_LONG", type := .int, accessFlags := 25, slot := 18, constantValue := 0 }, { name := "JLA", type := (.object "jdk/internal/access/JavaLangAccess"), accessFlags := 26, slot := 19, constantValue := 0 }, { name := "SOFT_MAX_ARRAY_LENGTH", type := .int, accessFlags := 25, slot := 20, constantValue := 0 }]
  methods := #[k12m0]
  instanceTypes := #[]
  staticTypes := #[(.object "jdk/internal/misc/Unsafe"), .boolean, .int, .int, .int, .int, .int, .int, .int, .int, .int, .int, .int, .int, .int, .int, .int, .int, .int, (.object "jdk/internal/access/JavaLangAccess"), .int]
  resolved := Array.replicate 378 none
  statics := none }

def pool13 : Array CpInfo := pool [(1, u "java/lang/Cloneable"), (0, .class_ 1), (0, u "java/lang/Object"), (0, .class_ 3)] 3

/-- java/lang/Cloneable -/
def k13 : Class := { plain "java/lang/Cloneable" (some 0) with
  accessFlags := 1537
  interfaces := #[]
  cf := some (fileOf pool13 2 #[] #[] 1537 4 #[] #[])
  fields := #[]
  methods := #[]
  instanceTypes := #[]
  staticTypes := #[]
  resolved := Array.replicate 8 none
  statics := none }

/-- the primitive byte -/
def k14 : Class := { plain "byte" none with kind := .primitive 'B', accessFlags := 0x411 }
/-- [B -/
def k15 : Class := { plain "[B" (some 0) with kind := .array 14 .byte, interfaces := #[13, 3], accessFlags := 1041 }

/-- the primitive int -/
def k16 : Class := { plain "int" none with kind := .primitive 'I', accessFlags := 0x411 }
/-- [I -/
def k17 : Class := { plain "[I" (some 0) with kind := .array 16 .int, interfaces := #[13, 3], accessFlags := 1041 }

def heap : Heap := #[{ cls := 8, slots := #[.long 0, .int 1, .null, .int 0, .null, .int 0, .int 0], vm := .statics 8 },
  { cls := 11, slots := #[.null, .null, .null], vm := .statics 11 }]
def classes : Array Class := #[k0, k1, k2, k3, k4, k5, k6, k7, k8, k9, k10, k11, k12, k13, k14, k15, k16, k17]
def interned : List (Array UInt16 × Addr) := []
def slotsUsed : Nat := 10
def theMethod : MethodId := ⟨1, 2⟩
def args0 : Array Value := #[.int 70]
def aboutOver (below : List Frame) : State where
  vm := { classes := classes, interned := interned.toArray }
  heap := heap
  slotsUsed := slotsUsed
  threads := #[{ frames := .invoking theMethod args0 :: below }]
def below0 : List Frame := [.native { method := ⟨0, 0⟩, args := #[] }]
def about1 : State := aboutOver below0
def p0 : Program := .bare "" "" ""
def e0 : Env := launch0.env 0 0 0
theorem w_frames : about1.frames = Frame.invoking theMethod args0 :: below0 := rfl
set_option maxRecDepth 65536 in
theorem w_args : argsFit about1.vm theMethod args0 = true := by decide +kernel
set_option maxRecDepth 65536 in
theorem w_heap : heapFits about1 = true := by decide +kernel
set_option maxRecDepth 65536 in
theorem w_runnable : about1.curStatus? = some .runnable := by decide +kernel
set_option maxRecDepth 65536 in
theorem w_alone : about1.alone = true := by decide +kernel
set_option maxRecDepth 65536 in
theorem w_named : about1.methodNamed? x = some theMethod := by decide +kernel
set_option maxRecDepth 65536 in
theorem w_hears : about1.hears theMethod below0 = true := by decide +kernel
set_option maxRecDepth 65536 in
theorem w_ripe : about1.ripe theMethod args0 below0 = true := by decide +kernel
theorem w_running : about1.status = .running := rfl
set_option maxRecDepth 65536 in
theorem w_room : about1.hasRoom e0.platform room_1 = true :=
  launch0.hasRoom_least _ room_1 (by decide +kernel) (by decide +kernel) (by decide +kernel) (by decide +kernel) (by decide +kernel) (by decide +kernel)
theorem allAtoms_all (ts : List Jvm.Cond) (a : Array Jvm.Value) (st : Jvm.State) : (allAtoms ts).before a st = ts.all (fun c => c.before a st) := by
  induction ts with
  | nil => rfl
  | cons c t ih =>
    show (Jvm.Cond.and c (allAtoms t)).before a st = _
    rw [Jvm.Cond.before_and, ih, List.all_cons]
def words1 : List Jvm.Cond := Jvm.Cond.code x code maxLocals ret :: tables_1
/-- a 'code' word, met by the world's own term for the bytes: nothing is compared byte by byte -/
theorem code_word {y : MethodName} {bytes : ByteArray} {mx : Nat} {rt : Option FieldType} {a : Array Value} {s : State} {m : MethodId} {meth : Method} {c : Code} (h1 : s.methodNamed? y = some m) (h2 : s.vm.method? m = some meth) (h3 : meth.code = some c) (h4 : c.code = bytes)
    (h5 : (c.maxLocals == mx && c.exceptionTable.isEmpty && decide (c.maxStack ≤ mostOperands) && decide (meth.sig.returnType = rt) && !meth.locks && decide (parseMethodDescriptor y.desc = some meth.sig)) = true) : (Jvm.Cond.code y bytes mx rt).before a s = true := by
  simp only [Bool.and_eq_true, beq_iff_eq, Bool.not_eq_true', decide_eq_true_eq] at h5
  obtain ⟨⟨⟨⟨⟨g1, g2⟩, g3⟩, g4⟩, g5⟩, g6⟩ := h5
  simp [Cond.before, Cond.holds, Cond.value, h1, h2, h3, h4, g1, g2, g3, g4, g5, g6]
def isCode : Jvm.Cond → Bool
  | .code _ _ _ _ => true
  | _ => false
theorem all_split {L : List Jvm.Cond} {P : Jvm.Cond → Bool} (h1 : L.all (fun c => isCode c || P c) = true) (h2 : ∀ c ∈ L.filter isCode, P c = true) : L.all P = true := by
  refine List.all_eq_true.mpr fun c hc => ?_
  have h := List.all_eq_true.mp h1 c hc
  rcases Bool.eq_false_or_eq_true (isCode c) with hi | hi
  · exact h2 c (List.mem_filter.mpr ⟨hc, hi⟩)
  · simpa [hi] using h
set_option maxRecDepth 65536 in
theorem w_c0 : (Jvm.Cond.code x code maxLocals ret).before args0 about1 = true := code_word (m := ⟨1, 2⟩) (meth := k1m2) (c := k1c2) (by decide +kernel) rfl rfl rfl (by decide +kernel)
set_option maxRecDepth 65536 in
theorem w_c1 : (Jvm.Cond.code ({ cls := "com/example/tally/tally/http/IdempotencyKeyHeader", name := "isTokenChar", desc := "(C)Z" } : Jvm.MethodName) prog_5_method_4_code (2 : Nat) (Option.some Jvm.ClassFile.FieldType.boolean)).before args0 about1 = true := code_word (m := ⟨2, 1⟩) (meth := k2m1) (c := k2c1) (by decide +kernel) rfl rfl rfl (by decide +kernel)
set_option maxRecDepth 65536 in
theorem w_c2 : (Jvm.Cond.code ({ cls := "java/lang/String", name := "indexOf", desc := "(I)I" } : Jvm.MethodName) jdk_42_method_79_code (2 : Nat) (Option.some Jvm.ClassFile.FieldType.int)).before args0 about1 = true := code_word (m := ⟨8, 2⟩) (meth := k8m2) (c := k8c2) (by decide +kernel) rfl rfl rfl (by decide +kernel)
set_option maxRecDepth 65536 in
theorem w_c3 : (Jvm.Cond.code ({ cls := "java/lang/String", name := "indexOf", desc := "(II)I" } : Jvm.MethodName) jdk_42_method_80_code (3 : Nat) (Option.some Jvm.ClassFile.FieldType.int)).before args0 about1 = true := code_word (m := ⟨8, 3⟩) (meth := k8m3) (c := k8c3) (by decide +kernel) rfl rfl rfl (by decide +kernel)
set_option maxRecDepth 65536 in
theorem w_c4 : (Jvm.Cond.code ({ cls := "java/lang/String", name := "isLatin1", desc := "()Z" } : Jvm.MethodName) jdk_42_method_154_code (1 : Nat) (Option.some Jvm.ClassFile.FieldType.boolean)).before args0 about1 = true := code_word (m := ⟨8, 5⟩) (meth := k8m5) (c := k8c5) (by decide +kernel) rfl rfl rfl (by decide +kernel)
set_option maxRecDepth 65536 in
theorem w_c5 : (Jvm.Cond.code ({ cls := "java/lang/String", name := "length", desc := "()I" } : Jvm.MethodName) jdk_42_method_54_code (1 : Nat) (Option.some Jvm.ClassFile.FieldType.int)).before args0 about1 = true := code_word (m := ⟨8, 1⟩) (meth := k8m1) (c := k8c1) (by decide +kernel) rfl rfl rfl (by decide +kernel)
set_option maxRecDepth 65536 in
theorem w_c6 : (Jvm.Cond.code ({ cls := "java/lang/String", name := "coder", desc := "()B" } : Jvm.MethodName) jdk_42_method_152_code (1 : Nat) (Option.some Jvm.ClassFile.FieldType.byte)).before args0 about1 = true := code_word (m := ⟨8, 4⟩) (meth := k8m4) (c := k8c4) (by decide +kernel) rfl rfl rfl (by decide +kernel)
set_option maxRecDepth 65536 in
theorem w_c7 : (Jvm.Cond.code ({ cls := "java/lang/StringLatin1", name := "indexOf", desc := "([BIII)I" } : Jvm.MethodName) jdk_43_method_22_code (4 : Nat) (Option.some Jvm.ClassFile.FieldType.int)).before args0 about1 = true := code_word (m := ⟨9, 2⟩) (meth := k9m2) (c := k9c2) (by decide +kernel) rfl rfl rfl (by decide +kernel)
set_option maxRecDepth 65536 in
theorem w_c8 : (Jvm.Cond.code ({ cls := "java/lang/StringLatin1", name := "canEncode", desc := "(I)Z" } : Jvm.MethodName) jdk_43_method_4_code (1 : Nat) (Option.some Jvm.ClassFile.FieldType.boolean)).before args0 about1 = true := code_word (m := ⟨9, 1⟩) (meth := k9m1) (c := k9c1) (by decide +kernel) rfl rfl rfl (by decide +kernel)
set_option maxRecDepth 65536 in
theorem w_c9 : (Jvm.Cond.code ({ cls := "java/lang/Math", name := "max", desc := "(II)I" } : Jvm.MethodName) jdk_29_method_65_code (2 : Nat) (Option.some Jvm.ClassFile.FieldType.int)).before args0 about1 = true := code_word (m := ⟨10, 1⟩) (meth := k10m1) (c := k10c1) (by decide +kernel) rfl rfl rfl (by decide +kernel)
set_option maxRecDepth 65536 in
theorem w_c10 : (Jvm.Cond.code ({ cls := "java/lang/Math", name := "min", desc := "(II)I" } : Jvm.MethodName) jdk_29_method_69_code (2 : Nat) (Option.some Jvm.ClassFile.FieldType.int)).before args0 about1 = true := code_word (m := ⟨10, 2⟩) (meth := k10m2) (c := k10c2) (by decide +kernel) rfl rfl rfl (by decide +kernel)
set_option maxRecDepth 65536 in
theorem w_c11 : (Jvm.Cond.code ({ cls := "java/lang/StringLatin1", name := "indexOfChar", desc := "([BIII)I" } : Jvm.MethodName) jdk_43_method_23_code (6 : Nat) (Option.some Jvm.ClassFile.FieldType.int)).before args0 about1 = true := code_word (m := ⟨9, 3⟩) (meth := k9m3) (c := k9c3) (by decide +kernel) rfl rfl rfl (by decide +kernel)
set_option maxRecDepth 65536 in
theorem w_c12 : (Jvm.Cond.code ({ cls := "com/example/tally/tally/http/IdempotencyKeyHeaderIsTokenCharPinLaw", name := "isDelimiter", desc := "(C)Z" } : Jvm.MethodName) method_2_code (1 : Nat) (Option.some Jvm.ClassFile.FieldType.boolean)).before args0 about1 = true := code_word (m := ⟨1, 1⟩) (meth := k1m1) (c := k1c1) (by decide +kernel) rfl rfl rfl (by decide +kernel)
def codes1 : List Jvm.Cond := [Jvm.Cond.code x code maxLocals ret, Jvm.Cond.code ({ cls := "com/example/tally/tally/http/IdempotencyKeyHeader", name := "isTokenChar", desc := "(C)Z" } : Jvm.MethodName) prog_5_method_4_code (2 : Nat) (Option.some Jvm.ClassFile.FieldType.boolean), Jvm.Cond.code ({ cls := "java/lang/String", name := "indexOf", desc := "(I)I" } : Jvm.MethodName) jdk_42_method_79_code (2 : Nat) (Option.some Jvm.ClassFile.FieldType.int), Jvm.Cond.code ({ cls := "java/lang/String", name := "indexOf", desc := "(II)I" } : Jvm.MethodName) jdk_42_method_80_code (3 : Nat) (Option.some Jvm.ClassFile.FieldType.int), Jvm.Cond.code ({ cls := "java/lang/String", name := "isLatin1", desc := "()Z" } : Jvm.MethodName) jdk_42_method_154_code (1 : Nat) (Option.some Jvm.ClassFile.FieldType.boolean), Jvm.Cond.code ({ cls := "java/lang/String", name := "length", desc := "()I" } : Jvm.MethodName) jdk_42_method_54_code (1 : Nat) (Option.some Jvm.ClassFile.FieldType.int), Jvm.Cond.code ({ cls := "java/lang/String", name := "coder", desc := "()B" } : Jvm.MethodName) jdk_42_method_152_code (1 : Nat) (Option.some Jvm.ClassFile.FieldType.byte), Jvm.Cond.code ({ cls := "java/lang/StringLatin1", name := "indexOf", desc := "([BIII)I" } : Jvm.MethodName) jdk_43_method_22_code (4 : Nat) (Option.some Jvm.ClassFile.FieldType.int), Jvm.Cond.code ({ cls := "java/lang/StringLatin1", name := "canEncode", desc := "(I)Z" } : Jvm.MethodName) jdk_43_method_4_code (1 : Nat) (Option.some Jvm.ClassFile.FieldType.boolean), Jvm.Cond.code ({ cls := "java/lang/Math", name := "max", desc := "(II)I" } : Jvm.MethodName) jdk_29_method_65_code (2 : Nat) (Option.some Jvm.ClassFile.FieldType.int), Jvm.Cond.code ({ cls := "java/lang/Math", name := "min", desc := "(II)I" } : Jvm.MethodName) jdk_29_method_69_code (2 : Nat) (Option.some Jvm.ClassFile.FieldType.int), Jvm.Cond.code ({ cls := "java/lang/StringLatin1", name := "indexOfChar", desc := "([BIII)I" } : Jvm.MethodName) jdk_43_method_23_code (6 : Nat) (Option.some Jvm.ClassFile.FieldType.int), Jvm.Cond.code ({ cls := "com/example/tally/tally/http/IdempotencyKeyHeaderIsTokenCharPinLaw", name := "isDelimiter", desc := "(C)Z" } : Jvm.MethodName) method_2_code (1 : Nat) (Option.some Jvm.ClassFile.FieldType.boolean)]
set_option maxRecDepth 65536 in
theorem codes_eq : words1.filter isCode = codes1 := rfl
theorem w_codes : ∀ c ∈ words1.filter isCode, c.before args0 about1 = true := by
  rw [codes_eq]
  intro c hc
  simp only [codes1, List.mem_cons, List.not_mem_nil, or_false] at hc
  rcases hc with rfl | rfl | rfl | rfl | rfl | rfl | rfl | rfl | rfl | rfl | rfl | rfl | rfl
  · exact w_c0
  · exact w_c1
  · exact w_c2
  · exact w_c3
  · exact w_c4
  · exact w_c5
  · exact w_c6
  · exact w_c7
  · exact w_c8
  · exact w_c9
  · exact w_c10
  · exact w_c11
  · exact w_c12
set_option maxRecDepth 65536 in
theorem w_t1 : (words1.take 24).all (fun c => isCode c || c.before args0 about1) = true := by decide +kernel
set_option maxRecDepth 65536 in
theorem w_t2 : ((words1.drop 24).take 24).all (fun c => isCode c || c.before args0 about1) = true := by decide +kernel
set_option maxRecDepth 65536 in
theorem w_t3 : ((words1.drop 24).drop 24).all (fun c => isCode c || c.before args0 about1) = true := by decide +kernel
theorem w_tables : (allAtoms (Jvm.Cond.code x code maxLocals ret :: tables_1)).before args0 about1 = true := by
  rw [allAtoms_all]
  show words1.all (fun c => c.before args0 about1) = true
  refine all_split ?_ w_codes
  rw [← List.take_append_drop 24 words1, List.all_append, w_t1, ← List.take_append_drop 24 (words1.drop 24), List.all_append, w_t2, w_t3]
  rfl
set_option maxRecDepth 65536 in
theorem w_rest : rest_1_c.before args0 about1 = true := by decide +kernel
set_option maxRecDepth 65536 in
theorem w_case : (Jvm.Cond.and given_1 narrow_1).before args0 about1 = true := by decide +kernel
set_option maxRecDepth 65536 in
theorem w_consts : constsHeld consts_1 about1 := Jvm.Lit.constsHeldB_iff.mp (by decide +kernel)
theorem w_applies : (headSpec (Jvm.Cond.code x code maxLocals ret :: tables_1) room_1).applies x e0.platform about1 = true :=
  (Spec.applies_iff w_frames).mpr ⟨w_running, w_runnable, w_alone, w_named, w_hears, w_ripe, w_room, w_tables⟩
theorem atStart : AtStart classFile x code maxLocals ret World_1 tables_1 room_1 Calls_1 rest_1 Pre_1 launch0 p0 e0 about1 theMethod args0 below0 :=
  ⟨lists_1, trivial, launch0.admits_env _ _ _, launch0.least_env, fairChoices_fair.cas, fairChoices_fair.clock, w_frames, w_args, w_heap, w_applies, ⟨w_consts, trivial⟩, w_rest, w_case⟩
end start1
theorem witness_1 : WitnessClaimed_1 := ⟨start1.p0, start1.e0, start1.about1, start1.theMethod, start1.args0, start1.below0, start1.atStart⟩
end Jvm.Pilot.@@N@@
