import JvmDerived
import JvmDerived.Pilot.@@N@@Statement
import JvmDerived.Pilot.@@N@@Code
set_option linter.unusedVariables false
set_option linter.unusedSimpArgs false
@@BLOCK:NumsL.lean.txt@@
namespace Jvm.Pilot.@@N@@
open Jvm Jvm.ClassFile Sem Op Lib Jvm.Free Jvm.Stand Jvm.LawKit Jvm.RoadKit Bundle Jvm.Pilot.@@N@@.Jvm.D
/-! small laws of this text's own: returns, lrem as %, lcmp and the branch behind it -/
section Own
variable {p : Program} {l : Launch} {e : Env} {R : Room} {s : State} {m : MethodId} {args : Array Value} {below : List Frame} {meth : Method} {c : Code} {T : State} {locs : List Loc} {cells slots : Nat}
theorem own_retI (X : Stand p l e R s m args below meth c T locs cells slots) (hx : p.tables.exec = Jvm.exec) {pc : Nat} {Ls : Array Slot} {z : Int32} {rest : List Value} (hret : meth.sig.returnType = some .int) (hd : decode c.code pc = .ok (.ireturn, 1)) {fs : List Frame}
    (hl : ∀ (f : JFrame) (acts : List Action), f.method = m → f.locked = none → f.entered = [] → (doReturn e (T.setTop f) acts (some (.int z))).1 = T.setFrames fs) : Steps p.tables e below (T.setTop (mkF m pc Ls (.int z :: rest))) (T.setFrames fs) :=
  retOut X hx hret rfl (Or.inl ⟨rfl, Or.inl rfl, z, rfl⟩) hd hl
theorem own_retJ (X : Stand p l e R s m args below meth c T locs cells slots) (hx : p.tables.exec = Jvm.exec) {pc : Nat} {Ls : Array Slot} {z : Int64} {rest : List Value} (hret : meth.sig.returnType = some .long) (hd : decode c.code pc = .ok (.lreturn, 1)) {fs : List Frame}
    (hl : ∀ (f : JFrame) (acts : List Action), f.method = m → f.locked = none → f.entered = [] → (doReturn e (T.setTop f) acts (some (.long z))).1 = T.setFrames fs) : Steps p.tables e below (T.setTop (mkF m pc Ls (.long z :: rest))) (T.setFrames fs) :=
  retOut X hx hret rfl (Or.inr (Or.inl ⟨rfl, rfl, z, rfl⟩)) hd hl
theorem own_retR (X : Stand p l e R s m args below meth c T locs cells slots) (hx : p.tables.exec = Jvm.exec) {pc : Nat} {Ls : Array Slot} {b : Addr} {rest : List Value} {t : FieldType} (hret : meth.sig.returnType = some t) (ht : t.isReference = true) (hn : narrow t (.ref b) = .ref b) (hd : decode c.code pc = .ok (.areturn, 1)) {fs : List Frame}
    (hl : ∀ (f : JFrame) (acts : List Action), f.method = m → f.locked = none → f.entered = [] → (doReturn e (T.setTop f) acts (some (.ref b))).1 = T.setFrames fs) : Steps p.tables e below (T.setTop (mkF m pc Ls (.ref b :: rest))) (T.setFrames fs) :=
  retOut X hx hret hn (Or.inr (Or.inr (Or.inr (Or.inr ⟨rfl, ht, rfl⟩)))) hd hl
theorem own_lrem_mod (x y : Int64) : x - (x / y) * y = x % y := by
  apply Int64.toInt_inj.mp
  have h1 := Int64.le_toInt (x % y)
  have h2 := Int64.toInt_lt (x % y)
  rw [Int64.toInt_sub, Int64.toInt_mul, Int64.toInt_div, Int.bmod_mul_bmod, Int.sub_bmod_bmod, Int.mul_comm (x.toInt.tdiv y.toInt), ← Int.tmod_def, ← Int64.toInt_mod]
  exact Int.bmod_eq_of_le_mul_two (by omega) (by omega)
theorem own_lremM {tb : Tables} [Ours tb] {e : Env} {below : List Frame} {T target : State} {m : MethodId} {c : Code} {g : JFrame} (h : At T m c below) (hx : tb.exec = Jvm.exec) (hg : g.method = m) {x y : Int64} {rest : List Value} (hd : decode c.code g.pc = .ok (.lrem, 1)) (hs : g.stack = .long y :: .long x :: rest) (hy : y ≠ 0)
    (hr : Steps tb e below (T.setTop { g with pc := g.pc + 1, stack := .long (x % y) :: rest }) target) : Steps tb e below (T.setTop g) target :=
  XS.lrem h hx hg hd hs hy (by rw [own_lrem_mod]; exact hr)
end Own
theorem own_hgt (z : Int32) : ifCond.holds .gt z = decide (z > 0) := rfl
theorem own_hlt (z : Int32) : ifCond.holds .lt z = decide (z < 0) := rfl
theorem own_heq (z : Int32) : ifCond.holds .eq z = (z == 0) := rfl
theorem own_hge (z : Int32) : ifCond.holds .ge z = decide (z ≥ 0) := rfl
theorem own_hle (z : Int32) : ifCond.holds .le z = decide (z ≤ 0) := rfl
theorem own_hne (z : Int32) : ifCond.holds .ne z = (z != 0) := rfl
theorem own_lc1 {x y : Int64} (h : y < x) : lcmpW x y = 1 := if_pos h
theorem own_lc0 {x y : Int64} (h : x = y) : lcmpW x y = 0 := by
  have h1 : ¬ y < x := by rw [h, Int64.lt_iff_toInt_lt]; omega
  exact (if_neg h1).trans (if_pos h)
theorem own_lcm {x y : Int64} (h : x < y) : lcmpW x y = -1 := by
  have h1 : ¬ y < x := by rw [Int64.lt_iff_toInt_lt] at *; omega
  have h2 : ¬ x = y := fun q => by rw [q, Int64.lt_iff_toInt_lt] at h; omega
  exact (if_neg h1).trans (if_neg h2)
theorem own_tri (x y : Int64) : x < y ∨ x = y ∨ y < x := by
  rw [Int64.lt_iff_toInt_lt, Int64.lt_iff_toInt_lt, ← Int64.toInt_inj]; omega
theorem own_nlt {x y : Int64} (h : x < y) : ¬ y < x ∧ ¬ x = y := by
  rw [Int64.lt_iff_toInt_lt] at *
  exact ⟨by omega, fun q => by rw [q] at h; omega⟩
theorem own_Tlt {x y : Int64} (h : x < y) : ifCond.holds .lt (lcmpW x y) = true ∧ ifCond.holds .ge (lcmpW x y) = false := by rw [own_lcm h]; decide
theorem own_Flt {x y : Int64} (h : ¬ x < y) : ifCond.holds .lt (lcmpW x y) = false ∧ ifCond.holds .ge (lcmpW x y) = true := by
  rcases own_tri x y with q | q | q
  · exact absurd q h
  · rw [own_lc0 q]; decide
  · rw [own_lc1 q]; decide
theorem own_Tgt {x y : Int64} (h : y < x) : ifCond.holds .gt (lcmpW x y) = true ∧ ifCond.holds .le (lcmpW x y) = false := by rw [own_lc1 h]; decide
theorem own_Fgt {x y : Int64} (h : ¬ y < x) : ifCond.holds .gt (lcmpW x y) = false ∧ ifCond.holds .le (lcmpW x y) = true := by
  rcases own_tri x y with q | q | q
  · rw [own_lcm q]; decide
  · rw [own_lc0 q]; decide
  · exact absurd q h
theorem own_Teq {x y : Int64} (h : x = y) : ifCond.holds .eq (lcmpW x y) = true ∧ ifCond.holds .ne (lcmpW x y) = false := by rw [own_lc0 h]; decide
theorem own_Feq {x y : Int64} (h : ¬ x = y) : ifCond.holds .eq (lcmpW x y) = false ∧ ifCond.holds .ne (lcmpW x y) = true := by
  rcases own_tri x y with q | q | q
  · rw [own_lcm q]; decide
  · exact absurd q h
  · rw [own_lc1 q]; decide
/-! arrays as functions: what place i of the array holds -/
section OwnH
variable {p : Program} {l : Launch} {e : Env} {R : Room} {s : State} {m : MethodId} {args : Array Value} {below : List Frame} {meth : Method} {c : Code} {T : State} {locs : List Loc} {cells slots : Nat} {Z : State} {h h' : Heap} {a b : Addr} {z j : Int32} {ty : FieldType} {ws : List Addr} {sl : Nat} {w : Value}
def own_AI (Z : State) (h : Heap) (a : Addr) (ty : FieldType) (z : Int32) (f : Nat → Int32) : Prop := ∃ c : Cell, Arr Z h a c ty ∧ c.slots.size = z.toNatClampNeg ∧ ¬ z < 0 ∧ ∀ i, i < c.slots.size → c.slots[i]? = some (.int (f i))
def own_AJ (Z : State) (h : Heap) (a : Addr) (z : Int32) (f : Nat → Int64) : Prop := ∃ c : Cell, Arr Z h a c .long ∧ c.slots.size = z.toNatClampNeg ∧ ¬ z < 0 ∧ ∀ i, i < c.slots.size → c.slots[i]? = some (.long (f i))
def own_upd {α : Type} (f : Nat → α) (k : Nat) (v : α) : Nat → α := fun i => if i = k then v else f i
theorem own_slots (c : Cell) (k : Nat) (v : Value) : (c.setSlot k v).slots = c.slots.setIfInBounds k v := rfl
theorem own_AI.ext {f : Nat → Int32} (A : own_AI Z h a ty z f) (E : Ext h h') : own_AI Z h' a ty z f := by obtain ⟨c, A1, r⟩ := A; exact ⟨c, A1.ext E, r⟩
theorem own_AI.other {f : Nat → Int32} (A : own_AI Z h a ty z f) (W : Wr h h' b sl w) (q : a ≠ b) : own_AI Z h' a ty z f := by obtain ⟨c, A1, r⟩ := A; exact ⟨c, A1.other W q, r⟩
theorem own_AI.keep {f : Nat → Int32} (A : own_AI Z h a ty z f) (K : Keep h h' ws) (q : a ∉ ws) : own_AI Z h' a ty z f := by obtain ⟨c, A1, r⟩ := A; exact ⟨c, ⟨K.2.1 a c A1.1 q, A1.2⟩, r⟩
theorem own_AI.lt {f : Nat → Int32} (A : own_AI Z h a ty z f) : a < h.size := by obtain ⟨c, A1, -⟩ := A; exact A1.lt
theorem own_AI.set {f : Nat → Int32} {k : Nat} {v : Int32} (A : own_AI Z h a ty z f) (W : Wr h h' a k (.int v)) : own_AI Z h' a ty z (own_upd f k v) := by
  obtain ⟨c, A1, S, M, H⟩ := A
  refine ⟨_, A1.same W, by rw [sz_set]; exact S, M, fun i hi => ?_⟩
  rw [sz_set] at hi
  rw [own_slots]
  by_cases q : i = k
  · subst q
    rw [Array.getElem?_setIfInBounds_self_of_lt hi]
    exact congrArg (fun u => some (Value.int u)) (if_pos rfl).symm
  · rw [Array.getElem?_setIfInBounds_ne (fun u => q u.symm), H i hi]
    exact congrArg (fun u => some (Value.int u)) (if_neg q).symm
theorem own_AI.new {k : ClassId} (A : Arr Z h a (newA k ty z) ty) (q : ¬ z < 0) (hd : defaultValue ty = .int 0) : own_AI Z h a ty z (fun _ => 0) := by
  obtain ⟨c, A1, -, S, M, H, -⟩ := Arv.new A q
  refine ⟨c, A1, S, M, fun i hi => ?_⟩
  rw [H i hi, ← hd]; rfl
theorem own_AI.congr {f f' : Nat → Int32} (A : own_AI Z h a ty z f) (q : ∀ i, i < z.toNatClampNeg → f i = f' i) : own_AI Z h a ty z f' := by
  obtain ⟨c, A1, S, M, H⟩ := A
  exact ⟨c, A1, S, M, fun i hi => by rw [H i hi, q i (S ▸ hi)]⟩
theorem own_AJ.ext {f : Nat → Int64} (A : own_AJ Z h a z f) (E : Ext h h') : own_AJ Z h' a z f := by obtain ⟨c, A1, r⟩ := A; exact ⟨c, A1.ext E, r⟩
theorem own_AJ.other {f : Nat → Int64} (A : own_AJ Z h a z f) (W : Wr h h' b sl w) (q : a ≠ b) : own_AJ Z h' a z f := by obtain ⟨c, A1, r⟩ := A; exact ⟨c, A1.other W q, r⟩
theorem own_AJ.keep {f : Nat → Int64} (A : own_AJ Z h a z f) (K : Keep h h' ws) (q : a ∉ ws) : own_AJ Z h' a z f := by obtain ⟨c, A1, r⟩ := A; exact ⟨c, ⟨K.2.1 a c A1.1 q, A1.2⟩, r⟩
theorem own_AJ.lt {f : Nat → Int64} (A : own_AJ Z h a z f) : a < h.size := by obtain ⟨c, A1, -⟩ := A; exact A1.lt
theorem own_AJ.set {f : Nat → Int64} {k : Nat} {v : Int64} (A : own_AJ Z h a z f) (W : Wr h h' a k (.long v)) : own_AJ Z h' a z (own_upd f k v) := by
  obtain ⟨c, A1, S, M, H⟩ := A
  refine ⟨_, A1.same W, by rw [sz_set]; exact S, M, fun i hi => ?_⟩
  rw [sz_set] at hi
  rw [own_slots]
  by_cases q : i = k
  · subst q
    rw [Array.getElem?_setIfInBounds_self_of_lt hi]
    exact congrArg (fun u => some (Value.long u)) (if_pos rfl).symm
  · rw [Array.getElem?_setIfInBounds_ne (fun u => q u.symm), H i hi]
    exact congrArg (fun u => some (Value.long u)) (if_neg q).symm
theorem own_AJ.new {k : ClassId} (A : Arr Z h a (newA k .long z) .long) (q : ¬ z < 0) : own_AJ Z h a z (fun _ => 0) := by
  obtain ⟨c, A1, -, S, M, H, -⟩ := Arv.new A q
  refine ⟨c, A1, S, M, fun i hi => ?_⟩
  rw [H i hi]; rfl
theorem own_ldI {f : Nat → Int32} (X : Stand p l e R s m args below meth c T locs cells slots) (hx : p.tables.exec = Jvm.exec) (hZ : Z.Warmed39 s.vm) (eT : T.heap = h) (A : own_AI Z h a .int z f) (h0 : ¬ j < 0) (h1 : j < z) {g : JFrame} (hg : g.method = m) {rest : List Value} (hs : g.stack = .int j :: .ref a :: rest) (hd : decode c.code g.pc = .ok (.iaload, 1)) :
    ∀ t, Steps p.tables e below (T.setTop { g with pc := g.pc + 1, stack := .int (f j.toNatClampNeg) :: rest }) t → Steps p.tables e below (T.setTop g) t := by
  obtain ⟨c, A1, S, M, H⟩ := A
  have hin := inb_of S ⟨h0, h1⟩
  exact fun t k => X.iaload hx (by rw [eT]; exact A1.1) (State.isArrayOf_alike hZ.alike A1.2.1) A1.2.2 hin (H _ (Nat.lt_of_not_le fun q => hin (Or.inr q))) hg hs hd t k
theorem own_ldB {f : Nat → Int32} (X : Stand p l e R s m args below meth c T locs cells slots) (hx : p.tables.exec = Jvm.exec) (hZ : Z.Warmed39 s.vm) (eT : T.heap = h) (A : own_AI Z h a .byte z f) (h0 : ¬ j < 0) (h1 : j < z) {g : JFrame} (hg : g.method = m) {rest : List Value} (hs : g.stack = .int j :: .ref a :: rest) (hd : decode c.code g.pc = .ok (.baload, 1)) :
    ∀ t, Steps p.tables e below (T.setTop { g with pc := g.pc + 1, stack := .int (f j.toNatClampNeg) :: rest }) t → Steps p.tables e below (T.setTop g) t := by
  obtain ⟨c, A1, S, M, H⟩ := A
  have hin := inb_of S ⟨h0, h1⟩
  exact fun t k => X.baloadBytes hx (by rw [eT]; exact A1.1) (State.isArrayOf_alike hZ.alike A1.2.1) A1.2.2 hin (H _ (Nat.lt_of_not_le fun q => hin (Or.inr q))) hg hs hd t k
theorem own_ldJ {f : Nat → Int64} (X : Stand p l e R s m args below meth c T locs cells slots) (hx : p.tables.exec = Jvm.exec) (hZ : Z.Warmed39 s.vm) (eT : T.heap = h) (A : own_AJ Z h a z f) (h0 : ¬ j < 0) (h1 : j < z) {g : JFrame} (hg : g.method = m) {rest : List Value} (hs : g.stack = .int j :: .ref a :: rest) (hd : decode c.code g.pc = .ok (.laload, 1)) :
    ∀ t, Steps p.tables e below (T.setTop { g with pc := g.pc + 1, stack := .long (f j.toNatClampNeg) :: rest }) t → Steps p.tables e below (T.setTop g) t := by
  obtain ⟨c, A1, S, M, H⟩ := A
  have hin := inb_of S ⟨h0, h1⟩
  exact fun t k => X.laload hx (by rw [eT]; exact A1.1) (State.isArrayOf_alike hZ.alike A1.2.1) A1.2.2 hin (H _ (Nat.lt_of_not_le fun q => hin (Or.inr q))) hg hs hd t k
theorem own_lenI {f : Nat → Int32} (X : Stand p l e R s m args below meth c T locs cells slots) (hx : p.tables.exec = Jvm.exec) (hZ : Z.Warmed39 s.vm) (eT : T.heap = h) (A : own_AI Z h a ty z f) {g : JFrame} (hg : g.method = m) {rest : List Value} (hs : g.stack = .ref a :: rest) (hd : decode c.code g.pc = .ok (.arraylength, 1)) :
    ∀ t, Steps p.tables e below (T.setTop { g with pc := g.pc + 1, stack := .int z :: rest }) t → Steps p.tables e below (T.setTop g) t := by
  obtain ⟨c, A1, S, M, H⟩ := A
  exact fun t k => X.arraylength hx (by rw [eT]; exact A1.1) (State.isArrayOf_alike hZ.alike A1.2.1) hg hs hd t (by rw [len_of S M]; exact k)
theorem own_lenJ {f : Nat → Int64} (X : Stand p l e R s m args below meth c T locs cells slots) (hx : p.tables.exec = Jvm.exec) (hZ : Z.Warmed39 s.vm) (eT : T.heap = h) (A : own_AJ Z h a z f) {g : JFrame} (hg : g.method = m) {rest : List Value} (hs : g.stack = .ref a :: rest) (hd : decode c.code g.pc = .ok (.arraylength, 1)) :
    ∀ t, Steps p.tables e below (T.setTop { g with pc := g.pc + 1, stack := .int z :: rest }) t → Steps p.tables e below (T.setTop g) t := by
  obtain ⟨c, A1, S, M, H⟩ := A
  exact fun t k => X.arraylength hx (by rw [eT]; exact A1.1) (State.isArrayOf_alike hZ.alike A1.2.1) hg hs hd t (by rw [len_of S M]; exact k)
theorem own_stI {f : Nat → Int32} {x : Int32} (X : Stand p l e R s m args below meth c T locs cells slots) (hx : p.tables.exec = Jvm.exec) (hZ : Z.Warmed39 s.vm) (eT : T.heap = h) (A : own_AI Z h a .int z f) (h0 : ¬ j < 0) (h1 : j < z) {g : JFrame} (hg : g.method = m) {rest : List Value} (hs : g.stack = .int x :: .int j :: .ref a :: rest) (hd : decode c.code g.pc = .ok (.iastore, 1)) :
    ∃ T' h', Stand p l e R s m args below meth c T' (locs ++ [⟨a, j.toNatClampNeg⟩]) cells slots ∧ T'.heap = h' ∧ Wr h h' a j.toNatClampNeg (.int x) ∧ own_AI Z h' a .int z (own_upd f j.toNatClampNeg x) ∧ ∀ t, Steps p.tables e below (T'.setTop { g with pc := g.pc + 1, stack := rest }) t → Steps p.tables e below (T.setTop g) t := by
  obtain ⟨c, A1, S, M, H⟩ := A
  obtain ⟨T', h', X', e', W, st⟩ := stI X hx hZ eT A1 (inb_of S ⟨h0, h1⟩) hg hs hd
  exact ⟨T', h', X', e', W, own_AI.set ⟨c, A1, S, M, H⟩ W, st⟩
theorem own_stB {f : Nat → Int32} {x : Int32} (X : Stand p l e R s m args below meth c T locs cells slots) (hx : p.tables.exec = Jvm.exec) (hZ : Z.Warmed39 s.vm) (eT : T.heap = h) (A : own_AI Z h a .byte z f) (h0 : ¬ j < 0) (h1 : j < z) {g : JFrame} (hg : g.method = m) {rest : List Value} (hs : g.stack = .int x :: .int j :: .ref a :: rest) (hd : decode c.code g.pc = .ok (.bastore, 1)) :
    ∃ T' h', Stand p l e R s m args below meth c T' (locs ++ [⟨a, j.toNatClampNeg⟩]) cells slots ∧ T'.heap = h' ∧ Wr h h' a j.toNatClampNeg (.int (nar .byte x)) ∧ own_AI Z h' a .byte z (own_upd f j.toNatClampNeg (nar .byte x)) ∧ ∀ t, Steps p.tables e below (T'.setTop { g with pc := g.pc + 1, stack := rest }) t → Steps p.tables e below (T.setTop g) t := by
  obtain ⟨c, A1, S, M, H⟩ := A
  obtain ⟨T', h', X', e', W, st⟩ := stB X hx hZ eT A1 (inb_of S ⟨h0, h1⟩) hg hs hd
  exact ⟨T', h', X', e', W, own_AI.set ⟨c, A1, S, M, H⟩ W, st⟩
theorem own_stJ {f : Nat → Int64} {x : Int64} (X : Stand p l e R s m args below meth c T locs cells slots) (hx : p.tables.exec = Jvm.exec) (hZ : Z.Warmed39 s.vm) (eT : T.heap = h) (A : own_AJ Z h a z f) (h0 : ¬ j < 0) (h1 : j < z) {g : JFrame} (hg : g.method = m) {rest : List Value} (hs : g.stack = .long x :: .int j :: .ref a :: rest) (hd : decode c.code g.pc = .ok (.lastore, 1)) :
    ∃ T' h', Stand p l e R s m args below meth c T' (locs ++ [⟨a, j.toNatClampNeg⟩]) cells slots ∧ T'.heap = h' ∧ Wr h h' a j.toNatClampNeg (.long x) ∧ own_AJ Z h' a z (own_upd f j.toNatClampNeg x) ∧ ∀ t, Steps p.tables e below (T'.setTop { g with pc := g.pc + 1, stack := rest }) t → Steps p.tables e below (T.setTop g) t := by
  obtain ⟨c, A1, S, M, H⟩ := A
  obtain ⟨T', h', X', e', W, st⟩ := stJ X hx hZ eT A1 (inb_of S ⟨h0, h1⟩) hg hs hd
  exact ⟨T', h', X', e', W, own_AJ.set ⟨c, A1, S, M, H⟩ W, st⟩
end OwnH
theorem own_clamp {n : Nat} (h : n < 2147483648) : (Int32.ofNat n).toNatClampNeg = n := by
  have e : (Int32.ofNat n).toInt = n := Int32.toInt_ofNat_of_lt (by omega)
  show (Int32.ofNat n).toInt.toNat = n
  rw [e]; rfl
theorem own_ofNat {n : Nat} (h : n < 2147483648) : (Int32.ofNat n).toInt = n := Int32.toInt_ofNat_of_lt (by omega)
theorem own_nn {n : Nat} (h : n < 2147483648) : ¬ Int32.ofNat n < 0 := by
  have e0 : (0 : Int32).toInt = 0 := by decide
  rw [Int32.lt_iff_toInt_lt, own_ofNat h, e0]; omega
theorem own_ltN {i n : Nat} (h : i < n) (hn : n < 2147483648) : Int32.ofNat i < Int32.ofNat n := by
  rw [Int32.lt_iff_toInt_lt, own_ofNat (by omega), own_ofNat hn]; omega
theorem own_succ (i : Nat) : Int32.ofNat i + (1 : Int32) = Int32.ofNat (i + 1) := (Int32.ofNat_add i 1).symm
/-! byte arrays of at most three places; clone -/
section OwnC
variable {p : Program} {l : Launch} {e : Env} {R : Room} {s : State} {m : MethodId} {args : Array Value} {below : List Frame} {meth : Method} {c : Code} {T : State} {locs : List Loc} {cells slots : Nat} {Z : State} {h h' : Heap} {a : Addr} {z : Int32} {ty : FieldType}
def own_3 (x y w : Int32) : Nat → Int32 := fun i => if i = 0 then x else if i = 1 then y else w
theorem own_lt3 {P : Nat → Prop} (hz : z.toNatClampNeg ≤ 3) (h0 : P 0) (h1 : P 1) (h2 : P 2) : ∀ i, i < z.toNatClampNeg → P i := fun i hi => by
  rcases (by omega : i = 0 ∨ i = 1 ∨ i = 2) with rfl | rfl | rfl
  · exact h0
  · exact h1
  · exact h2
theorem own_AI.z3 (A : own_AI Z h a ty z (fun _ => 0)) : own_AI Z h a ty z (own_3 (0 : Int32) (0 : Int32) (0 : Int32)) := A.congr fun i _ => by
  unfold own_3
  by_cases h0 : i = 0
  · rw [if_pos h0]
  · rw [if_neg h0]
    by_cases h1 : i = 1
    · rw [if_pos h1]
    · rw [if_neg h1]
theorem own_AI.t0 {x y w v : Int32} (hz : z.toNatClampNeg ≤ 3) (A : own_AI Z h a ty z (own_upd (own_3 x y w) (0 : Int32).toNatClampNeg v)) : own_AI Z h a ty z (own_3 v y w) := A.congr (own_lt3 hz rfl rfl rfl)
theorem own_AI.t1 {x y w v : Int32} (hz : z.toNatClampNeg ≤ 3) (A : own_AI Z h a ty z (own_upd (own_3 x y w) (1 : Int32).toNatClampNeg v)) : own_AI Z h a ty z (own_3 x v w) := A.congr (own_lt3 hz rfl rfl rfl)
theorem own_AI.t2 {x y w v : Int32} (hz : z.toNatClampNeg ≤ 3) (A : own_AI Z h a ty z (own_upd (own_3 x y w) (2 : Int32).toNatClampNeg v)) : own_AI Z h a ty z (own_3 x y v) := A.congr (own_lt3 hz rfl rfl rfl)
def own_fit (f : Nat → Int32) : Prop := ∀ i, fits .byte (.int (f i)) = true
theorem own_fit3 {x y w : Int32} (h0 : fits .byte (.int x) = true) (h1 : fits .byte (.int y) = true) (h2 : fits .byte (.int w) = true) : own_fit (own_3 x y w) := fun i => by
  by_cases q0 : i = 0
  · have : own_3 x y w i = x := if_pos q0
    rw [this]; exact h0
  · by_cases q1 : i = 1
    · have : own_3 x y w i = y := (if_neg q0).trans (if_pos q1)
      rw [this]; exact h1
    · have : own_3 x y w i = w := (if_neg q0).trans (if_neg q1)
      rw [this]; exact h2
theorem own_clone {f : Nat → Int32} {a0 : Array Value} {own : String} {index : Nat} (X : Stand p l e R s m args below meth c T locs cells slots) (hx : p.tables.exec = Jvm.exec) (hZ : Z.Warmed39 s.vm) (hown : s.vm.findClass own = some m.cls)
    (w1 : (Cond.methodLink own index ⟨"[B", "clone", "()Ljava/lang/Object;"⟩).before a0 Z = true) (w2 : (Cond.sameMethod "[B" "java/lang/Object" "clone" "()Ljava/lang/Object;").before a0 Z = true) (w3 : (Cond.native ⟨"java/lang/Object", "clone", "()Ljava/lang/Object;"⟩).before a0 Z = true)
    (w4 : (Cond.instanceMethod ⟨"java/lang/Object", "clone", "()Ljava/lang/Object;"⟩).before a0 Z = true) (w5 : (Cond.selects "[B" ⟨"[B", "clone", "()Ljava/lang/Object;"⟩ ⟨"java/lang/Object", "clone", "()Ljava/lang/Object;"⟩).before a0 Z = true) (w6 : (Cond.castable "[B" "java/lang/Cloneable").before a0 Z = true)
    (eT : T.heap = h) (A : own_AI Z h a .byte z f) (E : Exa Z h a "[B") (F : own_fit f) {g : JFrame} (hg : g.method = m) (hsize : g.locals.size = c.maxLocals) {rest : List Value} (hs : g.stack = .ref a :: rest) (hd : decode c.code g.pc = .ok (.invokevirtual index, 3))
    (hf : 1 ≤ R.frames) {W cap : Nat} (hW : 2 * g.monitorRoom + (rest.map fun v => v.category).sum ≤ W) (hl : W + 14 ≤ R.locals) (hcap : z.toNatClampNeg ≤ cap) (hc : cells + 1 ≤ R.cells) (hsl : slots + cap ≤ R.slots) :
    ∃ T' h', Stand p l e R s m args below meth c T' locs (cells + 1) (slots + cap) ∧ T'.heap = h' ∧ Ext h h' ∧ own_AI Z h' h.size .byte z f ∧ Exa Z h' h.size "[B" ∧
      ∀ t, Steps p.tables e below (T'.setTop { g with pc := g.pc + 3, stack := .ref h.size :: rest }) t → Steps p.tables e below (T.setTop g) t := by
  obtain ⟨cl, A1, S, M, H⟩ := A
  have FC : FitC Z cl := fitC_of A1 fun i hi v hv => by rw [H i hi] at hv; cases hv; exact F i
  obtain ⟨T', h', X', e', ex, A', E', st⟩ := cloneA X hx hZ hown w1 w2 w3 w4 w5 w6 eT A1 E FC hg hsize hs hd hf hW hl (by rw [S]; exact hcap) hc hsl
  exact ⟨T', h', X', e', ex, ⟨cloneOf cl, A', S, M, H⟩, E', st⟩
end OwnC
theorem own_wS {Z : State} {a0 : Array Value} (hw : ∀ d ∈ tables_1, d.before a0 Z = true) : ∀ a ∈ Bundle.stringAtoms, a.before a0 Z = true := by
  intro a ha
  rcases List.mem_cons.mp ha with rfl | ha
  · exact (hw _ (List.mem_of_getElem? (i := 6) rfl))
  rcases List.mem_cons.mp ha with rfl | ha
  · exact (hw _ (List.mem_of_getElem? (i := 7) rfl))
  rcases List.mem_cons.mp ha with rfl | ha
  · exact (hw _ (List.mem_of_getElem? (i := 0) rfl))
  rcases List.mem_cons.mp ha with rfl | ha
  · exact (hw _ (List.mem_of_getElem? (i := 8) rfl))
  rcases List.mem_cons.mp ha with rfl | ha
  · exact (hw _ (List.mem_of_getElem? (i := 9) rfl))
  rcases List.mem_cons.mp ha with rfl | ha
  · exact (hw _ (List.mem_of_getElem? (i := 10) rfl))
  rcases List.mem_cons.mp ha with rfl | ha
  · exact (hw _ (List.mem_of_getElem? (i := 11) rfl))
  · exact absurd ha (List.not_mem_nil)
/-! body 2: requireNonNull -/
theorem d2_0 : decode jdk_31_method_11_code 0 = .ok (.aload_n 0, 1) := by decide +kernel
theorem d2_1 : decode jdk_31_method_11_code 1 = .ok (.ifnonnull 12, 3) := by decide +kernel
theorem d2_13 : decode jdk_31_method_11_code 13 = .ok (.aload_n 0, 1) := by decide +kernel
theorem d2_14 : decode jdk_31_method_11_code 14 = .ok (.areturn, 1) := by decide +kernel
theorem pnN : plainName "java/util/Objects" = true := by first | (simp [plainName, overriddenIn]; done) | decide +kernel
theorem efN (m : MethodId) (a1 : Addr) (a2 : Addr) : entryFrame m #[(.ref a1), (.ref a2)] 2 = mkF m 0 #[.val (.ref a1), .val (.ref a2)] [] := by first | (simp [entryFrame, mkF, argsToLocals, Value.category]; done) | rfl
def QN (Z : State) (a1 : Addr) (a2 : Addr) (h0 : Heap) (n0 : Nat) (v : Option Value) (h : Heap) (L : List Loc) : Prop := v = some (.ref a1) ∧ Fr n0 L ∧ h = h0
set_option maxRecDepth 65536 in
set_option maxHeartbeats 40000000 in
theorem rmN (l : Launch) (Z : State) (a0 : Array Value) (hw : ∀ d ∈ tables_1, d.before a0 Z = true) (ws : List Jvm.Cond) (a1 : Addr) (a2 : Addr) (h0 : Heap) (n0 : Nat) (Z0 : n0 ≤ h0.size) :
    MetFree l (⟨"java/util/Objects", "requireNonNull", "(Ljava/lang/Object;Ljava/lang/String;)Ljava/lang/Object;"⟩ : MethodName) (head1 (Jvm.Cond.code (⟨"java/util/Objects", "requireNonNull", "(Ljava/lang/Object;Ljava/lang/String;)Ljava/lang/Object;"⟩ : MethodName) jdk_31_method_11_code 2 (some (.object "java/lang/Object")) :: ws) ({ frames := 0, cells := 0, slots := 0, locals := 0 } : Room)) (fun a U => a = #[(.ref a1), (.ref a2)] ∧ Z.Warmed39 U.vm ∧ U.heap = h0) (fun _ _ _ _ _ => True) (fun _ U o U' => ∃ v L, o = .returned v ∧ QN Z a1 a2 h0 n0 v U'.heap L ∧ FrameEnd U o U' L ({ frames := 0, cells := 0, slots := 0, locals := 0 } : Room).cells ({ frames := 0, cells := 0, slots := 0, locals := 0 } : Room).slots) := by
  refine MetFree.of_bodySF (plainFor_of_name pnN) hisR ?_
  intro p e s m args below meth c s₁ Bd hml0 hP hK
  obtain ⟨rfl, hZ, hh⟩ := hP
  have hx := Bd.exec
  have hby := Bd.bytes
  have hml : c.maxLocals = 2 := hml0
  have hown : s.vm.findClass "java/util/Objects" = some m.cls := findClass_of_methodNamed Bd.named
  have hnm := (name_of_methodNamed Bd.named Bd.method).1
  have X0 : Stand p l e ({ frames := 0, cells := 0, slots := 0, locals := 0 } : Room) s m #[(.ref a1), (.ref a2)] below meth c s₁ [] 0 0 := Stand.of_body Bd
  have e0 : s₁.heap = h0 := by rw [← hh, Bd.state]; rfl
  have N0 := Fr.nil n0
  have pre0 : ∀ t, Steps p.tables e below (s₁.setTop (mkF m 0 #[.val (.ref a1), .val (.ref a2)] [])) t → Steps p.tables e below (s₁.setTop (entryFrame m #[(.ref a1), (.ref a2)] 2)) t := fun t k => castTop (efN m a1 a2) k
  have pre1 : ∀ t, Steps p.tables e below (s₁.setTop (mkF m 14 #[.val (.ref a1), .val (.ref a2)] [(.ref a1)])) t → Steps p.tables e below (s₁.setTop (entryFrame m #[(.ref a1), (.ref a2)] 2)) t := by
    intro t k
    refine pre0 t ?_
    show Steps p.tables e below (s₁.setTop (mkF m 0 #[.val (.ref a1), .val (.ref a2)] [])) _
    refine XS.aloadN X0.here hx rfl (hb hby d2_0) rfl rfl ?_
    show Steps p.tables e below (s₁.setTop (mkF m 1 #[.val (.ref a1), .val (.ref a2)] [(.ref a1)])) _
    refine XS.ifnonnullYes X0.here hx rfl (pc0 := 1) (pc' := 13) rfl (hb hby d2_1) rfl (by decide) (by decide) ?_
    show Steps p.tables e below (s₁.setTop (mkF m 13 #[.val (.ref a1), .val (.ref a2)] [])) _
    refine XS.aloadN X0.here hx rfl (hb hby d2_13) rfl rfl ?_
    show Steps p.tables e below (s₁.setTop (mkF m 14 #[.val (.ref a1), .val (.ref a2)] [(.ref a1)])) _
    exact k
  obtain ⟨fs, hr, hrun, hended, hW, hsame⟩ := X0.leave (v := some (.ref a1)) (fun h => by rw [Bd.returns] at h; cases h)
  refine ⟨_, _, pre1 _ ?_, hrun, hended, _, _, rfl, ?_, ⟨_, rfl⟩, hW, hsame.mono (by decide) (by decide)⟩
  · show Steps p.tables e below (s₁.setTop (mkF m 14 #[.val (.ref a1), .val (.ref a2)] [(.ref a1)])) _
    exact own_retR X0 hx Bd.returns rfl rfl (hb hby d2_14) hr
  · show QN Z a1 a2 h0 n0 _ s₁.heap _
    rw [e0]
    exact ⟨rfl, N0, rfl⟩
/-! body 3: init -/
theorem d3_0 : decode prog_19_method_1_code 0 = .ok (.aload_n 0, 1) := by decide +kernel
theorem d3_1 : decode prog_19_method_1_code 1 = .ok (.invokespecial 1, 3) := by decide +kernel
theorem d3_4 : decode prog_19_method_1_code 4 = .ok (.aload_n 0, 1) := by decide +kernel
theorem d3_5 : decode prog_19_method_1_code 5 = .ok (.aload_n 1, 1) := by decide +kernel
theorem d3_6 : decode prog_19_method_1_code 6 = .ok (.putfield 7, 3) := by decide +kernel
theorem d3_9 : decode prog_19_method_1_code 9 = .ok (.aload_n 0, 1) := by decide +kernel
theorem d3_10 : decode prog_19_method_1_code 10 = .ok (.iload_n 2, 1) := by decide +kernel
theorem d3_11 : decode prog_19_method_1_code 11 = .ok (.putfield 13, 3) := by decide +kernel
theorem d3_14 : decode prog_19_method_1_code 14 = .ok (.return_, 1) := by decide +kernel
theorem pnC : plainName "com/example/tally/tally/model/Outcome" = true := by first | (simp [plainName, overriddenIn]; done) | decide +kernel
theorem efC (m : MethodId) (a1 : Addr) (a2 : Addr) (p3 : Int32) : entryFrame m #[(.ref a1), (.ref a2), (.int p3)] 3 = mkF m 0 #[.val (.ref a1), .val (.ref a2), .val (.int p3)] [] := by first | (simp [entryFrame, mkF, argsToLocals, Value.category]; done) | rfl
def QC (Z : State) (a1 : Addr) (a2 : Addr) (p3 : Int32) (h0 : Heap) (n0 : Nat) (v : Option Value) (h : Heap) (L : List Loc) : Prop := v = none ∧ Fr n0 L ∧ Keep h0 h [a1] ∧ Exa Z h a1 "com/example/tally/tally/model/Outcome" ∧ Fld Z h a1 "com/example/tally/tally/model/Outcome" "bytes" "[B" (.ref a2) ∧ Fld Z h a1 "com/example/tally/tally/model/Outcome" "failed" "Z" (.int (nar .boolean p3))
set_option maxRecDepth 65536 in
set_option maxHeartbeats 40000000 in
theorem rmC (l : Launch) (Z : State) (a0 : Array Value) (hw : ∀ d ∈ tables_1, d.before a0 Z = true) (ws : List Jvm.Cond) (a1 : Addr) (a2 : Addr) (p3 : Int32) (h0 : Heap) (n0 : Nat) (Z0 : n0 ≤ h0.size) (E_a1 : Exa Z h0 a1 "com/example/tally/tally/model/Outcome") (F_bytes : Fld Z h0 a1 "com/example/tally/tally/model/Outcome" "bytes" "[B" .null) (F_failed : Fld Z h0 a1 "com/example/tally/tally/model/Outcome" "failed" "Z" (.int (0 : Int32))) (g_a1 : n0 ≤ a1) :
    MetFree l (⟨"com/example/tally/tally/model/Outcome", "<init>", "([BZ)V"⟩ : MethodName) (head1 (Jvm.Cond.code (⟨"com/example/tally/tally/model/Outcome", "<init>", "([BZ)V"⟩ : MethodName) prog_19_method_1_code 3 none :: ws) ({ frames := 1, cells := 0, slots := 0, locals := 12 } : Room)) (fun a U => a = #[(.ref a1), (.ref a2), (.int p3)] ∧ Z.Warmed39 U.vm ∧ U.heap = h0) (fun _ _ _ _ _ => True) (fun _ U o U' => ∃ v L, o = .returned v ∧ QC Z a1 a2 p3 h0 n0 v U'.heap L ∧ FrameEnd U o U' L ({ frames := 1, cells := 0, slots := 0, locals := 12 } : Room).cells ({ frames := 1, cells := 0, slots := 0, locals := 12 } : Room).slots) := by
  refine MetFree.of_bodySF (plainFor_of_name pnC) hisR ?_
  intro p e s m args below meth c s₁ Bd hml0 hP hK
  obtain ⟨rfl, hZ, hh⟩ := hP
  have hx := Bd.exec
  have hby := Bd.bytes
  have hml : c.maxLocals = 3 := hml0
  have hown : s.vm.findClass "com/example/tally/tally/model/Outcome" = some m.cls := findClass_of_methodNamed Bd.named
  have hnm := (name_of_methodNamed Bd.named Bd.method).1
  have X0 : Stand p l e ({ frames := 1, cells := 0, slots := 0, locals := 12 } : Room) s m #[(.ref a1), (.ref a2), (.int p3)] below meth c s₁ [] 0 0 := Stand.of_body Bd
  have e0 : s₁.heap = h0 := by rw [← hh, Bd.state]; rfl
  have N0 := Fr.nil n0
  have pre0 : ∀ t, Steps p.tables e below (s₁.setTop (mkF m 0 #[.val (.ref a1), .val (.ref a2), .val (.int p3)] [])) t → Steps p.tables e below (s₁.setTop (entryFrame m #[(.ref a1), (.ref a2), (.int p3)] 3)) t := fun t k => castTop (efC m a1 a2 p3) k
  have K0 := Keep.refl h0 [a1]
  have pre1 : ∀ t, Steps p.tables e below (s₁.setTop (mkF m 1 #[.val (.ref a1), .val (.ref a2), .val (.int p3)] [(.ref a1)])) t → Steps p.tables e below (s₁.setTop (entryFrame m #[(.ref a1), (.ref a2), (.int p3)] 3)) t := by
    intro t k
    refine pre0 t ?_
    show Steps p.tables e below (s₁.setTop (mkF m 0 #[.val (.ref a1), .val (.ref a2), .val (.int p3)] [])) _
    refine XS.aloadN X0.here hx rfl (hb hby d3_0) rfl rfl ?_
    show Steps p.tables e below (s₁.setTop (mkF m 1 #[.val (.ref a1), .val (.ref a2), .val (.int p3)] [(.ref a1)])) _
    exact k
  obtain ⟨T2, X2, e2, st2⟩ := initO X0 hx hZ hown (hw _ (List.mem_of_getElem? (i := 30) rfl)) (hw _ (List.mem_of_getElem? (i := 31) rfl)) (hw _ (List.mem_of_getElem? (i := 32) rfl)) e0 (g := (mkF m 1 #[.val (.ref a1), .val (.ref a2), .val (.int p3)] [(.ref a1)])) rfl (by rw [hml]; rfl) rfl (hb hby d3_1) (by decide) (W := 0) (by show 2 * 0 + _ ≤ _; exact Nat.le_of_eq rfl) (by decide)
  have pre2 : ∀ t, Steps p.tables e below (T2.setTop (mkF m 4 #[.val (.ref a1), .val (.ref a2), .val (.int p3)] [])) t → Steps p.tables e below (s₁.setTop (entryFrame m #[(.ref a1), (.ref a2), (.int p3)] 3)) t := fun t k => pre1 t (st2 _ k)
  have pre3 : ∀ t, Steps p.tables e below (T2.setTop (mkF m 6 #[.val (.ref a1), .val (.ref a2), .val (.int p3)] [(.ref a2), (.ref a1)])) t → Steps p.tables e below (s₁.setTop (entryFrame m #[(.ref a1), (.ref a2), (.int p3)] 3)) t := by
    intro t k
    refine pre2 t ?_
    refine XS.aloadN X2.here hx rfl (hb hby d3_4) rfl rfl ?_
    show Steps p.tables e below (T2.setTop (mkF m 5 #[.val (.ref a1), .val (.ref a2), .val (.int p3)] [(.ref a1)])) _
    refine XS.aloadN X2.here hx rfl (hb hby d3_5) rfl rfl ?_
    show Steps p.tables e below (T2.setTop (mkF m 6 #[.val (.ref a1), .val (.ref a2), .val (.int p3)] [(.ref a2), (.ref a1)])) _
    exact k
  obtain ⟨T4, h4, X4, e4, W4, st4⟩ := putF X2 hx hZ hown (host := "") (Or.inl (hw _ (List.mem_of_getElem? (i := 33) rfl))) Via.refl e2 F_bytes E_a1 (Or.inr ⟨(hw _ (List.mem_of_getElem? (i := 34) rfl)), rfl, hnm⟩) (hw _ (List.mem_of_getElem? (i := 17) rfl)) (ty := (.array .byte)) (by decide) rfl rfl (g := (mkF m 6 #[.val (.ref a1), .val (.ref a2), .val (.int p3)] [(.ref a2), (.ref a1)])) rfl rfl (hb hby d3_6)
  have F4_0 := F_bytes.same W4
  have F4_1 := F_failed.other W4 (Or.inr (slot_ne (Or.inr (hw _ (List.mem_of_getElem? (i := 36) rfl))) (Or.inr (hw _ (List.mem_of_getElem? (i := 34) rfl))) (by decide) (t := .boolean) (t' := (.array .byte)) (by decide) (by decide)))
  have F4_2 := E_a1.wr W4
  have Z4 : n0 ≤ h4.size := Nat.le_trans Z0 (Keep.of_wr W4).1
  have K4 := Keep.wr K0 W4 (Or.inl (List.mem_of_getElem? (i := 0) rfl))
  have N4 := Fr.snoc X4 N0 g_a1
  have pre4 : ∀ t, Steps p.tables e below (T4.setTop (mkF m 9 #[.val (.ref a1), .val (.ref a2), .val (.int p3)] [])) t → Steps p.tables e below (s₁.setTop (entryFrame m #[(.ref a1), (.ref a2), (.int p3)] 3)) t := fun t k => pre3 t (st4 _ k)
  have pre5 : ∀ t, Steps p.tables e below (T4.setTop (mkF m 11 #[.val (.ref a1), .val (.ref a2), .val (.int p3)] [(.int p3), (.ref a1)])) t → Steps p.tables e below (s₁.setTop (entryFrame m #[(.ref a1), (.ref a2), (.int p3)] 3)) t := by
    intro t k
    refine pre4 t ?_
    refine XS.aloadN X4.here hx rfl (hb hby d3_9) rfl rfl ?_
    show Steps p.tables e below (T4.setTop (mkF m 10 #[.val (.ref a1), .val (.ref a2), .val (.int p3)] [(.ref a1)])) _
    refine XS.iloadN X4.here hx rfl (hb hby d3_10) rfl ?_
    show Steps p.tables e below (T4.setTop (mkF m 11 #[.val (.ref a1), .val (.ref a2), .val (.int p3)] [(.int p3), (.ref a1)])) _
    exact k
  obtain ⟨T6, h6, X6, e6, W6, st6⟩ := putFN X4 hx hZ hown (hw _ (List.mem_of_getElem? (i := 35) rfl)) Via.refl e4 F4_1 F4_2 (Or.inr ⟨(hw _ (List.mem_of_getElem? (i := 36) rfl)), rfl, hnm⟩) (hw _ (List.mem_of_getElem? (i := 17) rfl)) (ty := .boolean) (v' := (.int (nar .boolean p3))) (by decide) rfl (fits_nar_bool _) (g := (mkF m 11 #[.val (.ref a1), .val (.ref a2), .val (.int p3)] [(.int p3), (.ref a1)])) rfl rfl (hb hby d3_11)
  have F6_0 := F4_0.other W6 (Or.inr (slot_ne (Or.inr (hw _ (List.mem_of_getElem? (i := 34) rfl))) (Or.inr (hw _ (List.mem_of_getElem? (i := 36) rfl))) (by decide) (t := (.array .byte)) (t' := .boolean) (by decide) (by decide)))
  have F6_1 := F4_1.same W6
  have F6_2 := F4_2.wr W6
  have Z6 : n0 ≤ h6.size := Nat.le_trans Z4 (Keep.of_wr W6).1
  have K6 := Keep.wr K4 W6 (Or.inl (List.mem_of_getElem? (i := 0) rfl))
  have N6 := Fr.snoc X6 N4 g_a1
  have pre6 : ∀ t, Steps p.tables e below (T6.setTop (mkF m 14 #[.val (.ref a1), .val (.ref a2), .val (.int p3)] [])) t → Steps p.tables e below (s₁.setTop (entryFrame m #[(.ref a1), (.ref a2), (.int p3)] 3)) t := fun t k => pre5 t (st6 _ k)
  obtain ⟨fs, hr, hrun, hended, hW, hsame⟩ := X6.leave (v := none) (fun _ => rfl)
  refine ⟨_, _, pre6 _ ?_, hrun, hended, _, _, rfl, ?_, ⟨_, rfl⟩, hW, hsame.mono (by decide) (by decide)⟩
  · show Steps p.tables e below (T6.setTop (mkF m 14 #[.val (.ref a1), .val (.ref a2), .val (.int p3)] [])) _
    exact X6.returnOut hx Bd.returns (hb hby d3_14) hr
  · show QC Z a1 a2 p3 h0 n0 _ T6.heap _
    rw [e6]
    exact ⟨rfl, N6, K6, F6_2, F6_0, F6_1⟩
/-! body 1: failure -/
theorem d1_0 : decode prog_19_method_3_code 0 = .ok (.aload_n 0, 1) := by decide +kernel
theorem d1_1 : decode prog_19_method_3_code 1 = .ok (.ldc 17, 2) := by decide +kernel
theorem d1_3 : decode prog_19_method_3_code 3 = .ok (.invokestatic 18, 3) := by decide +kernel
theorem d1_6 : decode prog_19_method_3_code 6 = .ok (.pop, 1) := by decide +kernel
theorem d1_7 : decode prog_19_method_3_code 7 = .ok (.new 8, 3) := by decide +kernel
theorem d1_10 : decode prog_19_method_3_code 10 = .ok (.dup, 1) := by decide +kernel
theorem d1_11 : decode prog_19_method_3_code 11 = .ok (.aload_n 0, 1) := by decide +kernel
theorem d1_12 : decode prog_19_method_3_code 12 = .ok (.invokevirtual 24, 3) := by decide +kernel
theorem d1_15 : decode prog_19_method_3_code 15 = .ok (.checkcast 25, 3) := by decide +kernel
theorem d1_18 : decode prog_19_method_3_code 18 = .ok (.iconst 1, 1) := by decide +kernel
theorem d1_19 : decode prog_19_method_3_code 19 = .ok (.invokespecial 29, 3) := by decide +kernel
theorem d1_22 : decode prog_19_method_3_code 22 = .ok (.areturn, 1) := by decide +kernel
theorem pdM_0 : parseMethodDescriptor "(Ljava/lang/Object;Ljava/lang/String;)Ljava/lang/Object;" = some ⟨[(.object "java/lang/Object"), (.object "java/lang/String")], some (.object "java/lang/Object")⟩ := by decide +kernel
theorem pdM_1 : parseMethodDescriptor "([BZ)V" = some ⟨[(.array .byte), .boolean], none⟩ := by decide +kernel
theorem pnM : plainName "com/example/tally/tally/model/Outcome" = true := by first | (simp [plainName, overriddenIn]; done) | decide +kernel
theorem efM (m : MethodId) (a1 : Addr) : entryFrame m #[(.ref a1)] 1 = mkF m 0 #[.val (.ref a1)] [] := by first | (simp [entryFrame, mkF, argsToLocals, Value.category]; done) | rfl
def QM (Z : State) (a1 : Addr) (z : Int32) (f : Nat → Int32) (h0 : Heap) (n0 : Nat) (v : Option Value) (h : Heap) (L : List Loc) : Prop := ∃ b d : Addr, v = some (.ref b) ∧ Fr n0 L ∧ Keep h0 h [] ∧ n0 ≤ b ∧ h0.size ≤ d ∧ Exa Z h b "com/example/tally/tally/model/Outcome" ∧ Fld Z h b "com/example/tally/tally/model/Outcome" "bytes" "[B" (.ref d) ∧ Fld Z h b "com/example/tally/tally/model/Outcome" "failed" "Z" (.int (nar .boolean (1 : Int32))) ∧ own_AI Z h d .byte z f ∧ Exa Z h d "[B" ∧ h0.size ≤ b
set_option maxRecDepth 65536 in
set_option maxHeartbeats 40000000 in
theorem rmM (l : Launch) (Z : State) (a0 : Array Value) (hw : ∀ d ∈ tables_1, d.before a0 Z = true) (ws : List Jvm.Cond) (a1 : Addr) (z : Int32) (f : Nat → Int32) (h0 : Heap) (n0 : Nat) (Z0 : n0 ≤ h0.size) (A0 : own_AI Z h0 a1 .byte z f) (Ex : Exa Z h0 a1 "[B") (hf : own_fit f) (hcap : z.toNatClampNeg ≤ 3) :
    MetFree l (⟨"com/example/tally/tally/model/Outcome", "failure", "([B)Lcom/example/tally/tally/model/Outcome;"⟩ : MethodName) (head1 (Jvm.Cond.code (⟨"com/example/tally/tally/model/Outcome", "failure", "([B)Lcom/example/tally/tally/model/Outcome;"⟩ : MethodName) prog_19_method_3_code 1 (some (.object "com/example/tally/tally/model/Outcome")) :: ws) ({ frames := 2, cells := 4, slots := 29, locals := 27 } : Room)) (fun a U => a = #[(.ref a1)] ∧ Z.Warmed39 U.vm ∧ U.heap = h0) (fun _ _ _ _ _ => True) (fun _ U o U' => ∃ v L, o = .returned v ∧ QM Z a1 z f h0 n0 v U'.heap L ∧ ReturnedEndW U o U' L ({ frames := 2, cells := 4, slots := 29, locals := 27 } : Room).cells ({ frames := 2, cells := 4, slots := 29, locals := 27 } : Room).slots) := by
  refine MetFree.of_bodySF (plainFor_of_name pnM) hisR ?_
  intro p e s m args below meth c s₁ Bd hml0 hP hK
  obtain ⟨rfl, hZ, hh⟩ := hP
  have hx := Bd.exec
  have hby := Bd.bytes
  have hml : c.maxLocals = 1 := hml0
  have hown : s.vm.findClass "com/example/tally/tally/model/Outcome" = some m.cls := findClass_of_methodNamed Bd.named
  have hnm := (name_of_methodNamed Bd.named Bd.method).1
  have X0 : Stand p l e ({ frames := 2, cells := 4, slots := 29, locals := 27 } : Room) s m #[(.ref a1)] below meth c s₁ [] 0 0 := Stand.of_body Bd
  have e0 : s₁.heap = h0 := by rw [← hh, Bd.state]; rfl
  have N0 := Fr.nil n0
  have pre0 : ∀ t, Steps p.tables e below (s₁.setTop (mkF m 0 #[.val (.ref a1)] [])) t → Steps p.tables e below (s₁.setTop (entryFrame m #[(.ref a1)] 1)) t := fun t k => castTop (efM m a1) k
  have hS0 : s.Since s.vm 0 := (State.WarmedH.refl s).since 0
  have hk0 : 0 ≤ h0.size := Nat.zero_le _
  have K0 := Keep.refl h0 []
  have pre1 : ∀ t, Steps p.tables e below (s₁.setTop (mkF m 1 #[.val (.ref a1)] [(.ref a1)])) t → Steps p.tables e below (s₁.setTop (entryFrame m #[(.ref a1)] 1)) t := by
    intro t k
    refine pre0 t ?_
    show Steps p.tables e below (s₁.setTop (mkF m 0 #[.val (.ref a1)] [])) _
    refine XS.aloadN X0.here hx rfl (hb hby d1_0) rfl rfl ?_
    show Steps p.tables e below (s₁.setTop (mkF m 1 #[.val (.ref a1)] [(.ref a1)])) _
    exact k
  obtain ⟨b2, T2, h2, kk2, X2, e2, E2, hS2, hq2, hZ, hown, st2⟩ := ldcS (s := s) (vm0 := s.vm) X0 hx hZ hown (hw _ (List.mem_of_getElem? (i := 5) rfl)) (own_wS hw) e0 hS0 hk0 (g := (mkF m 1 #[.val (.ref a1)] [(.ref a1)])) rfl (hb hby d1_1) (n := 20) (by decide) (by decide) (by decide) (by decide)
  have F2_0 := Ex.ext E2
  have F2_1 := A0.ext E2
  have Z2 : n0 ≤ h2.size := Nat.le_trans Z0 E2.1
  have K2 := Keep.ext K0 E2
  have pre2 : ∀ t, Steps p.tables e below (T2.setTop (mkF m 3 #[.val (.ref a1)] [(.ref b2), (.ref a1)])) t → Steps p.tables e below (s₁.setTop (entryFrame m #[(.ref a1)] 1)) t := fun t k => pre1 t (st2 _ k)
  obtain ⟨_, _, ⟨T3, L3, k3, n3⟩, -, X3, ⟨Lc3, hQ3, l3, y3, z3⟩, st3⟩ := Jvm.LawKit.callS X2 hx (y := (⟨"java/util/Objects", "requireNonNull", "(Ljava/lang/Object;Ljava/lang/String;)Ljava/lang/Object;"⟩ : MethodName)) hown (mvT hZ (hw _ (List.mem_of_getElem? (i := 12) rfl))) (mvT hZ (hw _ (List.mem_of_getElem? (i := 13) rfl))) (mvT hZ (hw _ (List.mem_of_getElem? (i := 14) rfl))) (mvT hZ (hw _ (List.mem_of_getElem? (i := 15) rfl))) (by decide) (backOf (W := 0) (rmN l Z a0 hw [] a1 b2 h2 n0 Z2) hZ (hw _ (List.mem_of_getElem? (i := 15) rfl)) (hw _ (List.mem_of_getElem? (i := 14) rfl)) (by decide) (by decide)) (g := (mkF m 3 #[.val (.ref a1)] [(.ref b2), (.ref a1)])) rfl (by rw [hml]; rfl) (argsL := [(.ref a1), (.ref b2)]) (rest := []) (lenOf pdM_0 rfl) rfl (by show 2 * 0 + _ ≤ _; exact Nat.le_of_eq rfl) (hb hby d1_3) (fun _ _ => ⟨rfl, e2, (by decide : 2 + 0 ≤ _), (by decide : 24 + 0 ≤ _)⟩)
  dsimp only [Pt.U, Pt.locs, Pt.cells, Pt.slots] at X3 l3 y3 z3 st3 hQ3
  subst l3 y3 z3
  obtain ⟨rfl, Nq3, e3⟩ := hQ3
  have N3 := Fr.app N0 Nq3
  have pre3 : ∀ t, Steps p.tables e below (T3.setTop (mkF m 6 #[.val (.ref a1)] [(.ref a1)])) t → Steps p.tables e below (s₁.setTop (entryFrame m #[(.ref a1)] 1)) t := fun t k => pre2 t (st3 _ k)
  have pre4 : ∀ t, Steps p.tables e below (T3.setTop (mkF m 7 #[.val (.ref a1)] [])) t → Steps p.tables e below (s₁.setTop (entryFrame m #[(.ref a1)] 1)) t := by
    intro t k
    refine pre3 t ?_
    refine XS.pop X3.here hx rfl (hb hby d1_6) rfl rfl ?_
    show Steps p.tables e below (T3.setTop (mkF m 7 #[.val (.ref a1)] [])) _
    exact k
  obtain ⟨T5, h5, X5, e5, E5, A5, D5, -, st5⟩ := newO X3 hx hZ hown (hw _ (List.mem_of_getElem? (i := 16) rfl)) (hw _ (List.mem_of_getElem? (i := 17) rfl)) (hw _ (List.mem_of_getElem? (i := 3) rfl)) e3 (g := (mkF m 7 #[.val (.ref a1)] [])) rfl (hb hby d1_7) (by decide) (by decide)
  obtain ⟨b5, g5⟩ : ∃ z, z = h2.size := ⟨_, rfl⟩
  rw [← g5] at A5 D5 st5
  have ne5_a1 : a1 ≠ b5 := Nat.ne_of_lt (Nat.lt_of_lt_of_le F2_0.lt (Nat.le_of_eq g5.symm))
  have gg5 : n0 ≤ b5 := Nat.le_trans Z2 (Nat.le_of_eq g5.symm)
  have sz5 : h0.size ≤ b5 := Nat.le_trans K2.1 (Nat.le_of_eq g5.symm)
  have F5_0 := F2_0.ext E5
  have F5_1 := F2_1.ext E5
  have Z5 : n0 ≤ h5.size := Nat.le_trans Z2 E5.1
  have K5 := Keep.ext K2 E5
  have hk5 := Nat.le_trans hq2 E5.1
  have F5_bytes : Fld Z h5 b5 "com/example/tally/tally/model/Outcome" "bytes" "[B" .null := D5 (Or.inr (hw _ (List.mem_of_getElem? (i := 34) rfl))) (ty := (.array .byte)) (by decide)
  have F5_failed : Fld Z h5 b5 "com/example/tally/tally/model/Outcome" "failed" "Z" (.int (0 : Int32)) := D5 (Or.inr (hw _ (List.mem_of_getElem? (i := 36) rfl))) (ty := .boolean) (by decide)
  have pre5 : ∀ t, Steps p.tables e below (T5.setTop (mkF m 10 #[.val (.ref a1)] [(.ref b5)])) t → Steps p.tables e below (s₁.setTop (entryFrame m #[(.ref a1)] 1)) t := fun t k => pre4 t (st5 _ k)
  have pre6 : ∀ t, Steps p.tables e below (T5.setTop (mkF m 12 #[.val (.ref a1)] [(.ref a1), (.ref b5), (.ref b5)])) t → Steps p.tables e below (s₁.setTop (entryFrame m #[(.ref a1)] 1)) t := by
    intro t k
    refine pre5 t ?_
    refine XS.dup X5.here hx rfl (hb hby d1_10) rfl rfl ?_
    show Steps p.tables e below (T5.setTop (mkF m 11 #[.val (.ref a1)] [(.ref b5), (.ref b5)])) _
    refine XS.aloadN X5.here hx rfl (hb hby d1_11) rfl rfl ?_
    show Steps p.tables e below (T5.setTop (mkF m 12 #[.val (.ref a1)] [(.ref a1), (.ref b5), (.ref b5)])) _
    exact k
  obtain ⟨T7, h7, X7, e7, E7, V7, Ax7, st7⟩ := own_clone X5 hx hZ hown (hw _ (List.mem_of_getElem? (i := 18) rfl)) (hw _ (List.mem_of_getElem? (i := 19) rfl)) (hw _ (List.mem_of_getElem? (i := 23) rfl)) (hw _ (List.mem_of_getElem? (i := 21) rfl)) (hw _ (List.mem_of_getElem? (i := 22) rfl)) (hw _ (List.mem_of_getElem? (i := 24) rfl)) e5 F5_1 F5_0 hf (g := (mkF m 12 #[.val (.ref a1)] [(.ref a1), (.ref b5), (.ref b5)])) rfl (by rw [hml]; rfl) rfl (hb hby d1_12) (by decide) (W := 2) (cap := 3) (by show 2 * 0 + _ ≤ _; exact Nat.le_of_eq rfl) (by decide) hcap (by decide) (by decide)
  obtain ⟨b7, g7⟩ : ∃ z, z = h5.size := ⟨_, rfl⟩
  rw [← g7] at V7 Ax7 st7
  have ne7_a1 : a1 ≠ b7 := Nat.ne_of_lt (Nat.lt_of_lt_of_le F5_0.lt (Nat.le_of_eq g7.symm))
  have ne7_b5 : b5 ≠ b7 := Nat.ne_of_lt (Nat.lt_of_lt_of_le F5_bytes.lt (Nat.le_of_eq g7.symm))
  have gg7 : n0 ≤ b7 := Nat.le_trans Z5 (Nat.le_of_eq g7.symm)
  have sz7 : h0.size ≤ b7 := Nat.le_trans K5.1 (Nat.le_of_eq g7.symm)
  have F7_0 := F5_bytes.ext E7
  have F7_1 := F5_failed.ext E7
  have F7_2 := F5_0.ext E7
  have F7_3 := A5.ext E7
  have F7_4 := F5_1.ext E7
  have Z7 : n0 ≤ h7.size := Nat.le_trans Z5 E7.1
  have K7 := Keep.ext K5 E7
  have hk7 := Nat.le_trans hk5 E7.1
  have pre7 : ∀ t, Steps p.tables e below (T7.setTop (mkF m 15 #[.val (.ref a1)] [(.ref b7), (.ref b5), (.ref b5)])) t → Steps p.tables e below (s₁.setTop (entryFrame m #[(.ref a1)] 1)) t := fun t k => pre6 t (st7 _ k)
  obtain ⟨T8, X8, e8, st8⟩ := castY X7 hx hZ hown (hw _ (List.mem_of_getElem? (i := 25) rfl)) e7 (Ins.self Ax7) (g := (mkF m 15 #[.val (.ref a1)] [(.ref b7), (.ref b5), (.ref b5)])) rfl rfl (hb hby d1_15)
  have pre8 : ∀ t, Steps p.tables e below (T8.setTop (mkF m 18 #[.val (.ref a1)] [(.ref b7), (.ref b5), (.ref b5)])) t → Steps p.tables e below (s₁.setTop (entryFrame m #[(.ref a1)] 1)) t := fun t k => pre7 t (st8 _ k)
  have pre9 : ∀ t, Steps p.tables e below (T8.setTop (mkF m 19 #[.val (.ref a1)] [(.int (1 : Int32)), (.ref b7), (.ref b5), (.ref b5)])) t → Steps p.tables e below (s₁.setTop (entryFrame m #[(.ref a1)] 1)) t := by
    intro t k
    refine pre8 t ?_
    refine XS.iconst X8.here hx rfl (hb hby d1_18) ?_
    show Steps p.tables e below (T8.setTop (mkF m 19 #[.val (.ref a1)] [(.int (1 : Int32)), (.ref b7), (.ref b5), (.ref b5)])) _
    exact k
  obtain ⟨_, _, ⟨T10, L10, k10, n10⟩, -, X10, ⟨Lc10, hQ10, l10, y10, z10⟩, st10⟩ := X8.specialBack hx (y := (⟨"com/example/tally/tally/model/Outcome", "<init>", "([BZ)V"⟩ : MethodName)) rfl hown (mvT hZ (hw _ (List.mem_of_getElem? (i := 27) rfl))) (mvT hZ (hw _ (List.mem_of_getElem? (i := 28) rfl))) (mvT hZ (hw _ (List.mem_of_getElem? (i := 29) rfl))) (by decide) (backOf (W := 1) (rmC l Z a0 hw [] b5 b7 (1 : Int32) h7 n0 Z7 F7_3 F7_0 F7_1 gg5) hZ (hw _ (List.mem_of_getElem? (i := 29) rfl)) (hw _ (List.mem_of_getElem? (i := 3) rfl)) (by decide) (by decide)) (g := (mkF m 19 #[.val (.ref a1)] [(.int (1 : Int32)), (.ref b7), (.ref b5), (.ref b5)])) rfl (by rw [hml]; rfl) (Steps.refl _) (a := b5) (argsL := [(.ref b7), (.int (1 : Int32))]) (rest := [(.ref b5)]) (lenOf pdM_1 rfl) rfl (by show 2 * 0 + _ ≤ _; exact Nat.le_of_eq rfl) (hb hby d1_19) (fun _ _ => ⟨rfl, e8, (by decide : 4 + 0 ≤ _), (by decide : 29 + 0 ≤ _)⟩)
  dsimp only [Pt.U, Pt.locs, Pt.cells, Pt.slots] at X10 l10 y10 z10 st10 hQ10
  subst l10 y10 z10
  obtain ⟨rfl, Nq10, Kc10, Ec10, Fa10, Fb10⟩ := hQ10
  have F10_0 := F7_2.keep Kc10
  have F10_1 := F7_3.keep Kc10
  have F10_2 := Ax7.keep Kc10
  have F10_3 := F7_4.keep Kc10 (ninS ne5_a1 nin0)
  have F10_4 := V7.keep Kc10 (ninS (Ne.symm ne7_b5) nin0)
  have Z10 : n0 ≤ T10.heap.size := Nat.le_trans Z7 Kc10.1
  have K10 := Keep.trans K7 Kc10 (allS (Or.inr sz5) all0)
  have hk10 := Nat.le_trans hk7 Kc10.1
  have N10 := Fr.app N3 Nq10
  have pre10 : ∀ t, Steps p.tables e below (T10.setTop (mkF m 22 #[.val (.ref a1)] [(.ref b5)])) t → Steps p.tables e below (s₁.setTop (entryFrame m #[(.ref a1)] 1)) t := fun t k => pre9 t (st10.trans k)
  obtain ⟨fs, hr, hrun, hended, hREW⟩ := Stand.leaveW (s := s) (vm₁ := T2.vm) X10 hS2 hk10 (v := some (.ref b5)) (fun h => by rw [Bd.returns] at h; cases h)
  refine ⟨_, _, pre10 _ ?_, hrun, hended, _, _, rfl, ?_, hREW.1, hREW.2.1, hREW.2.2.1, hREW.2.2.2.mono (by decide) (by decide)⟩
  · show Steps p.tables e below (T10.setTop (mkF m 22 #[.val (.ref a1)] [(.ref b5)])) _
    exact own_retR X10 hx Bd.returns rfl rfl (hb hby d1_22) hr
  · show QM Z a1 z f h0 n0 _ T10.heap _
    exact ⟨b5, b7, rfl, N10, K10, gg5, sz7, Ec10, Fa10, Fb10, F10_4, F10_2, sz5⟩
/-! body 5: failed -/
theorem d5_0 : decode prog_19_method_5_code 0 = .ok (.aload_n 0, 1) := by decide +kernel
theorem d5_1 : decode prog_19_method_5_code 1 = .ok (.getfield 13, 3) := by decide +kernel
theorem d5_4 : decode prog_19_method_5_code 4 = .ok (.ireturn, 1) := by decide +kernel
theorem pnG : plainName "com/example/tally/tally/model/Outcome" = true := by first | (simp [plainName, overriddenIn]; done) | decide +kernel
theorem efG (m : MethodId) (a1 : Addr) : entryFrame m #[(.ref a1)] 1 = mkF m 0 #[.val (.ref a1)] [] := by first | (simp [entryFrame, mkF, argsToLocals, Value.category]; done) | rfl
def fnG (x_failed : Int32) : Int32 :=
  (nar .boolean x_failed)
def QG (Z : State) (a1 : Addr) (x_failed : Int32) (h0 : Heap) (n0 : Nat) (v : Option Value) (h : Heap) (L : List Loc) : Prop := v = some (.int (fnG x_failed)) ∧ Fr n0 L ∧ h = h0
set_option maxRecDepth 65536 in
set_option maxHeartbeats 40000000 in
theorem rmG (l : Launch) (Z : State) (a0 : Array Value) (hw : ∀ d ∈ tables_1, d.before a0 Z = true) (ws : List Jvm.Cond) (a1 : Addr) (x_failed : Int32) (h0 : Heap) (n0 : Nat) (Z0 : n0 ≤ h0.size) (F_failed : Fld Z h0 a1 "com/example/tally/tally/model/Outcome" "failed" "Z" (.int x_failed)) :
    MetFree l (⟨"com/example/tally/tally/model/Outcome", "failed", "()Z"⟩ : MethodName) (head1 (Jvm.Cond.code (⟨"com/example/tally/tally/model/Outcome", "failed", "()Z"⟩ : MethodName) prog_19_method_5_code 1 (some .boolean) :: ws) ({ frames := 0, cells := 0, slots := 0, locals := 0 } : Room)) (fun a U => a = #[(.ref a1)] ∧ Z.Warmed39 U.vm ∧ U.heap = h0) (fun _ _ _ _ _ => True) (fun _ U o U' => ∃ v L, o = .returned v ∧ QG Z a1 x_failed h0 n0 v U'.heap L ∧ FrameEnd U o U' L ({ frames := 0, cells := 0, slots := 0, locals := 0 } : Room).cells ({ frames := 0, cells := 0, slots := 0, locals := 0 } : Room).slots) := by
  refine MetFree.of_bodySF (plainFor_of_name pnG) hisR ?_
  intro p e s m args below meth c s₁ Bd hml0 hP hK
  obtain ⟨rfl, hZ, hh⟩ := hP
  have hx := Bd.exec
  have hby := Bd.bytes
  have hml : c.maxLocals = 1 := hml0
  have hown : s.vm.findClass "com/example/tally/tally/model/Outcome" = some m.cls := findClass_of_methodNamed Bd.named
  have hnm := (name_of_methodNamed Bd.named Bd.method).1
  have X0 : Stand p l e ({ frames := 0, cells := 0, slots := 0, locals := 0 } : Room) s m #[(.ref a1)] below meth c s₁ [] 0 0 := Stand.of_body Bd
  have e0 : s₁.heap = h0 := by rw [← hh, Bd.state]; rfl
  have N0 := Fr.nil n0
  have pre0 : ∀ t, Steps p.tables e below (s₁.setTop (mkF m 0 #[.val (.ref a1)] [])) t → Steps p.tables e below (s₁.setTop (entryFrame m #[(.ref a1)] 1)) t := fun t k => castTop (efG m a1) k
  have pre1 : ∀ t, Steps p.tables e below (s₁.setTop (mkF m 1 #[.val (.ref a1)] [(.ref a1)])) t → Steps p.tables e below (s₁.setTop (entryFrame m #[(.ref a1)] 1)) t := by
    intro t k
    refine pre0 t ?_
    show Steps p.tables e below (s₁.setTop (mkF m 0 #[.val (.ref a1)] [])) _
    refine XS.aloadN X0.here hx rfl (hb hby d5_0) rfl rfl ?_
    show Steps p.tables e below (s₁.setTop (mkF m 1 #[.val (.ref a1)] [(.ref a1)])) _
    exact k
  obtain ⟨T2, X2, e2, st2⟩ := getF X0 hx hZ hown (host := "") (Or.inl (hw _ (List.mem_of_getElem? (i := 35) rfl))) Via.refl e0 F_failed (g := (mkF m 1 #[.val (.ref a1)] [(.ref a1)])) rfl rfl (hb hby d5_1)
  have pre2 : ∀ t, Steps p.tables e below (T2.setTop (mkF m 4 #[.val (.ref a1)] [(.int x_failed)])) t → Steps p.tables e below (s₁.setTop (entryFrame m #[(.ref a1)] 1)) t := fun t k => pre1 t (st2 _ k)
  obtain ⟨fs, hr, hrun, hended, hW, hsame⟩ := X2.leave (v := some (.int (nar .boolean x_failed))) (fun h => by rw [Bd.returns] at h; cases h)
  refine ⟨_, _, pre2 _ ?_, hrun, hended, _, _, rfl, ?_, ⟨_, rfl⟩, hW, hsame.mono (by decide) (by decide)⟩
  · show Steps p.tables e below (T2.setTop (mkF m 4 #[.val (.ref a1)] [(.int x_failed)])) _
    exact retN X2 hx (t := .boolean) Bd.returns (by simp) (hb hby d5_4) hr
  · show QG Z a1 x_failed h0 n0 _ T2.heap _
    rw [e2]
    refine ⟨?_, N0, rfl⟩
    simp only [fnG]
/-! body 6: bytes -/
theorem d6_0 : decode prog_19_method_4_code 0 = .ok (.aload_n 0, 1) := by decide +kernel
theorem d6_1 : decode prog_19_method_4_code 1 = .ok (.getfield 7, 3) := by decide +kernel
theorem d6_4 : decode prog_19_method_4_code 4 = .ok (.invokevirtual 24, 3) := by decide +kernel
theorem d6_7 : decode prog_19_method_4_code 7 = .ok (.checkcast 25, 3) := by decide +kernel
theorem d6_10 : decode prog_19_method_4_code 10 = .ok (.areturn, 1) := by decide +kernel
theorem pnB : plainName "com/example/tally/tally/model/Outcome" = true := by first | (simp [plainName, overriddenIn]; done) | decide +kernel
theorem efB (m : MethodId) (a1 : Addr) : entryFrame m #[(.ref a1)] 1 = mkF m 0 #[.val (.ref a1)] [] := by first | (simp [entryFrame, mkF, argsToLocals, Value.category]; done) | rfl
def QB (Z : State) (a1 : Addr) (d : Addr) (z : Int32) (f : Nat → Int32) (h0 : Heap) (n0 : Nat) (v : Option Value) (h : Heap) (L : List Loc) : Prop := ∃ b : Addr, v = some (.ref b) ∧ Fr n0 L ∧ Keep h0 h [] ∧ own_AI Z h b .byte z f
set_option maxRecDepth 65536 in
set_option maxHeartbeats 40000000 in
theorem rmB (l : Launch) (Z : State) (a0 : Array Value) (hw : ∀ d ∈ tables_1, d.before a0 Z = true) (ws : List Jvm.Cond) (a1 : Addr) (d : Addr) (z : Int32) (f : Nat → Int32) (h0 : Heap) (n0 : Nat) (Z0 : n0 ≤ h0.size) (F1 : Fld Z h0 a1 "com/example/tally/tally/model/Outcome" "bytes" "[B" (.ref d)) (A0 : own_AI Z h0 d .byte z f) (Ex : Exa Z h0 d "[B") (hf : own_fit f) (hcap : z.toNatClampNeg ≤ 3) :
    MetFree l (⟨"com/example/tally/tally/model/Outcome", "bytes", "()[B"⟩ : MethodName) (head1 (Jvm.Cond.code (⟨"com/example/tally/tally/model/Outcome", "bytes", "()[B"⟩ : MethodName) prog_19_method_4_code 1 (some (.array .byte)) :: ws) ({ frames := 1, cells := 1, slots := 3, locals := 14 } : Room)) (fun a U => a = #[(.ref a1)] ∧ Z.Warmed39 U.vm ∧ U.heap = h0) (fun _ _ _ _ _ => True) (fun _ U o U' => ∃ v L, o = .returned v ∧ QB Z a1 d z f h0 n0 v U'.heap L ∧ FrameEnd U o U' L ({ frames := 1, cells := 1, slots := 3, locals := 14 } : Room).cells ({ frames := 1, cells := 1, slots := 3, locals := 14 } : Room).slots) := by
  refine MetFree.of_bodySF (plainFor_of_name pnB) hisR ?_
  intro p e s m args below meth c s₁ Bd hml0 hP hK
  obtain ⟨rfl, hZ, hh⟩ := hP
  have hx := Bd.exec
  have hby := Bd.bytes
  have hml : c.maxLocals = 1 := hml0
  have hown : s.vm.findClass "com/example/tally/tally/model/Outcome" = some m.cls := findClass_of_methodNamed Bd.named
  have hnm := (name_of_methodNamed Bd.named Bd.method).1
  have X0 : Stand p l e ({ frames := 1, cells := 1, slots := 3, locals := 14 } : Room) s m #[(.ref a1)] below meth c s₁ [] 0 0 := Stand.of_body Bd
  have e0 : s₁.heap = h0 := by rw [← hh, Bd.state]; rfl
  have N0 := Fr.nil n0
  have pre0 : ∀ t, Steps p.tables e below (s₁.setTop (mkF m 0 #[.val (.ref a1)] [])) t → Steps p.tables e below (s₁.setTop (entryFrame m #[(.ref a1)] 1)) t := fun t k => castTop (efB m a1) k
  have K0 := Keep.refl h0 []
  have pre1 : ∀ t, Steps p.tables e below (s₁.setTop (mkF m 1 #[.val (.ref a1)] [(.ref a1)])) t → Steps p.tables e below (s₁.setTop (entryFrame m #[(.ref a1)] 1)) t := by
    intro t k
    refine pre0 t ?_
    show Steps p.tables e below (s₁.setTop (mkF m 0 #[.val (.ref a1)] [])) _
    refine XS.aloadN X0.here hx rfl (hb hby d6_0) rfl rfl ?_
    show Steps p.tables e below (s₁.setTop (mkF m 1 #[.val (.ref a1)] [(.ref a1)])) _
    exact k
  obtain ⟨T2, X2, e2, st2⟩ := getF X0 hx hZ hown (host := "") (Or.inl (hw _ (List.mem_of_getElem? (i := 33) rfl))) Via.refl e0 F1 (g := (mkF m 1 #[.val (.ref a1)] [(.ref a1)])) rfl rfl (hb hby d6_1)
  have pre2 : ∀ t, Steps p.tables e below (T2.setTop (mkF m 4 #[.val (.ref a1)] [(.ref d)])) t → Steps p.tables e below (s₁.setTop (entryFrame m #[(.ref a1)] 1)) t := fun t k => pre1 t (st2 _ k)
  obtain ⟨T3, h3, X3, e3, E3, V3, Ax3, st3⟩ := own_clone X2 hx hZ hown (hw _ (List.mem_of_getElem? (i := 18) rfl)) (hw _ (List.mem_of_getElem? (i := 19) rfl)) (hw _ (List.mem_of_getElem? (i := 23) rfl)) (hw _ (List.mem_of_getElem? (i := 21) rfl)) (hw _ (List.mem_of_getElem? (i := 22) rfl)) (hw _ (List.mem_of_getElem? (i := 24) rfl)) e2 A0 Ex hf (g := (mkF m 4 #[.val (.ref a1)] [(.ref d)])) rfl (by rw [hml]; rfl) rfl (hb hby d6_4) (by decide) (W := 0) (cap := 3) (by show 2 * 0 + _ ≤ _; exact Nat.le_of_eq rfl) (by decide) hcap (by decide) (by decide)
  obtain ⟨b3, g3⟩ : ∃ z, z = h0.size := ⟨_, rfl⟩
  rw [← g3] at V3 Ax3 st3
  have ne3_a1 : a1 ≠ b3 := Nat.ne_of_lt (Nat.lt_of_lt_of_le F1.lt (Nat.le_of_eq g3.symm))
  have ne3_d : d ≠ b3 := Nat.ne_of_lt (Nat.lt_of_lt_of_le Ex.lt (Nat.le_of_eq g3.symm))
  have gg3 : n0 ≤ b3 := Nat.le_trans Z0 (Nat.le_of_eq g3.symm)
  have sz3 : h0.size ≤ b3 := Nat.le_trans K0.1 (Nat.le_of_eq g3.symm)
  have F3_0 := F1.ext E3
  have F3_1 := Ex.ext E3
  have F3_2 := A0.ext E3
  have Z3 : n0 ≤ h3.size := Nat.le_trans Z0 E3.1
  have K3 := Keep.ext K0 E3
  have pre3 : ∀ t, Steps p.tables e below (T3.setTop (mkF m 7 #[.val (.ref a1)] [(.ref b3)])) t → Steps p.tables e below (s₁.setTop (entryFrame m #[(.ref a1)] 1)) t := fun t k => pre2 t (st3 _ k)
  obtain ⟨T4, X4, e4, st4⟩ := castY X3 hx hZ hown (hw _ (List.mem_of_getElem? (i := 25) rfl)) e3 (Ins.self Ax3) (g := (mkF m 7 #[.val (.ref a1)] [(.ref b3)])) rfl rfl (hb hby d6_7)
  have pre4 : ∀ t, Steps p.tables e below (T4.setTop (mkF m 10 #[.val (.ref a1)] [(.ref b3)])) t → Steps p.tables e below (s₁.setTop (entryFrame m #[(.ref a1)] 1)) t := fun t k => pre3 t (st4 _ k)
  obtain ⟨fs, hr, hrun, hended, hW, hsame⟩ := X4.leave (v := some (.ref b3)) (fun h => by rw [Bd.returns] at h; cases h)
  refine ⟨_, _, pre4 _ ?_, hrun, hended, _, _, rfl, ?_, ⟨_, rfl⟩, hW, hsame.mono (by decide) (by decide)⟩
  · show Steps p.tables e below (T4.setTop (mkF m 10 #[.val (.ref a1)] [(.ref b3)])) _
    exact own_retR X4 hx Bd.returns rfl rfl (hb hby d6_10) hr
  · show QB Z a1 d z f h0 n0 _ T4.heap _
    rw [e4]
    exact ⟨b3, rfl, N0, K3, V3⟩
/-! body 0: law -/
theorem pd0_0 : parseMethodDescriptor "([B)Lcom/example/tally/tally/model/Outcome;" = some ⟨[(.array .byte)], some (.object "com/example/tally/tally/model/Outcome")⟩ := by decide +kernel
theorem pd0_1 : parseMethodDescriptor "()Z" = some ⟨[], some .boolean⟩ := by decide +kernel
theorem pd0_2 : parseMethodDescriptor "()[B" = some ⟨[], some (.array .byte)⟩ := by decide +kernel
theorem pn0 : plainName "com/example/tally/tally/model/OutcomeFailurePinLaw" = true := by first | (simp [plainName, overriddenIn]; done) | decide +kernel
theorem ef0 (m : MethodId) (p1 : Int32) (p2 : Int32) (p3 : Int32) (p4 : Int32) : entryFrame m #[(.int p1), (.int p2), (.int p3), (.int p4)] maxLocals = mkF m 0 #[.val (.int p1), .val (.int p2), .val (.int p3), .val (.int p4), .unset, .unset, .unset, .unset, .unset, .unset, .unset] [] := by first | (simp [entryFrame, mkF, argsToLocals, Value.category, maxLocals]; done) | rfl
/-! the plain law -/
theorem own_nb {v p : Int32} (h : v = (p.toInt8.toInt32)) : (nar .byte v) = v := by
  subst h
  show (p.toInt8.toInt32).toInt8.toInt32 = _
  rw [Int8.toInt8_toInt32]
theorem own_m3 {v p : Int32} (h : v = (p &&& (3 : Int32))) (h0 : ¬ v = 0) (h1 : ¬ v = 1) (h2 : ¬ v = 2) : v = 3 := by
  have hm := Jvm.Kit.i32_mask p 3 (k := 2) (by decide) (by decide)
  rw [← h] at hm
  have z0 : (0 : Int32).toInt = 0 := by decide
  have z1 : (1 : Int32).toInt = 1 := by decide
  have z2 : (2 : Int32).toInt = 2 := by decide
  have z3 : (3 : Int32).toInt = 3 := by decide
  rw [← Int32.toInt_inj] at *
  omega
def Q0 (Z : State) (p1 : Int32) (p2 : Int32) (p3 : Int32) (p4 : Int32) (h0 : Heap) (n0 : Nat) (v : Option Value) (h : Heap) (L : List Loc) : Prop := v = some (.int 1) ∧ Fr n0 L
set_option maxRecDepth 65536 in
set_option maxHeartbeats 40000000 in
theorem rm0 (l : Launch) (Z : State) (a0 : Array Value) (hw : ∀ d ∈ tables_1, d.before a0 Z = true) (ws : List Jvm.Cond) (p1 : Int32) (p2 : Int32) (p3 : Int32) (p4 : Int32) (h0 : Heap) (n0 : Nat) (Z0 : n0 ≤ h0.size) :
    MetFree l x (head1 (Jvm.Cond.code x code maxLocals ret :: ws) room_1) (fun a U => a = #[(.int p1), (.int p2), (.int p3), (.int p4)] ∧ Z.Warmed39 U.vm ∧ U.heap = h0) (fun _ _ _ _ _ => True) (fun _ U o U' => ∃ v L, o = .returned v ∧ Q0 Z p1 p2 p3 p4 h0 n0 v U'.heap L ∧ ReturnedEndW U o U' L room_1.cells room_1.slots) := by
  refine MetFree.of_bodySF (plainFor_of_name pn0) hisR ?_
  intro p e s m args below meth c s₁ Bd hml0 hP hK
  obtain ⟨rfl, hZ, hh⟩ := hP
  have hx := Bd.exec
  have hby := Bd.bytes
  have hml : c.maxLocals = 11 := hml0
  have hown : s.vm.findClass "com/example/tally/tally/model/OutcomeFailurePinLaw" = some m.cls := findClass_of_methodNamed Bd.named
  have hnm := (name_of_methodNamed Bd.named Bd.method).1
  have X0 : Stand p l e room_1 s m #[(.int p1), (.int p2), (.int p3), (.int p4)] below meth c s₁ [] 0 0 := Stand.of_body Bd
  have e0 : s₁.heap = h0 := by rw [← hh, Bd.state]; rfl
  have N0 := Fr.nil n0
  have pre0 : ∀ t, Steps p.tables e below (s₁.setTop (mkF m 0 #[.val (.int p1), .val (.int p2), .val (.int p3), .val (.int p4), .unset, .unset, .unset, .unset, .unset, .unset, .unset] [])) t → Steps p.tables e below (s₁.setTop (entryFrame m #[(.int p1), (.int p2), (.int p3), (.int p4)] maxLocals)) t := fun t k => castTop (ef0 m p1 p2 p3 p4) k
  have hS0 : s.Since s.vm 0 := (State.WarmedH.refl s).since 0
  have hk0 : 0 ≤ h0.size := Nat.zero_le _
  obtain ⟨v3, hv3⟩ : ∃ z : Int32, z = (p1 &&& (3 : Int32)) := ⟨_, rfl⟩
  have pre1 : ∀ t, Steps p.tables e below (s₁.setTop (mkF m 5 #[.val (.int p1), .val (.int p2), .val (.int p3), .val (.int p4), .val (.int v3), .unset, .unset, .unset, .unset, .unset, .unset] [])) t → Steps p.tables e below (s₁.setTop (entryFrame m #[(.int p1), (.int p2), (.int p3), (.int p4)] maxLocals)) t := by
    intro t k
    subst hv3
    refine pre0 t ?_
    show Steps p.tables e below (s₁.setTop (mkF m 0 #[.val (.int p1), .val (.int p2), .val (.int p3), .val (.int p4), .unset, .unset, .unset, .unset, .unset, .unset, .unset] [])) _
    refine XS.iloadN X0.here hx rfl (hb hby at_0) rfl ?_
    show Steps p.tables e below (s₁.setTop (mkF m 1 #[.val (.int p1), .val (.int p2), .val (.int p3), .val (.int p4), .unset, .unset, .unset, .unset, .unset, .unset, .unset] [(.int p1)])) _
    refine XS.iconst X0.here hx rfl (hb hby at_1) ?_
    show Steps p.tables e below (s₁.setTop (mkF m 2 #[.val (.int p1), .val (.int p2), .val (.int p3), .val (.int p4), .unset, .unset, .unset, .unset, .unset, .unset, .unset] [(.int (3 : Int32)), (.int p1)])) _
    refine XS.iand X0.here hx rfl (hb hby at_2) rfl ?_
    show Steps p.tables e below (s₁.setTop (mkF m 3 #[.val (.int p1), .val (.int p2), .val (.int p3), .val (.int p4), .unset, .unset, .unset, .unset, .unset, .unset, .unset] [(.int (p1 &&& (3 : Int32)))])) _
    refine XS.istore X0.here hx rfl (hb hby at_3) rfl (l' := #[.val (.int p1), .val (.int p2), .val (.int p3), .val (.int p4), .val (.int (p1 &&& (3 : Int32))), .unset, .unset, .unset, .unset, .unset, .unset]) rfl ?_
    show Steps p.tables e below (s₁.setTop (mkF m 5 #[.val (.int p1), .val (.int p2), .val (.int p3), .val (.int p4), .val (.int (p1 &&& (3 : Int32))), .unset, .unset, .unset, .unset, .unset, .unset] [])) _
    exact k
  obtain ⟨v7, hv7⟩ : ∃ z : Int32, z = (p2.toInt8.toInt32) := ⟨_, rfl⟩
  have pre2 : ∀ t, Steps p.tables e below (s₁.setTop (mkF m 9 #[.val (.int p1), .val (.int p2), .val (.int p3), .val (.int p4), .val (.int v3), .val (.int v7), .unset, .unset, .unset, .unset, .unset] [])) t → Steps p.tables e below (s₁.setTop (entryFrame m #[(.int p1), (.int p2), (.int p3), (.int p4)] maxLocals)) t := by
    intro t k
    subst hv7
    refine pre1 t ?_
    refine XS.iloadN X0.here hx rfl (hb hby at_5) rfl ?_
    show Steps p.tables e below (s₁.setTop (mkF m 6 #[.val (.int p1), .val (.int p2), .val (.int p3), .val (.int p4), .val (.int v3), .unset, .unset, .unset, .unset, .unset, .unset] [(.int p2)])) _
    refine XS.i2b X0.here hx rfl (hb hby at_6) rfl ?_
    show Steps p.tables e below (s₁.setTop (mkF m 7 #[.val (.int p1), .val (.int p2), .val (.int p3), .val (.int p4), .val (.int v3), .unset, .unset, .unset, .unset, .unset, .unset] [(.int (p2.toInt8.toInt32))])) _
    refine XS.istore X0.here hx rfl (hb hby at_7) rfl (l' := #[.val (.int p1), .val (.int p2), .val (.int p3), .val (.int p4), .val (.int v3), .val (.int (p2.toInt8.toInt32)), .unset, .unset, .unset, .unset, .unset]) rfl ?_
    show Steps p.tables e below (s₁.setTop (mkF m 9 #[.val (.int p1), .val (.int p2), .val (.int p3), .val (.int p4), .val (.int v3), .val (.int (p2.toInt8.toInt32)), .unset, .unset, .unset, .unset, .unset] [])) _
    exact k
  obtain ⟨v11, hv11⟩ : ∃ z : Int32, z = (p3.toInt8.toInt32) := ⟨_, rfl⟩
  have pre3 : ∀ t, Steps p.tables e below (s₁.setTop (mkF m 13 #[.val (.int p1), .val (.int p2), .val (.int p3), .val (.int p4), .val (.int v3), .val (.int v7), .val (.int v11), .unset, .unset, .unset, .unset] [])) t → Steps p.tables e below (s₁.setTop (entryFrame m #[(.int p1), (.int p2), (.int p3), (.int p4)] maxLocals)) t := by
    intro t k
    subst hv11
    refine pre2 t ?_
    refine XS.iloadN X0.here hx rfl (hb hby at_9) rfl ?_
    show Steps p.tables e below (s₁.setTop (mkF m 10 #[.val (.int p1), .val (.int p2), .val (.int p3), .val (.int p4), .val (.int v3), .val (.int v7), .unset, .unset, .unset, .unset, .unset] [(.int p3)])) _
    refine XS.i2b X0.here hx rfl (hb hby at_10) rfl ?_
    show Steps p.tables e below (s₁.setTop (mkF m 11 #[.val (.int p1), .val (.int p2), .val (.int p3), .val (.int p4), .val (.int v3), .val (.int v7), .unset, .unset, .unset, .unset, .unset] [(.int (p3.toInt8.toInt32))])) _
    refine XS.istore X0.here hx rfl (hb hby at_11) rfl (l' := #[.val (.int p1), .val (.int p2), .val (.int p3), .val (.int p4), .val (.int v3), .val (.int v7), .val (.int (p3.toInt8.toInt32)), .unset, .unset, .unset, .unset]) rfl ?_
    show Steps p.tables e below (s₁.setTop (mkF m 13 #[.val (.int p1), .val (.int p2), .val (.int p3), .val (.int p4), .val (.int v3), .val (.int v7), .val (.int (p3.toInt8.toInt32)), .unset, .unset, .unset, .unset] [])) _
    exact k
  obtain ⟨v15, hv15⟩ : ∃ z : Int32, z = (p4.toInt8.toInt32) := ⟨_, rfl⟩
  have pre4 : ∀ t, Steps p.tables e below (s₁.setTop (mkF m 17 #[.val (.int p1), .val (.int p2), .val (.int p3), .val (.int p4), .val (.int v3), .val (.int v7), .val (.int v11), .val (.int v15), .unset, .unset, .unset] [])) t → Steps p.tables e below (s₁.setTop (entryFrame m #[(.int p1), (.int p2), (.int p3), (.int p4)] maxLocals)) t := by
    intro t k
    subst hv15
    refine pre3 t ?_
    refine XS.iloadN X0.here hx rfl (hb hby at_13) rfl ?_
    show Steps p.tables e below (s₁.setTop (mkF m 14 #[.val (.int p1), .val (.int p2), .val (.int p3), .val (.int p4), .val (.int v3), .val (.int v7), .val (.int v11), .unset, .unset, .unset, .unset] [(.int p4)])) _
    refine XS.i2b X0.here hx rfl (hb hby at_14) rfl ?_
    show Steps p.tables e below (s₁.setTop (mkF m 15 #[.val (.int p1), .val (.int p2), .val (.int p3), .val (.int p4), .val (.int v3), .val (.int v7), .val (.int v11), .unset, .unset, .unset, .unset] [(.int (p4.toInt8.toInt32))])) _
    refine XS.istore X0.here hx rfl (hb hby at_15) rfl (l' := #[.val (.int p1), .val (.int p2), .val (.int p3), .val (.int p4), .val (.int v3), .val (.int v7), .val (.int v11), .val (.int (p4.toInt8.toInt32)), .unset, .unset, .unset]) rfl ?_
    show Steps p.tables e below (s₁.setTop (mkF m 17 #[.val (.int p1), .val (.int p2), .val (.int p3), .val (.int p4), .val (.int v3), .val (.int v7), .val (.int v11), .val (.int (p4.toInt8.toInt32)), .unset, .unset, .unset] [])) _
    exact k
  by_cases hM0 : v3 = (0 : Int32)
  · have preM := pre4
    rw [hM0] at preM
    have pre5 : ∀ t, Steps p.tables e below (s₁.setTop (mkF m 19 #[.val (.int p1), .val (.int p2), .val (.int p3), .val (.int p4), .val (.int (0 : Int32)), .val (.int v7), .val (.int v11), .val (.int v15), .unset, .unset, .unset] [(.int (0 : Int32))])) t → Steps p.tables e below (s₁.setTop (entryFrame m #[(.int p1), (.int p2), (.int p3), (.int p4)] maxLocals)) t := by
      intro t k
      refine preM t ?_
      refine XS.iload X0.here hx rfl (hb hby at_17) rfl ?_
      show Steps p.tables e below (s₁.setTop (mkF m 19 #[.val (.int p1), .val (.int p2), .val (.int p3), .val (.int p4), .val (.int (0 : Int32)), .val (.int v7), .val (.int v11), .val (.int v15), .unset, .unset, .unset] [(.int (0 : Int32))])) _
      exact k
    obtain ⟨T6, h6, k6, X6, e6, E6, A6, Ax6, st6⟩ := newPE X0 hx hZ (hw _ (List.mem_of_getElem? (i := 0) rfl)) e0 (g := (mkF m 19 #[.val (.int p1), .val (.int p2), .val (.int p3), .val (.int p4), .val (.int (0 : Int32)), .val (.int v7), .val (.int v11), .val (.int v15), .unset, .unset, .unset] [(.int (0 : Int32))])) rfl (hb hby at_19) rfl (by decide) (cap := 0) (by decide) (by decide) (by decide) (by decide) (ad := "[B") (by decide)
    obtain ⟨b6, g6⟩ : ∃ z, z = h0.size := ⟨_, rfl⟩
    rw [← g6] at A6 st6 Ax6
    have gg6 : n0 ≤ b6 := Nat.le_trans Z0 (Nat.le_of_eq g6.symm)
    have Z6 : n0 ≤ h6.size := Nat.le_trans Z0 E6.1
    have hk6 := Nat.le_trans hk0 E6.1
    have V6 : own_AI Z h6 b6 .byte (0 : Int32) (fun _ => 0) := own_AI.new A6 (by decide) rfl
    have V6' := own_AI.z3 V6
    have pre6 : ∀ t, Steps p.tables e below (T6.setTop (mkF m 21 #[.val (.int p1), .val (.int p2), .val (.int p3), .val (.int p4), .val (.int (0 : Int32)), .val (.int v7), .val (.int v11), .val (.int v15), .unset, .unset, .unset] [(.ref b6)])) t → Steps p.tables e below (s₁.setTop (entryFrame m #[(.int p1), (.int p2), (.int p3), (.int p4)] maxLocals)) t := fun t k => pre5 t (st6 _ k)
    have pre7 : ∀ t, Steps p.tables e below (T6.setTop (mkF m 60 #[.val (.int p1), .val (.int p2), .val (.int p3), .val (.int p4), .val (.int (0 : Int32)), .val (.int v7), .val (.int v11), .val (.int v15), .val (.ref b6), .unset, .unset] [(.ref b6)])) t → Steps p.tables e below (s₁.setTop (entryFrame m #[(.int p1), (.int p2), (.int p3), (.int p4)] maxLocals)) t := by
      intro t k
      refine pre6 t ?_
      refine XS.astore X6.here hx rfl (hb hby at_21) rfl rfl (l' := #[.val (.int p1), .val (.int p2), .val (.int p3), .val (.int p4), .val (.int (0 : Int32)), .val (.int v7), .val (.int v11), .val (.int v15), .val (.ref b6), .unset, .unset]) rfl ?_
      show Steps p.tables e below (T6.setTop (mkF m 23 #[.val (.int p1), .val (.int p2), .val (.int p3), .val (.int p4), .val (.int (0 : Int32)), .val (.int v7), .val (.int v11), .val (.int v15), .val (.ref b6), .unset, .unset] [])) _
      refine XS.iload X6.here hx rfl (hb hby at_23) rfl ?_
      show Steps p.tables e below (T6.setTop (mkF m 25 #[.val (.int p1), .val (.int p2), .val (.int p3), .val (.int p4), .val (.int (0 : Int32)), .val (.int v7), .val (.int v11), .val (.int v15), .val (.ref b6), .unset, .unset] [(.int (0 : Int32))])) _
      refine XS.ifYes X6.here hx rfl (pc0 := 25) (pc' := 34) rfl (hb hby at_25) rfl ((if0 _ _).trans (flt (by decide : ¬ (0 : Int32) < (0 : Int32))).2.2.2) (by decide) (by decide) ?_
      show Steps p.tables e below (T6.setTop (mkF m 34 #[.val (.int p1), .val (.int p2), .val (.int p3), .val (.int p4), .val (.int (0 : Int32)), .val (.int v7), .val (.int v11), .val (.int v15), .val (.ref b6), .unset, .unset] [])) _
      refine XS.iload X6.here hx rfl (hb hby at_34) rfl ?_
      show Steps p.tables e below (T6.setTop (mkF m 36 #[.val (.int p1), .val (.int p2), .val (.int p3), .val (.int p4), .val (.int (0 : Int32)), .val (.int v7), .val (.int v11), .val (.int v15), .val (.ref b6), .unset, .unset] [(.int (0 : Int32))])) _
      refine XS.iconst X6.here hx rfl (hb hby at_36) ?_
      show Steps p.tables e below (T6.setTop (mkF m 37 #[.val (.int p1), .val (.int p2), .val (.int p3), .val (.int p4), .val (.int (0 : Int32)), .val (.int v7), .val (.int v11), .val (.int v15), .val (.ref b6), .unset, .unset] [(.int (1 : Int32)), (.int (0 : Int32))])) _
      refine XS.icmpYes X6.here hx rfl (pc0 := 37) (pc' := 46) rfl (hb hby at_37) rfl (flt (by decide : ¬ (1 : Int32) < (0 : Int32))).2.2.2 (by decide) (by decide) ?_
      show Steps p.tables e below (T6.setTop (mkF m 46 #[.val (.int p1), .val (.int p2), .val (.int p3), .val (.int p4), .val (.int (0 : Int32)), .val (.int v7), .val (.int v11), .val (.int v15), .val (.ref b6), .unset, .unset] [])) _
      refine XS.iload X6.here hx rfl (hb hby at_46) rfl ?_
      show Steps p.tables e below (T6.setTop (mkF m 48 #[.val (.int p1), .val (.int p2), .val (.int p3), .val (.int p4), .val (.int (0 : Int32)), .val (.int v7), .val (.int v11), .val (.int v15), .val (.ref b6), .unset, .unset] [(.int (0 : Int32))])) _
      refine XS.iconst X6.here hx rfl (hb hby at_48) ?_
      show Steps p.tables e below (T6.setTop (mkF m 49 #[.val (.int p1), .val (.int p2), .val (.int p3), .val (.int p4), .val (.int (0 : Int32)), .val (.int v7), .val (.int v11), .val (.int v15), .val (.ref b6), .unset, .unset] [(.int (2 : Int32)), (.int (0 : Int32))])) _
      refine XS.icmpYes X6.here hx rfl (pc0 := 49) (pc' := 58) rfl (hb hby at_49) rfl (flt (by decide : ¬ (2 : Int32) < (0 : Int32))).2.2.2 (by decide) (by decide) ?_
      show Steps p.tables e below (T6.setTop (mkF m 58 #[.val (.int p1), .val (.int p2), .val (.int p3), .val (.int p4), .val (.int (0 : Int32)), .val (.int v7), .val (.int v11), .val (.int v15), .val (.ref b6), .unset, .unset] [])) _
      refine XS.aload X6.here hx rfl (hb hby at_58) rfl rfl ?_
      show Steps p.tables e below (T6.setTop (mkF m 60 #[.val (.int p1), .val (.int p2), .val (.int p3), .val (.int p4), .val (.int (0 : Int32)), .val (.int v7), .val (.int v11), .val (.int v15), .val (.ref b6), .unset, .unset] [(.ref b6)])) _
      exact k
    obtain ⟨_, _, ⟨T8, L8, k8, n8⟩, -, X8, hs8, hg8, ⟨Lc8, hQ8, l8, y8, z8⟩, st8⟩ := callSS X6 hx (y := (⟨"com/example/tally/tally/model/Outcome", "failure", "([B)Lcom/example/tally/tally/model/Outcome;"⟩ : MethodName)) hown (mvT hZ (hw _ (List.mem_of_getElem? (i := 1) rfl))) (mvT hZ (hw _ (List.mem_of_getElem? (i := 2) rfl))) (mvT hZ (hw _ (List.mem_of_getElem? (i := 3) rfl))) (mvT hZ (hw _ (List.mem_of_getElem? (i := 4) rfl))) (by decide) (backOfS (W := 0) (rmM l Z a0 hw [] b6 (0 : Int32) (own_3 (0 : Int32) (0 : Int32) (0 : Int32)) h6 n0 Z6 V6' Ax6 (own_fit3 rfl rfl rfl) (by decide)) hZ (hw _ (List.mem_of_getElem? (i := 4) rfl)) (hw _ (List.mem_of_getElem? (i := 3) rfl)) (by decide) (by decide)) (g := (mkF m 60 #[.val (.int p1), .val (.int p2), .val (.int p3), .val (.int p4), .val (.int (0 : Int32)), .val (.int v7), .val (.int v11), .val (.int v15), .val (.ref b6), .unset, .unset] [(.ref b6)])) rfl (by rw [hml]; rfl) (argsL := [(.ref b6)]) (rest := []) (lenOf pd0_0 rfl) rfl (by show 2 * 0 + _ ≤ _; exact Nat.le_of_eq rfl) (hb hby at_60) (fun _ _ => ⟨rfl, e6, (by decide : 1 + 4 ≤ _), (by decide : 0 + 29 ≤ _)⟩)
    dsimp only [Pt.U, Pt.locs, Pt.cells, Pt.slots] at X8 l8 y8 z8 st8 hQ8 hs8 hg8
    subst l8 y8 z8
    obtain ⟨X8, hS8, hZ, hown⟩ := rebS (s := s) (vm0 := s.vm) hS0 (by rw [e6]; exact hk6) X8 hs8 hg8 hZ hown
    have hk8 : T8.heap.size ≤ T8.heap.size := Nat.le_refl _
    obtain ⟨b8, d8, rfl, Nq8, Kc8, gg8, sd8, Ec8, Fa8, Fb8, V8, Ax8, sb8⟩ := hQ8
    have ne8 : b6 ≠ d8 := Nat.ne_of_lt (Nat.lt_of_lt_of_le Ax6.lt sd8)
    have nf8 : b6 ≠ b8 := Nat.ne_of_lt (Nat.lt_of_lt_of_le Ax6.lt sb8)
    have F8_0 := Ax6.keep Kc8
    have F8_1 := V6'.keep Kc8 nin0
    have Z8 : n0 ≤ T8.heap.size := Nat.le_trans Z6 Kc8.1
    have N8 := Fr.app N0 Nq8
    have pre8 : ∀ t, Steps p.tables e below (T8.setTop (mkF m 63 #[.val (.int p1), .val (.int p2), .val (.int p3), .val (.int p4), .val (.int (0 : Int32)), .val (.int v7), .val (.int v11), .val (.int v15), .val (.ref b6), .unset, .unset] [(.ref b8)])) t → Steps p.tables e below (s₁.setTop (entryFrame m #[(.int p1), (.int p2), (.int p3), (.int p4)] maxLocals)) t := fun t k => pre7 t (st8.trans k)
    have pre9 : ∀ t, Steps p.tables e below (T8.setTop (mkF m 111 #[.val (.int p1), .val (.int p2), .val (.int p3), .val (.int p4), .val (.int (0 : Int32)), .val (.int v7), .val (.int v11), .val (.int v15), .val (.ref b6), .val (.ref b8), .unset] [(.ref b8)])) t → Steps p.tables e below (s₁.setTop (entryFrame m #[(.int p1), (.int p2), (.int p3), (.int p4)] maxLocals)) t := by
      intro t k
      refine pre8 t ?_
      refine XS.astore X8.here hx rfl (hb hby at_63) rfl rfl (l' := #[.val (.int p1), .val (.int p2), .val (.int p3), .val (.int p4), .val (.int (0 : Int32)), .val (.int v7), .val (.int v11), .val (.int v15), .val (.ref b6), .val (.ref b8), .unset]) rfl ?_
      show Steps p.tables e below (T8.setTop (mkF m 65 #[.val (.int p1), .val (.int p2), .val (.int p3), .val (.int p4), .val (.int (0 : Int32)), .val (.int v7), .val (.int v11), .val (.int v15), .val (.ref b6), .val (.ref b8), .unset] [])) _
      refine XS.iload X8.here hx rfl (hb hby at_65) rfl ?_
      show Steps p.tables e below (T8.setTop (mkF m 67 #[.val (.int p1), .val (.int p2), .val (.int p3), .val (.int p4), .val (.int (0 : Int32)), .val (.int v7), .val (.int v11), .val (.int v15), .val (.ref b6), .val (.ref b8), .unset] [(.int (0 : Int32))])) _
      refine XS.ifYes X8.here hx rfl (pc0 := 67) (pc' := 79) rfl (hb hby at_67) rfl ((if0 _ _).trans (flt (by decide : ¬ (0 : Int32) < (0 : Int32))).2.2.2) (by decide) (by decide) ?_
      show Steps p.tables e below (T8.setTop (mkF m 79 #[.val (.int p1), .val (.int p2), .val (.int p3), .val (.int p4), .val (.int (0 : Int32)), .val (.int v7), .val (.int v11), .val (.int v15), .val (.ref b6), .val (.ref b8), .unset] [])) _
      refine XS.iload X8.here hx rfl (hb hby at_79) rfl ?_
      show Steps p.tables e below (T8.setTop (mkF m 81 #[.val (.int p1), .val (.int p2), .val (.int p3), .val (.int p4), .val (.int (0 : Int32)), .val (.int v7), .val (.int v11), .val (.int v15), .val (.ref b6), .val (.ref b8), .unset] [(.int (0 : Int32))])) _
      refine XS.iconst X8.here hx rfl (hb hby at_81) ?_
      show Steps p.tables e below (T8.setTop (mkF m 82 #[.val (.int p1), .val (.int p2), .val (.int p3), .val (.int p4), .val (.int (0 : Int32)), .val (.int v7), .val (.int v11), .val (.int v15), .val (.ref b6), .val (.ref b8), .unset] [(.int (1 : Int32)), (.int (0 : Int32))])) _
      refine XS.icmpYes X8.here hx rfl (pc0 := 82) (pc' := 94) rfl (hb hby at_82) rfl (flt (by decide : ¬ (1 : Int32) < (0 : Int32))).2.2.2 (by decide) (by decide) ?_
      show Steps p.tables e below (T8.setTop (mkF m 94 #[.val (.int p1), .val (.int p2), .val (.int p3), .val (.int p4), .val (.int (0 : Int32)), .val (.int v7), .val (.int v11), .val (.int v15), .val (.ref b6), .val (.ref b8), .unset] [])) _
      refine XS.iload X8.here hx rfl (hb hby at_94) rfl ?_
      show Steps p.tables e below (T8.setTop (mkF m 96 #[.val (.int p1), .val (.int p2), .val (.int p3), .val (.int p4), .val (.int (0 : Int32)), .val (.int v7), .val (.int v11), .val (.int v15), .val (.ref b6), .val (.ref b8), .unset] [(.int (0 : Int32))])) _
      refine XS.iconst X8.here hx rfl (hb hby at_96) ?_
      show Steps p.tables e below (T8.setTop (mkF m 97 #[.val (.int p1), .val (.int p2), .val (.int p3), .val (.int p4), .val (.int (0 : Int32)), .val (.int v7), .val (.int v11), .val (.int v15), .val (.ref b6), .val (.ref b8), .unset] [(.int (2 : Int32)), (.int (0 : Int32))])) _
      refine XS.icmpYes X8.here hx rfl (pc0 := 97) (pc' := 109) rfl (hb hby at_97) rfl (flt (by decide : ¬ (2 : Int32) < (0 : Int32))).2.2.2 (by decide) (by decide) ?_
      show Steps p.tables e below (T8.setTop (mkF m 109 #[.val (.int p1), .val (.int p2), .val (.int p3), .val (.int p4), .val (.int (0 : Int32)), .val (.int v7), .val (.int v11), .val (.int v15), .val (.ref b6), .val (.ref b8), .unset] [])) _
      refine XS.aload X8.here hx rfl (hb hby at_109) rfl rfl ?_
      show Steps p.tables e below (T8.setTop (mkF m 111 #[.val (.int p1), .val (.int p2), .val (.int p3), .val (.int p4), .val (.int (0 : Int32)), .val (.int v7), .val (.int v11), .val (.int v15), .val (.ref b6), .val (.ref b8), .unset] [(.ref b8)])) _
      exact k
    obtain ⟨cq10, kq10, qa10, qb10, qc10⟩ := isOf hZ rfl Ec8
    obtain ⟨_, _, ⟨T10, L10, k10, n10⟩, -, X10, ⟨Lc10, hQ10, l10, y10, z10⟩, st10⟩ := X8.virtualBack hx (y := (⟨"com/example/tally/tally/model/Outcome", "failed", "()Z"⟩ : MethodName)) (z := (⟨"com/example/tally/tally/model/Outcome", "failed", "()Z"⟩ : MethodName)) hown (mvT hZ (hw _ (List.mem_of_getElem? (i := 37) rfl))) (mvT hZ (hw _ (List.mem_of_getElem? (i := 38) rfl))) (notFace_of_selects (args := #[]) (mvT hZ (hw _ (List.mem_of_getElem? (i := 40) rfl)))) (mvT hZ (hw _ (List.mem_of_getElem? (i := 40) rfl))) (mvT hZ (hw _ (List.mem_of_getElem? (i := 39) rfl))) (by decide) (backOf (W := 0) (rmG l Z a0 hw [] b8 (nar .boolean (1 : Int32)) T8.heap n0 Z8 Fb8) hZ (hw _ (List.mem_of_getElem? (i := 41) rfl)) (hw _ (List.mem_of_getElem? (i := 3) rfl)) (by decide) (by decide)) qa10 qc10 (g := (mkF m 111 #[.val (.int p1), .val (.int p2), .val (.int p3), .val (.int p4), .val (.int (0 : Int32)), .val (.int v7), .val (.int v11), .val (.int v15), .val (.ref b6), .val (.ref b8), .unset] [(.ref b8)])) rfl (by rw [hml]; rfl) (Steps.refl _) (argsL := []) (rest := []) (lenOf pd0_1 rfl) rfl (by show 2 * 0 + _ ≤ _; exact Nat.le_of_eq rfl) (hb hby at_111) (fun _ _ => ⟨rfl, rfl, (by decide : 5 + 0 ≤ _), (by decide : 29 + 0 ≤ _)⟩)
    dsimp only [Pt.U, Pt.locs, Pt.cells, Pt.slots] at X10 l10 y10 z10 st10 hQ10
    subst l10 y10 z10
    obtain ⟨rfl, Nq10, e10⟩ := hQ10
    have N10 := Fr.app N8 Nq10
    have pre10 : ∀ t, Steps p.tables e below (T10.setTop (mkF m 114 #[.val (.int p1), .val (.int p2), .val (.int p3), .val (.int p4), .val (.int (0 : Int32)), .val (.int v7), .val (.int v11), .val (.int v15), .val (.ref b6), .val (.ref b8), .unset] [(.int (fnG (nar .boolean (1 : Int32))))])) t → Steps p.tables e below (s₁.setTop (entryFrame m #[(.int p1), (.int p2), (.int p3), (.int p4)] maxLocals)) t := fun t k => pre9 t (st10.trans k)
    have pre11 : ∀ t, Steps p.tables e below (T10.setTop (mkF m 121 #[.val (.int p1), .val (.int p2), .val (.int p3), .val (.int p4), .val (.int (0 : Int32)), .val (.int v7), .val (.int v11), .val (.int v15), .val (.ref b6), .val (.ref b8), .unset] [(.ref b8)])) t → Steps p.tables e below (s₁.setTop (entryFrame m #[(.int p1), (.int p2), (.int p3), (.int p4)] maxLocals)) t := by
      intro t k
      refine pre10 t ?_
      refine XS.ifYes X10.here hx rfl (pc0 := 114) (pc' := 119) rfl (hb hby at_114) rfl ((if0 _ _).trans (feq (by decide : ¬ fnG (nar .boolean (1 : Int32)) = (0 : Int32))).2) (by decide) (by decide) ?_
      show Steps p.tables e below (T10.setTop (mkF m 119 #[.val (.int p1), .val (.int p2), .val (.int p3), .val (.int p4), .val (.int (0 : Int32)), .val (.int v7), .val (.int v11), .val (.int v15), .val (.ref b6), .val (.ref b8), .unset] [])) _
      refine XS.aload X10.here hx rfl (hb hby at_119) rfl rfl ?_
      show Steps p.tables e below (T10.setTop (mkF m 121 #[.val (.int p1), .val (.int p2), .val (.int p3), .val (.int p4), .val (.int (0 : Int32)), .val (.int v7), .val (.int v11), .val (.int v15), .val (.ref b6), .val (.ref b8), .unset] [(.ref b8)])) _
      exact k
    obtain ⟨cq12, kq12, qa12, qb12, qc12⟩ := isOf hZ e10 Ec8
    obtain ⟨_, _, ⟨T12, L12, k12, n12⟩, -, X12, ⟨Lc12, hQ12, l12, y12, z12⟩, st12⟩ := X10.virtualBack hx (y := (⟨"com/example/tally/tally/model/Outcome", "bytes", "()[B"⟩ : MethodName)) (z := (⟨"com/example/tally/tally/model/Outcome", "bytes", "()[B"⟩ : MethodName)) hown (mvT hZ (hw _ (List.mem_of_getElem? (i := 42) rfl))) (mvT hZ (hw _ (List.mem_of_getElem? (i := 43) rfl))) (notFace_of_selects (args := #[]) (mvT hZ (hw _ (List.mem_of_getElem? (i := 45) rfl)))) (mvT hZ (hw _ (List.mem_of_getElem? (i := 45) rfl))) (mvT hZ (hw _ (List.mem_of_getElem? (i := 44) rfl))) (by decide) (backOf (W := 0) (rmB l Z a0 hw [] b8 d8 (0 : Int32) (own_3 (0 : Int32) (0 : Int32) (0 : Int32)) T8.heap n0 Z8 Fa8 V8 Ax8 (own_fit3 rfl rfl rfl) (by decide)) hZ (hw _ (List.mem_of_getElem? (i := 46) rfl)) (hw _ (List.mem_of_getElem? (i := 3) rfl)) (by decide) (by decide)) qa12 qc12 (g := (mkF m 121 #[.val (.int p1), .val (.int p2), .val (.int p3), .val (.int p4), .val (.int (0 : Int32)), .val (.int v7), .val (.int v11), .val (.int v15), .val (.ref b6), .val (.ref b8), .unset] [(.ref b8)])) rfl (by rw [hml]; rfl) (Steps.refl _) (argsL := []) (rest := []) (lenOf pd0_2 rfl) rfl (by show 2 * 0 + _ ≤ _; exact Nat.le_of_eq rfl) (hb hby at_121) (fun _ _ => ⟨rfl, e10, (by decide : 5 + 1 ≤ _), (by decide : 29 + 3 ≤ _)⟩)
    dsimp only [Pt.U, Pt.locs, Pt.cells, Pt.slots] at X12 l12 y12 z12 st12 hQ12
    subst l12 y12 z12
    obtain ⟨b12, rfl, Nq12, Kc12, V12⟩ := hQ12
    have F12_0 := Fa8.keep Kc12 nin0
    have F12_1 := Fb8.keep Kc12 nin0
    have F12_2 := F8_0.keep Kc12
    have F12_3 := Ec8.keep Kc12
    have F12_4 := Ax8.keep Kc12
    have F12_5 := F8_1.keep Kc12 nin0
    have F12_6 := V8.keep Kc12 nin0
    have Z12 : n0 ≤ T12.heap.size := Nat.le_trans Z8 Kc12.1
    have hk12 := Nat.le_trans hk8 Kc12.1
    have N12 := Fr.app N10 Nq12
    have pre12 : ∀ t, Steps p.tables e below (T12.setTop (mkF m 124 #[.val (.int p1), .val (.int p2), .val (.int p3), .val (.int p4), .val (.int (0 : Int32)), .val (.int v7), .val (.int v11), .val (.int v15), .val (.ref b6), .val (.ref b8), .unset] [(.ref b12)])) t → Steps p.tables e below (s₁.setTop (entryFrame m #[(.int p1), (.int p2), (.int p3), (.int p4)] maxLocals)) t := fun t k => pre11 t (st12.trans k)
    have pre13 : ∀ t, Steps p.tables e below (T12.setTop (mkF m 187 #[.val (.int p1), .val (.int p2), .val (.int p3), .val (.int p4), .val (.int (0 : Int32)), .val (.int v7), .val (.int v11), .val (.int v15), .val (.ref b6), .val (.ref b8), .val (.ref b12)] [(.int (1 : Int32))])) t → Steps p.tables e below (s₁.setTop (entryFrame m #[(.int p1), (.int p2), (.int p3), (.int p4)] maxLocals)) t := by
      intro t k
      refine pre12 t ?_
      refine XS.astore X12.here hx rfl (hb hby at_124) rfl rfl (l' := #[.val (.int p1), .val (.int p2), .val (.int p3), .val (.int p4), .val (.int (0 : Int32)), .val (.int v7), .val (.int v11), .val (.int v15), .val (.ref b6), .val (.ref b8), .val (.ref b12)]) rfl ?_
      show Steps p.tables e below (T12.setTop (mkF m 126 #[.val (.int p1), .val (.int p2), .val (.int p3), .val (.int p4), .val (.int (0 : Int32)), .val (.int v7), .val (.int v11), .val (.int v15), .val (.ref b6), .val (.ref b8), .val (.ref b12)] [])) _
      refine XS.aload X12.here hx rfl (hb hby at_126) rfl rfl ?_
      show Steps p.tables e below (T12.setTop (mkF m 128 #[.val (.int p1), .val (.int p2), .val (.int p3), .val (.int p4), .val (.int (0 : Int32)), .val (.int v7), .val (.int v11), .val (.int v15), .val (.ref b6), .val (.ref b8), .val (.ref b12)] [(.ref b12)])) _
      refine own_lenI X12 hx hZ rfl V12 (g := (mkF m 128 #[.val (.int p1), .val (.int p2), .val (.int p3), .val (.int p4), .val (.int (0 : Int32)), .val (.int v7), .val (.int v11), .val (.int v15), .val (.ref b6), .val (.ref b8), .val (.ref b12)] [(.ref b12)])) rfl rfl (hb hby at_128) _ ?_
      show Steps p.tables e below (T12.setTop (mkF m 129 #[.val (.int p1), .val (.int p2), .val (.int p3), .val (.int p4), .val (.int (0 : Int32)), .val (.int v7), .val (.int v11), .val (.int v15), .val (.ref b6), .val (.ref b8), .val (.ref b12)] [(.int (0 : Int32))])) _
      refine XS.iload X12.here hx rfl (hb hby at_129) rfl ?_
      show Steps p.tables e below (T12.setTop (mkF m 131 #[.val (.int p1), .val (.int p2), .val (.int p3), .val (.int p4), .val (.int (0 : Int32)), .val (.int v7), .val (.int v11), .val (.int v15), .val (.ref b6), .val (.ref b8), .val (.ref b12)] [(.int (0 : Int32)), (.int (0 : Int32))])) _
      refine XS.icmpYes X12.here hx rfl (pc0 := 131) (pc' := 136) rfl (hb hby at_131) rfl (teq (by decide : (0 : Int32) = (0 : Int32))).1 (by decide) (by decide) ?_
      show Steps p.tables e below (T12.setTop (mkF m 136 #[.val (.int p1), .val (.int p2), .val (.int p3), .val (.int p4), .val (.int (0 : Int32)), .val (.int v7), .val (.int v11), .val (.int v15), .val (.ref b6), .val (.ref b8), .val (.ref b12)] [])) _
      refine XS.iload X12.here hx rfl (hb hby at_136) rfl ?_
      show Steps p.tables e below (T12.setTop (mkF m 138 #[.val (.int p1), .val (.int p2), .val (.int p3), .val (.int p4), .val (.int (0 : Int32)), .val (.int v7), .val (.int v11), .val (.int v15), .val (.ref b6), .val (.ref b8), .val (.ref b12)] [(.int (0 : Int32))])) _
      refine XS.ifYes X12.here hx rfl (pc0 := 138) (pc' := 152) rfl (hb hby at_138) rfl ((if0 _ _).trans (flt (by decide : ¬ (0 : Int32) < (0 : Int32))).2.2.2) (by decide) (by decide) ?_
      show Steps p.tables e below (T12.setTop (mkF m 152 #[.val (.int p1), .val (.int p2), .val (.int p3), .val (.int p4), .val (.int (0 : Int32)), .val (.int v7), .val (.int v11), .val (.int v15), .val (.ref b6), .val (.ref b8), .val (.ref b12)] [])) _
      refine XS.iload X12.here hx rfl (hb hby at_152) rfl ?_
      show Steps p.tables e below (T12.setTop (mkF m 154 #[.val (.int p1), .val (.int p2), .val (.int p3), .val (.int p4), .val (.int (0 : Int32)), .val (.int v7), .val (.int v11), .val (.int v15), .val (.ref b6), .val (.ref b8), .val (.ref b12)] [(.int (0 : Int32))])) _
      refine XS.iconst X12.here hx rfl (hb hby at_154) ?_
      show Steps p.tables e below (T12.setTop (mkF m 155 #[.val (.int p1), .val (.int p2), .val (.int p3), .val (.int p4), .val (.int (0 : Int32)), .val (.int v7), .val (.int v11), .val (.int v15), .val (.ref b6), .val (.ref b8), .val (.ref b12)] [(.int (1 : Int32)), (.int (0 : Int32))])) _
      refine XS.icmpYes X12.here hx rfl (pc0 := 155) (pc' := 169) rfl (hb hby at_155) rfl (flt (by decide : ¬ (1 : Int32) < (0 : Int32))).2.2.2 (by decide) (by decide) ?_
      show Steps p.tables e below (T12.setTop (mkF m 169 #[.val (.int p1), .val (.int p2), .val (.int p3), .val (.int p4), .val (.int (0 : Int32)), .val (.int v7), .val (.int v11), .val (.int v15), .val (.ref b6), .val (.ref b8), .val (.ref b12)] [])) _
      refine XS.iload X12.here hx rfl (hb hby at_169) rfl ?_
      show Steps p.tables e below (T12.setTop (mkF m 171 #[.val (.int p1), .val (.int p2), .val (.int p3), .val (.int p4), .val (.int (0 : Int32)), .val (.int v7), .val (.int v11), .val (.int v15), .val (.ref b6), .val (.ref b8), .val (.ref b12)] [(.int (0 : Int32))])) _
      refine XS.iconst X12.here hx rfl (hb hby at_171) ?_
      show Steps p.tables e below (T12.setTop (mkF m 172 #[.val (.int p1), .val (.int p2), .val (.int p3), .val (.int p4), .val (.int (0 : Int32)), .val (.int v7), .val (.int v11), .val (.int v15), .val (.ref b6), .val (.ref b8), .val (.ref b12)] [(.int (2 : Int32)), (.int (0 : Int32))])) _
      refine XS.icmpYes X12.here hx rfl (pc0 := 172) (pc' := 186) rfl (hb hby at_172) rfl (flt (by decide : ¬ (2 : Int32) < (0 : Int32))).2.2.2 (by decide) (by decide) ?_
      show Steps p.tables e below (T12.setTop (mkF m 186 #[.val (.int p1), .val (.int p2), .val (.int p3), .val (.int p4), .val (.int (0 : Int32)), .val (.int v7), .val (.int v11), .val (.int v15), .val (.ref b6), .val (.ref b8), .val (.ref b12)] [])) _
      refine XS.iconst X12.here hx rfl (hb hby at_186) ?_
      show Steps p.tables e below (T12.setTop (mkF m 187 #[.val (.int p1), .val (.int p2), .val (.int p3), .val (.int p4), .val (.int (0 : Int32)), .val (.int v7), .val (.int v11), .val (.int v15), .val (.ref b6), .val (.ref b8), .val (.ref b12)] [(.int (1 : Int32))])) _
      exact k
    obtain ⟨fs, hr, hrun, hended, hREW⟩ := Stand.leaveW (s := s) (vm₁ := T8.vm) X12 hS8 hk12 (v := some (.int (nar .boolean (1 : Int32)))) (fun h => by rw [Bd.returns] at h; cases h)
    refine ⟨_, _, pre13 _ ?_, hrun, hended, _, _, rfl, ?_, hREW.1, hREW.2.1, hREW.2.2.1, hREW.2.2.2.mono (by decide) (by decide)⟩
    · show Steps p.tables e below (T12.setTop (mkF m 187 #[.val (.int p1), .val (.int p2), .val (.int p3), .val (.int p4), .val (.int (0 : Int32)), .val (.int v7), .val (.int v11), .val (.int v15), .val (.ref b6), .val (.ref b8), .val (.ref b12)] [(.int (1 : Int32))])) _
      exact retN X12 hx (t := .boolean) Bd.returns (by simp) (hb hby at_187) hr
    · show Q0 Z p1 p2 p3 p4 h0 n0 _ T12.heap _
      exact ⟨rfl, N12⟩
  · by_cases hM1 : v3 = (1 : Int32)
    · have preM := pre4
      rw [hM1] at preM
      have pre14 : ∀ t, Steps p.tables e below (s₁.setTop (mkF m 19 #[.val (.int p1), .val (.int p2), .val (.int p3), .val (.int p4), .val (.int (1 : Int32)), .val (.int v7), .val (.int v11), .val (.int v15), .unset, .unset, .unset] [(.int (1 : Int32))])) t → Steps p.tables e below (s₁.setTop (entryFrame m #[(.int p1), (.int p2), (.int p3), (.int p4)] maxLocals)) t := by
        intro t k
        refine preM t ?_
        refine XS.iload X0.here hx rfl (hb hby at_17) rfl ?_
        show Steps p.tables e below (s₁.setTop (mkF m 19 #[.val (.int p1), .val (.int p2), .val (.int p3), .val (.int p4), .val (.int (1 : Int32)), .val (.int v7), .val (.int v11), .val (.int v15), .unset, .unset, .unset] [(.int (1 : Int32))])) _
        exact k
      obtain ⟨T15, h15, k15, X15, e15, E15, A15, Ax15, st15⟩ := newPE X0 hx hZ (hw _ (List.mem_of_getElem? (i := 0) rfl)) e0 (g := (mkF m 19 #[.val (.int p1), .val (.int p2), .val (.int p3), .val (.int p4), .val (.int (1 : Int32)), .val (.int v7), .val (.int v11), .val (.int v15), .unset, .unset, .unset] [(.int (1 : Int32))])) rfl (hb hby at_19) rfl (by decide) (cap := 1) (by decide) (by decide) (by decide) (by decide) (ad := "[B") (by decide)
      obtain ⟨b15, g15⟩ : ∃ z, z = h0.size := ⟨_, rfl⟩
      rw [← g15] at A15 st15 Ax15
      have gg15 : n0 ≤ b15 := Nat.le_trans Z0 (Nat.le_of_eq g15.symm)
      have Z15 : n0 ≤ h15.size := Nat.le_trans Z0 E15.1
      have hk15 := Nat.le_trans hk0 E15.1
      have V15 : own_AI Z h15 b15 .byte (1 : Int32) (fun _ => 0) := own_AI.new A15 (by decide) rfl
      have V15' := own_AI.z3 V15
      have pre15 : ∀ t, Steps p.tables e below (T15.setTop (mkF m 21 #[.val (.int p1), .val (.int p2), .val (.int p3), .val (.int p4), .val (.int (1 : Int32)), .val (.int v7), .val (.int v11), .val (.int v15), .unset, .unset, .unset] [(.ref b15)])) t → Steps p.tables e below (s₁.setTop (entryFrame m #[(.int p1), (.int p2), (.int p3), (.int p4)] maxLocals)) t := fun t k => pre14 t (st15 _ k)
      have pre16 : ∀ t, Steps p.tables e below (T15.setTop (mkF m 33 #[.val (.int p1), .val (.int p2), .val (.int p3), .val (.int p4), .val (.int (1 : Int32)), .val (.int v7), .val (.int v11), .val (.int v15), .val (.ref b15), .unset, .unset] [(.int v7), (.int (0 : Int32)), (.ref b15)])) t → Steps p.tables e below (s₁.setTop (entryFrame m #[(.int p1), (.int p2), (.int p3), (.int p4)] maxLocals)) t := by
        intro t k
        refine pre15 t ?_
        refine XS.astore X15.here hx rfl (hb hby at_21) rfl rfl (l' := #[.val (.int p1), .val (.int p2), .val (.int p3), .val (.int p4), .val (.int (1 : Int32)), .val (.int v7), .val (.int v11), .val (.int v15), .val (.ref b15), .unset, .unset]) rfl ?_
        show Steps p.tables e below (T15.setTop (mkF m 23 #[.val (.int p1), .val (.int p2), .val (.int p3), .val (.int p4), .val (.int (1 : Int32)), .val (.int v7), .val (.int v11), .val (.int v15), .val (.ref b15), .unset, .unset] [])) _
        refine XS.iload X15.here hx rfl (hb hby at_23) rfl ?_
        show Steps p.tables e below (T15.setTop (mkF m 25 #[.val (.int p1), .val (.int p2), .val (.int p3), .val (.int p4), .val (.int (1 : Int32)), .val (.int v7), .val (.int v11), .val (.int v15), .val (.ref b15), .unset, .unset] [(.int (1 : Int32))])) _
        refine XS.ifNo X15.here hx rfl (hb hby at_25) rfl ((if0 _ _).trans (tlt (by decide : (0 : Int32) < (1 : Int32))).2.2.2) ?_
        show Steps p.tables e below (T15.setTop (mkF m 28 #[.val (.int p1), .val (.int p2), .val (.int p3), .val (.int p4), .val (.int (1 : Int32)), .val (.int v7), .val (.int v11), .val (.int v15), .val (.ref b15), .unset, .unset] [])) _
        refine XS.aload X15.here hx rfl (hb hby at_28) rfl rfl ?_
        show Steps p.tables e below (T15.setTop (mkF m 30 #[.val (.int p1), .val (.int p2), .val (.int p3), .val (.int p4), .val (.int (1 : Int32)), .val (.int v7), .val (.int v11), .val (.int v15), .val (.ref b15), .unset, .unset] [(.ref b15)])) _
        refine XS.iconst X15.here hx rfl (hb hby at_30) ?_
        show Steps p.tables e below (T15.setTop (mkF m 31 #[.val (.int p1), .val (.int p2), .val (.int p3), .val (.int p4), .val (.int (1 : Int32)), .val (.int v7), .val (.int v11), .val (.int v15), .val (.ref b15), .unset, .unset] [(.int (0 : Int32)), (.ref b15)])) _
        refine XS.iload X15.here hx rfl (hb hby at_31) rfl ?_
        show Steps p.tables e below (T15.setTop (mkF m 33 #[.val (.int p1), .val (.int p2), .val (.int p3), .val (.int p4), .val (.int (1 : Int32)), .val (.int v7), .val (.int v11), .val (.int v15), .val (.ref b15), .unset, .unset] [(.int v7), (.int (0 : Int32)), (.ref b15)])) _
        exact k
      obtain ⟨T17, h17, X17, e17, W17, V17, st17⟩ := own_stB X15 hx hZ e15 V15' (by decide) (by decide) (g := (mkF m 33 #[.val (.int p1), .val (.int p2), .val (.int p3), .val (.int p4), .val (.int (1 : Int32)), .val (.int v7), .val (.int v11), .val (.int v15), .val (.ref b15), .unset, .unset] [(.int v7), (.int (0 : Int32)), (.ref b15)])) rfl rfl (hb hby at_33)
      have F17_0 := Ax15.wr W17
      have F17_1 := V17
      have Z17 : n0 ≤ h17.size := Nat.le_trans Z15 (Keep.of_wr W17).1
      have hk17 := Nat.le_trans hk15 (Keep.of_wr W17).1
      have N17 := Fr.snoc X17 N0 gg15
      have U17 : own_AI Z h17 b15 .byte (1 : Int32) (own_3 (nar .byte v7) (0 : Int32) (0 : Int32)) := own_AI.t0 (by decide) F17_1
      have pre17 : ∀ t, Steps p.tables e below (T17.setTop (mkF m 34 #[.val (.int p1), .val (.int p2), .val (.int p3), .val (.int p4), .val (.int (1 : Int32)), .val (.int v7), .val (.int v11), .val (.int v15), .val (.ref b15), .unset, .unset] [])) t → Steps p.tables e below (s₁.setTop (entryFrame m #[(.int p1), (.int p2), (.int p3), (.int p4)] maxLocals)) t := fun t k => pre16 t (st17 _ k)
      have pre18 : ∀ t, Steps p.tables e below (T17.setTop (mkF m 60 #[.val (.int p1), .val (.int p2), .val (.int p3), .val (.int p4), .val (.int (1 : Int32)), .val (.int v7), .val (.int v11), .val (.int v15), .val (.ref b15), .unset, .unset] [(.ref b15)])) t → Steps p.tables e below (s₁.setTop (entryFrame m #[(.int p1), (.int p2), (.int p3), (.int p4)] maxLocals)) t := by
        intro t k
        refine pre17 t ?_
        refine XS.iload X17.here hx rfl (hb hby at_34) rfl ?_
        show Steps p.tables e below (T17.setTop (mkF m 36 #[.val (.int p1), .val (.int p2), .val (.int p3), .val (.int p4), .val (.int (1 : Int32)), .val (.int v7), .val (.int v11), .val (.int v15), .val (.ref b15), .unset, .unset] [(.int (1 : Int32))])) _
        refine XS.iconst X17.here hx rfl (hb hby at_36) ?_
        show Steps p.tables e below (T17.setTop (mkF m 37 #[.val (.int p1), .val (.int p2), .val (.int p3), .val (.int p4), .val (.int (1 : Int32)), .val (.int v7), .val (.int v11), .val (.int v15), .val (.ref b15), .unset, .unset] [(.int (1 : Int32)), (.int (1 : Int32))])) _
        refine XS.icmpYes X17.here hx rfl (pc0 := 37) (pc' := 46) rfl (hb hby at_37) rfl (flt (by decide : ¬ (1 : Int32) < (1 : Int32))).2.2.2 (by decide) (by decide) ?_
        show Steps p.tables e below (T17.setTop (mkF m 46 #[.val (.int p1), .val (.int p2), .val (.int p3), .val (.int p4), .val (.int (1 : Int32)), .val (.int v7), .val (.int v11), .val (.int v15), .val (.ref b15), .unset, .unset] [])) _
        refine XS.iload X17.here hx rfl (hb hby at_46) rfl ?_
        show Steps p.tables e below (T17.setTop (mkF m 48 #[.val (.int p1), .val (.int p2), .val (.int p3), .val (.int p4), .val (.int (1 : Int32)), .val (.int v7), .val (.int v11), .val (.int v15), .val (.ref b15), .unset, .unset] [(.int (1 : Int32))])) _
        refine XS.iconst X17.here hx rfl (hb hby at_48) ?_
        show Steps p.tables e below (T17.setTop (mkF m 49 #[.val (.int p1), .val (.int p2), .val (.int p3), .val (.int p4), .val (.int (1 : Int32)), .val (.int v7), .val (.int v11), .val (.int v15), .val (.ref b15), .unset, .unset] [(.int (2 : Int32)), (.int (1 : Int32))])) _
        refine XS.icmpYes X17.here hx rfl (pc0 := 49) (pc' := 58) rfl (hb hby at_49) rfl (flt (by decide : ¬ (2 : Int32) < (1 : Int32))).2.2.2 (by decide) (by decide) ?_
        show Steps p.tables e below (T17.setTop (mkF m 58 #[.val (.int p1), .val (.int p2), .val (.int p3), .val (.int p4), .val (.int (1 : Int32)), .val (.int v7), .val (.int v11), .val (.int v15), .val (.ref b15), .unset, .unset] [])) _
        refine XS.aload X17.here hx rfl (hb hby at_58) rfl rfl ?_
        show Steps p.tables e below (T17.setTop (mkF m 60 #[.val (.int p1), .val (.int p2), .val (.int p3), .val (.int p4), .val (.int (1 : Int32)), .val (.int v7), .val (.int v11), .val (.int v15), .val (.ref b15), .unset, .unset] [(.ref b15)])) _
        exact k
      obtain ⟨_, _, ⟨T19, L19, k19, n19⟩, -, X19, hs19, hg19, ⟨Lc19, hQ19, l19, y19, z19⟩, st19⟩ := callSS X17 hx (y := (⟨"com/example/tally/tally/model/Outcome", "failure", "([B)Lcom/example/tally/tally/model/Outcome;"⟩ : MethodName)) hown (mvT hZ (hw _ (List.mem_of_getElem? (i := 1) rfl))) (mvT hZ (hw _ (List.mem_of_getElem? (i := 2) rfl))) (mvT hZ (hw _ (List.mem_of_getElem? (i := 3) rfl))) (mvT hZ (hw _ (List.mem_of_getElem? (i := 4) rfl))) (by decide) (backOfS (W := 0) (rmM l Z a0 hw [] b15 (1 : Int32) (own_3 (nar .byte v7) (0 : Int32) (0 : Int32)) h17 n0 Z17 U17 F17_0 (own_fit3 (fits_nar_byte _) rfl rfl) (by decide)) hZ (hw _ (List.mem_of_getElem? (i := 4) rfl)) (hw _ (List.mem_of_getElem? (i := 3) rfl)) (by decide) (by decide)) (g := (mkF m 60 #[.val (.int p1), .val (.int p2), .val (.int p3), .val (.int p4), .val (.int (1 : Int32)), .val (.int v7), .val (.int v11), .val (.int v15), .val (.ref b15), .unset, .unset] [(.ref b15)])) rfl (by rw [hml]; rfl) (argsL := [(.ref b15)]) (rest := []) (lenOf pd0_0 rfl) rfl (by show 2 * 0 + _ ≤ _; exact Nat.le_of_eq rfl) (hb hby at_60) (fun _ _ => ⟨rfl, e17, (by decide : 1 + 4 ≤ _), (by decide : 1 + 29 ≤ _)⟩)
      dsimp only [Pt.U, Pt.locs, Pt.cells, Pt.slots] at X19 l19 y19 z19 st19 hQ19 hs19 hg19
      subst l19 y19 z19
      obtain ⟨X19, hS19, hZ, hown⟩ := rebS (s := s) (vm0 := s.vm) hS0 (by rw [e17]; exact hk17) X19 hs19 hg19 hZ hown
      have hk19 : T19.heap.size ≤ T19.heap.size := Nat.le_refl _
      obtain ⟨b19, d19, rfl, Nq19, Kc19, gg19, sd19, Ec19, Fa19, Fb19, V19, Ax19, sb19⟩ := hQ19
      have ne19 : b15 ≠ d19 := Nat.ne_of_lt (Nat.lt_of_lt_of_le F17_0.lt sd19)
      have nf19 : b15 ≠ b19 := Nat.ne_of_lt (Nat.lt_of_lt_of_le F17_0.lt sb19)
      have F19_0 := F17_0.keep Kc19
      have F19_1 := U17.keep Kc19 nin0
      have Z19 : n0 ≤ T19.heap.size := Nat.le_trans Z17 Kc19.1
      have N19 := Fr.app N17 Nq19
      have pre19 : ∀ t, Steps p.tables e below (T19.setTop (mkF m 63 #[.val (.int p1), .val (.int p2), .val (.int p3), .val (.int p4), .val (.int (1 : Int32)), .val (.int v7), .val (.int v11), .val (.int v15), .val (.ref b15), .unset, .unset] [(.ref b19)])) t → Steps p.tables e below (s₁.setTop (entryFrame m #[(.int p1), (.int p2), (.int p3), (.int p4)] maxLocals)) t := fun t k => pre18 t (st19.trans k)
      have pre20 : ∀ t, Steps p.tables e below (T19.setTop (mkF m 78 #[.val (.int p1), .val (.int p2), .val (.int p3), .val (.int p4), .val (.int (1 : Int32)), .val (.int v7), .val (.int v11), .val (.int v15), .val (.ref b15), .val (.ref b19), .unset] [(.int ((v7 ^^^ (-1 : Int32)).toInt8.toInt32)), (.int (0 : Int32)), (.ref b15)])) t → Steps p.tables e below (s₁.setTop (entryFrame m #[(.int p1), (.int p2), (.int p3), (.int p4)] maxLocals)) t := by
        intro t k
        refine pre19 t ?_
        refine XS.astore X19.here hx rfl (hb hby at_63) rfl rfl (l' := #[.val (.int p1), .val (.int p2), .val (.int p3), .val (.int p4), .val (.int (1 : Int32)), .val (.int v7), .val (.int v11), .val (.int v15), .val (.ref b15), .val (.ref b19), .unset]) rfl ?_
        show Steps p.tables e below (T19.setTop (mkF m 65 #[.val (.int p1), .val (.int p2), .val (.int p3), .val (.int p4), .val (.int (1 : Int32)), .val (.int v7), .val (.int v11), .val (.int v15), .val (.ref b15), .val (.ref b19), .unset] [])) _
        refine XS.iload X19.here hx rfl (hb hby at_65) rfl ?_
        show Steps p.tables e below (T19.setTop (mkF m 67 #[.val (.int p1), .val (.int p2), .val (.int p3), .val (.int p4), .val (.int (1 : Int32)), .val (.int v7), .val (.int v11), .val (.int v15), .val (.ref b15), .val (.ref b19), .unset] [(.int (1 : Int32))])) _
        refine XS.ifNo X19.here hx rfl (hb hby at_67) rfl ((if0 _ _).trans (tlt (by decide : (0 : Int32) < (1 : Int32))).2.2.2) ?_
        show Steps p.tables e below (T19.setTop (mkF m 70 #[.val (.int p1), .val (.int p2), .val (.int p3), .val (.int p4), .val (.int (1 : Int32)), .val (.int v7), .val (.int v11), .val (.int v15), .val (.ref b15), .val (.ref b19), .unset] [])) _
        refine XS.aload X19.here hx rfl (hb hby at_70) rfl rfl ?_
        show Steps p.tables e below (T19.setTop (mkF m 72 #[.val (.int p1), .val (.int p2), .val (.int p3), .val (.int p4), .val (.int (1 : Int32)), .val (.int v7), .val (.int v11), .val (.int v15), .val (.ref b15), .val (.ref b19), .unset] [(.ref b15)])) _
        refine XS.iconst X19.here hx rfl (hb hby at_72) ?_
        show Steps p.tables e below (T19.setTop (mkF m 73 #[.val (.int p1), .val (.int p2), .val (.int p3), .val (.int p4), .val (.int (1 : Int32)), .val (.int v7), .val (.int v11), .val (.int v15), .val (.ref b15), .val (.ref b19), .unset] [(.int (0 : Int32)), (.ref b15)])) _
        refine XS.iload X19.here hx rfl (hb hby at_73) rfl ?_
        show Steps p.tables e below (T19.setTop (mkF m 75 #[.val (.int p1), .val (.int p2), .val (.int p3), .val (.int p4), .val (.int (1 : Int32)), .val (.int v7), .val (.int v11), .val (.int v15), .val (.ref b15), .val (.ref b19), .unset] [(.int v7), (.int (0 : Int32)), (.ref b15)])) _
        refine XS.iconst X19.here hx rfl (hb hby at_75) ?_
        show Steps p.tables e below (T19.setTop (mkF m 76 #[.val (.int p1), .val (.int p2), .val (.int p3), .val (.int p4), .val (.int (1 : Int32)), .val (.int v7), .val (.int v11), .val (.int v15), .val (.ref b15), .val (.ref b19), .unset] [(.int (-1 : Int32)), (.int v7), (.int (0 : Int32)), (.ref b15)])) _
        refine XS.ixor X19.here hx rfl (hb hby at_76) rfl ?_
        show Steps p.tables e below (T19.setTop (mkF m 77 #[.val (.int p1), .val (.int p2), .val (.int p3), .val (.int p4), .val (.int (1 : Int32)), .val (.int v7), .val (.int v11), .val (.int v15), .val (.ref b15), .val (.ref b19), .unset] [(.int (v7 ^^^ (-1 : Int32))), (.int (0 : Int32)), (.ref b15)])) _
        refine XS.i2b X19.here hx rfl (hb hby at_77) rfl ?_
        show Steps p.tables e below (T19.setTop (mkF m 78 #[.val (.int p1), .val (.int p2), .val (.int p3), .val (.int p4), .val (.int (1 : Int32)), .val (.int v7), .val (.int v11), .val (.int v15), .val (.ref b15), .val (.ref b19), .unset] [(.int ((v7 ^^^ (-1 : Int32)).toInt8.toInt32)), (.int (0 : Int32)), (.ref b15)])) _
        exact k
      obtain ⟨T21, h21, X21, e21, W21, V21, st21⟩ := own_stB X19 hx hZ rfl F19_1 (by decide) (by decide) (g := (mkF m 78 #[.val (.int p1), .val (.int p2), .val (.int p3), .val (.int p4), .val (.int (1 : Int32)), .val (.int v7), .val (.int v11), .val (.int v15), .val (.ref b15), .val (.ref b19), .unset] [(.int ((v7 ^^^ (-1 : Int32)).toInt8.toInt32)), (.int (0 : Int32)), (.ref b15)])) rfl rfl (hb hby at_78)
      have F21_0 := Fa19.other W21 (Or.inl (Ne.symm nf19))
      have F21_1 := Fb19.other W21 (Or.inl (Ne.symm nf19))
      have F21_2 := F19_0.wr W21
      have F21_3 := Ec19.wr W21
      have F21_4 := Ax19.wr W21
      have F21_5 := V21
      have F21_6 := V19.other W21 (Ne.symm ne19)
      have Z21 : n0 ≤ h21.size := Nat.le_trans Z19 (Keep.of_wr W21).1
      have hk21 := Nat.le_trans hk19 (Keep.of_wr W21).1
      have N21 := Fr.snoc X21 N19 gg15
      have U21 : own_AI Z h21 b15 .byte (1 : Int32) (own_3 (nar .byte ((v7 ^^^ (-1 : Int32)).toInt8.toInt32)) (0 : Int32) (0 : Int32)) := own_AI.t0 (by decide) F21_5
      have pre21 : ∀ t, Steps p.tables e below (T21.setTop (mkF m 79 #[.val (.int p1), .val (.int p2), .val (.int p3), .val (.int p4), .val (.int (1 : Int32)), .val (.int v7), .val (.int v11), .val (.int v15), .val (.ref b15), .val (.ref b19), .unset] [])) t → Steps p.tables e below (s₁.setTop (entryFrame m #[(.int p1), (.int p2), (.int p3), (.int p4)] maxLocals)) t := fun t k => pre20 t (st21 _ k)
      have pre22 : ∀ t, Steps p.tables e below (T21.setTop (mkF m 111 #[.val (.int p1), .val (.int p2), .val (.int p3), .val (.int p4), .val (.int (1 : Int32)), .val (.int v7), .val (.int v11), .val (.int v15), .val (.ref b15), .val (.ref b19), .unset] [(.ref b19)])) t → Steps p.tables e below (s₁.setTop (entryFrame m #[(.int p1), (.int p2), (.int p3), (.int p4)] maxLocals)) t := by
        intro t k
        refine pre21 t ?_
        refine XS.iload X21.here hx rfl (hb hby at_79) rfl ?_
        show Steps p.tables e below (T21.setTop (mkF m 81 #[.val (.int p1), .val (.int p2), .val (.int p3), .val (.int p4), .val (.int (1 : Int32)), .val (.int v7), .val (.int v11), .val (.int v15), .val (.ref b15), .val (.ref b19), .unset] [(.int (1 : Int32))])) _
        refine XS.iconst X21.here hx rfl (hb hby at_81) ?_
        show Steps p.tables e below (T21.setTop (mkF m 82 #[.val (.int p1), .val (.int p2), .val (.int p3), .val (.int p4), .val (.int (1 : Int32)), .val (.int v7), .val (.int v11), .val (.int v15), .val (.ref b15), .val (.ref b19), .unset] [(.int (1 : Int32)), (.int (1 : Int32))])) _
        refine XS.icmpYes X21.here hx rfl (pc0 := 82) (pc' := 94) rfl (hb hby at_82) rfl (flt (by decide : ¬ (1 : Int32) < (1 : Int32))).2.2.2 (by decide) (by decide) ?_
        show Steps p.tables e below (T21.setTop (mkF m 94 #[.val (.int p1), .val (.int p2), .val (.int p3), .val (.int p4), .val (.int (1 : Int32)), .val (.int v7), .val (.int v11), .val (.int v15), .val (.ref b15), .val (.ref b19), .unset] [])) _
        refine XS.iload X21.here hx rfl (hb hby at_94) rfl ?_
        show Steps p.tables e below (T21.setTop (mkF m 96 #[.val (.int p1), .val (.int p2), .val (.int p3), .val (.int p4), .val (.int (1 : Int32)), .val (.int v7), .val (.int v11), .val (.int v15), .val (.ref b15), .val (.ref b19), .unset] [(.int (1 : Int32))])) _
        refine XS.iconst X21.here hx rfl (hb hby at_96) ?_
        show Steps p.tables e below (T21.setTop (mkF m 97 #[.val (.int p1), .val (.int p2), .val (.int p3), .val (.int p4), .val (.int (1 : Int32)), .val (.int v7), .val (.int v11), .val (.int v15), .val (.ref b15), .val (.ref b19), .unset] [(.int (2 : Int32)), (.int (1 : Int32))])) _
        refine XS.icmpYes X21.here hx rfl (pc0 := 97) (pc' := 109) rfl (hb hby at_97) rfl (flt (by decide : ¬ (2 : Int32) < (1 : Int32))).2.2.2 (by decide) (by decide) ?_
        show Steps p.tables e below (T21.setTop (mkF m 109 #[.val (.int p1), .val (.int p2), .val (.int p3), .val (.int p4), .val (.int (1 : Int32)), .val (.int v7), .val (.int v11), .val (.int v15), .val (.ref b15), .val (.ref b19), .unset] [])) _
        refine XS.aload X21.here hx rfl (hb hby at_109) rfl rfl ?_
        show Steps p.tables e below (T21.setTop (mkF m 111 #[.val (.int p1), .val (.int p2), .val (.int p3), .val (.int p4), .val (.int (1 : Int32)), .val (.int v7), .val (.int v11), .val (.int v15), .val (.ref b15), .val (.ref b19), .unset] [(.ref b19)])) _
        exact k
      obtain ⟨cq23, kq23, qa23, qb23, qc23⟩ := isOf hZ e21 F21_3
      obtain ⟨_, _, ⟨T23, L23, k23, n23⟩, -, X23, ⟨Lc23, hQ23, l23, y23, z23⟩, st23⟩ := X21.virtualBack hx (y := (⟨"com/example/tally/tally/model/Outcome", "failed", "()Z"⟩ : MethodName)) (z := (⟨"com/example/tally/tally/model/Outcome", "failed", "()Z"⟩ : MethodName)) hown (mvT hZ (hw _ (List.mem_of_getElem? (i := 37) rfl))) (mvT hZ (hw _ (List.mem_of_getElem? (i := 38) rfl))) (notFace_of_selects (args := #[]) (mvT hZ (hw _ (List.mem_of_getElem? (i := 40) rfl)))) (mvT hZ (hw _ (List.mem_of_getElem? (i := 40) rfl))) (mvT hZ (hw _ (List.mem_of_getElem? (i := 39) rfl))) (by decide) (backOf (W := 0) (rmG l Z a0 hw [] b19 (nar .boolean (1 : Int32)) h21 n0 Z21 F21_1) hZ (hw _ (List.mem_of_getElem? (i := 41) rfl)) (hw _ (List.mem_of_getElem? (i := 3) rfl)) (by decide) (by decide)) qa23 qc23 (g := (mkF m 111 #[.val (.int p1), .val (.int p2), .val (.int p3), .val (.int p4), .val (.int (1 : Int32)), .val (.int v7), .val (.int v11), .val (.int v15), .val (.ref b15), .val (.ref b19), .unset] [(.ref b19)])) rfl (by rw [hml]; rfl) (Steps.refl _) (argsL := []) (rest := []) (lenOf pd0_1 rfl) rfl (by show 2 * 0 + _ ≤ _; exact Nat.le_of_eq rfl) (hb hby at_111) (fun _ _ => ⟨rfl, e21, (by decide : 5 + 0 ≤ _), (by decide : 30 + 0 ≤ _)⟩)
      dsimp only [Pt.U, Pt.locs, Pt.cells, Pt.slots] at X23 l23 y23 z23 st23 hQ23
      subst l23 y23 z23
      obtain ⟨rfl, Nq23, e23⟩ := hQ23
      have N23 := Fr.app N21 Nq23
      have pre23 : ∀ t, Steps p.tables e below (T23.setTop (mkF m 114 #[.val (.int p1), .val (.int p2), .val (.int p3), .val (.int p4), .val (.int (1 : Int32)), .val (.int v7), .val (.int v11), .val (.int v15), .val (.ref b15), .val (.ref b19), .unset] [(.int (fnG (nar .boolean (1 : Int32))))])) t → Steps p.tables e below (s₁.setTop (entryFrame m #[(.int p1), (.int p2), (.int p3), (.int p4)] maxLocals)) t := fun t k => pre22 t (st23.trans k)
      have pre24 : ∀ t, Steps p.tables e below (T23.setTop (mkF m 121 #[.val (.int p1), .val (.int p2), .val (.int p3), .val (.int p4), .val (.int (1 : Int32)), .val (.int v7), .val (.int v11), .val (.int v15), .val (.ref b15), .val (.ref b19), .unset] [(.ref b19)])) t → Steps p.tables e below (s₁.setTop (entryFrame m #[(.int p1), (.int p2), (.int p3), (.int p4)] maxLocals)) t := by
        intro t k
        refine pre23 t ?_
        refine XS.ifYes X23.here hx rfl (pc0 := 114) (pc' := 119) rfl (hb hby at_114) rfl ((if0 _ _).trans (feq (by decide : ¬ fnG (nar .boolean (1 : Int32)) = (0 : Int32))).2) (by decide) (by decide) ?_
        show Steps p.tables e below (T23.setTop (mkF m 119 #[.val (.int p1), .val (.int p2), .val (.int p3), .val (.int p4), .val (.int (1 : Int32)), .val (.int v7), .val (.int v11), .val (.int v15), .val (.ref b15), .val (.ref b19), .unset] [])) _
        refine XS.aload X23.here hx rfl (hb hby at_119) rfl rfl ?_
        show Steps p.tables e below (T23.setTop (mkF m 121 #[.val (.int p1), .val (.int p2), .val (.int p3), .val (.int p4), .val (.int (1 : Int32)), .val (.int v7), .val (.int v11), .val (.int v15), .val (.ref b15), .val (.ref b19), .unset] [(.ref b19)])) _
        exact k
      obtain ⟨cq25, kq25, qa25, qb25, qc25⟩ := isOf hZ e23 F21_3
      obtain ⟨_, _, ⟨T25, L25, k25, n25⟩, -, X25, ⟨Lc25, hQ25, l25, y25, z25⟩, st25⟩ := X23.virtualBack hx (y := (⟨"com/example/tally/tally/model/Outcome", "bytes", "()[B"⟩ : MethodName)) (z := (⟨"com/example/tally/tally/model/Outcome", "bytes", "()[B"⟩ : MethodName)) hown (mvT hZ (hw _ (List.mem_of_getElem? (i := 42) rfl))) (mvT hZ (hw _ (List.mem_of_getElem? (i := 43) rfl))) (notFace_of_selects (args := #[]) (mvT hZ (hw _ (List.mem_of_getElem? (i := 45) rfl)))) (mvT hZ (hw _ (List.mem_of_getElem? (i := 45) rfl))) (mvT hZ (hw _ (List.mem_of_getElem? (i := 44) rfl))) (by decide) (backOf (W := 0) (rmB l Z a0 hw [] b19 d19 (1 : Int32) (own_3 (nar .byte v7) (0 : Int32) (0 : Int32)) h21 n0 Z21 F21_0 F21_6 F21_4 (own_fit3 (fits_nar_byte _) rfl rfl) (by decide)) hZ (hw _ (List.mem_of_getElem? (i := 46) rfl)) (hw _ (List.mem_of_getElem? (i := 3) rfl)) (by decide) (by decide)) qa25 qc25 (g := (mkF m 121 #[.val (.int p1), .val (.int p2), .val (.int p3), .val (.int p4), .val (.int (1 : Int32)), .val (.int v7), .val (.int v11), .val (.int v15), .val (.ref b15), .val (.ref b19), .unset] [(.ref b19)])) rfl (by rw [hml]; rfl) (Steps.refl _) (argsL := []) (rest := []) (lenOf pd0_2 rfl) rfl (by show 2 * 0 + _ ≤ _; exact Nat.le_of_eq rfl) (hb hby at_121) (fun _ _ => ⟨rfl, e23, (by decide : 5 + 1 ≤ _), (by decide : 30 + 3 ≤ _)⟩)
      dsimp only [Pt.U, Pt.locs, Pt.cells, Pt.slots] at X25 l25 y25 z25 st25 hQ25
      subst l25 y25 z25
      obtain ⟨b25, rfl, Nq25, Kc25, V25⟩ := hQ25
      have F25_0 := F21_0.keep Kc25 nin0
      have F25_1 := F21_1.keep Kc25 nin0
      have F25_2 := F21_2.keep Kc25
      have F25_3 := F21_3.keep Kc25
      have F25_4 := F21_4.keep Kc25
      have F25_5 := U21.keep Kc25 nin0
      have F25_6 := F21_6.keep Kc25 nin0
      have Z25 : n0 ≤ T25.heap.size := Nat.le_trans Z21 Kc25.1
      have hk25 := Nat.le_trans hk21 Kc25.1
      have N25 := Fr.app N23 Nq25
      have pre25 : ∀ t, Steps p.tables e below (T25.setTop (mkF m 124 #[.val (.int p1), .val (.int p2), .val (.int p3), .val (.int p4), .val (.int (1 : Int32)), .val (.int v7), .val (.int v11), .val (.int v15), .val (.ref b15), .val (.ref b19), .unset] [(.ref b25)])) t → Steps p.tables e below (s₁.setTop (entryFrame m #[(.int p1), (.int p2), (.int p3), (.int p4)] maxLocals)) t := fun t k => pre24 t (st25.trans k)
      have pre26 : ∀ t, Steps p.tables e below (T25.setTop (mkF m 187 #[.val (.int p1), .val (.int p2), .val (.int p3), .val (.int p4), .val (.int (1 : Int32)), .val (.int v7), .val (.int v11), .val (.int v15), .val (.ref b15), .val (.ref b19), .val (.ref b25)] [(.int (1 : Int32))])) t → Steps p.tables e below (s₁.setTop (entryFrame m #[(.int p1), (.int p2), (.int p3), (.int p4)] maxLocals)) t := by
        intro t k
        refine pre25 t ?_
        refine XS.astore X25.here hx rfl (hb hby at_124) rfl rfl (l' := #[.val (.int p1), .val (.int p2), .val (.int p3), .val (.int p4), .val (.int (1 : Int32)), .val (.int v7), .val (.int v11), .val (.int v15), .val (.ref b15), .val (.ref b19), .val (.ref b25)]) rfl ?_
        show Steps p.tables e below (T25.setTop (mkF m 126 #[.val (.int p1), .val (.int p2), .val (.int p3), .val (.int p4), .val (.int (1 : Int32)), .val (.int v7), .val (.int v11), .val (.int v15), .val (.ref b15), .val (.ref b19), .val (.ref b25)] [])) _
        refine XS.aload X25.here hx rfl (hb hby at_126) rfl rfl ?_
        show Steps p.tables e below (T25.setTop (mkF m 128 #[.val (.int p1), .val (.int p2), .val (.int p3), .val (.int p4), .val (.int (1 : Int32)), .val (.int v7), .val (.int v11), .val (.int v15), .val (.ref b15), .val (.ref b19), .val (.ref b25)] [(.ref b25)])) _
        refine own_lenI X25 hx hZ rfl V25 (g := (mkF m 128 #[.val (.int p1), .val (.int p2), .val (.int p3), .val (.int p4), .val (.int (1 : Int32)), .val (.int v7), .val (.int v11), .val (.int v15), .val (.ref b15), .val (.ref b19), .val (.ref b25)] [(.ref b25)])) rfl rfl (hb hby at_128) _ ?_
        show Steps p.tables e below (T25.setTop (mkF m 129 #[.val (.int p1), .val (.int p2), .val (.int p3), .val (.int p4), .val (.int (1 : Int32)), .val (.int v7), .val (.int v11), .val (.int v15), .val (.ref b15), .val (.ref b19), .val (.ref b25)] [(.int (1 : Int32))])) _
        refine XS.iload X25.here hx rfl (hb hby at_129) rfl ?_
        show Steps p.tables e below (T25.setTop (mkF m 131 #[.val (.int p1), .val (.int p2), .val (.int p3), .val (.int p4), .val (.int (1 : Int32)), .val (.int v7), .val (.int v11), .val (.int v15), .val (.ref b15), .val (.ref b19), .val (.ref b25)] [(.int (1 : Int32)), (.int (1 : Int32))])) _
        refine XS.icmpYes X25.here hx rfl (pc0 := 131) (pc' := 136) rfl (hb hby at_131) rfl (teq (by decide : (1 : Int32) = (1 : Int32))).1 (by decide) (by decide) ?_
        show Steps p.tables e below (T25.setTop (mkF m 136 #[.val (.int p1), .val (.int p2), .val (.int p3), .val (.int p4), .val (.int (1 : Int32)), .val (.int v7), .val (.int v11), .val (.int v15), .val (.ref b15), .val (.ref b19), .val (.ref b25)] [])) _
        refine XS.iload X25.here hx rfl (hb hby at_136) rfl ?_
        show Steps p.tables e below (T25.setTop (mkF m 138 #[.val (.int p1), .val (.int p2), .val (.int p3), .val (.int p4), .val (.int (1 : Int32)), .val (.int v7), .val (.int v11), .val (.int v15), .val (.ref b15), .val (.ref b19), .val (.ref b25)] [(.int (1 : Int32))])) _
        refine XS.ifNo X25.here hx rfl (hb hby at_138) rfl ((if0 _ _).trans (tlt (by decide : (0 : Int32) < (1 : Int32))).2.2.2) ?_
        show Steps p.tables e below (T25.setTop (mkF m 141 #[.val (.int p1), .val (.int p2), .val (.int p3), .val (.int p4), .val (.int (1 : Int32)), .val (.int v7), .val (.int v11), .val (.int v15), .val (.ref b15), .val (.ref b19), .val (.ref b25)] [])) _
        refine XS.aload X25.here hx rfl (hb hby at_141) rfl rfl ?_
        show Steps p.tables e below (T25.setTop (mkF m 143 #[.val (.int p1), .val (.int p2), .val (.int p3), .val (.int p4), .val (.int (1 : Int32)), .val (.int v7), .val (.int v11), .val (.int v15), .val (.ref b15), .val (.ref b19), .val (.ref b25)] [(.ref b25)])) _
        refine XS.iconst X25.here hx rfl (hb hby at_143) ?_
        show Steps p.tables e below (T25.setTop (mkF m 144 #[.val (.int p1), .val (.int p2), .val (.int p3), .val (.int p4), .val (.int (1 : Int32)), .val (.int v7), .val (.int v11), .val (.int v15), .val (.ref b15), .val (.ref b19), .val (.ref b25)] [(.int (0 : Int32)), (.ref b25)])) _
        refine own_ldB X25 hx hZ rfl V25 (by decide) (by decide) (g := (mkF m 144 #[.val (.int p1), .val (.int p2), .val (.int p3), .val (.int p4), .val (.int (1 : Int32)), .val (.int v7), .val (.int v11), .val (.int v15), .val (.ref b15), .val (.ref b19), .val (.ref b25)] [(.int (0 : Int32)), (.ref b25)])) rfl rfl (hb hby at_144) _ ?_
        show Steps p.tables e below (T25.setTop (mkF m 145 #[.val (.int p1), .val (.int p2), .val (.int p3), .val (.int p4), .val (.int (1 : Int32)), .val (.int v7), .val (.int v11), .val (.int v15), .val (.ref b15), .val (.ref b19), .val (.ref b25)] [(.int (nar .byte v7))])) _
        refine XS.iload X25.here hx rfl (hb hby at_145) rfl ?_
        show Steps p.tables e below (T25.setTop (mkF m 147 #[.val (.int p1), .val (.int p2), .val (.int p3), .val (.int p4), .val (.int (1 : Int32)), .val (.int v7), .val (.int v11), .val (.int v15), .val (.ref b15), .val (.ref b19), .val (.ref b25)] [(.int v7), (.int (nar .byte v7))])) _
        refine XS.icmpYes X25.here hx rfl (pc0 := 147) (pc' := 152) rfl (hb hby at_147) rfl (teq (own_nb hv7)).1 (by decide) (by decide) ?_
        show Steps p.tables e below (T25.setTop (mkF m 152 #[.val (.int p1), .val (.int p2), .val (.int p3), .val (.int p4), .val (.int (1 : Int32)), .val (.int v7), .val (.int v11), .val (.int v15), .val (.ref b15), .val (.ref b19), .val (.ref b25)] [])) _
        refine XS.iload X25.here hx rfl (hb hby at_152) rfl ?_
        show Steps p.tables e below (T25.setTop (mkF m 154 #[.val (.int p1), .val (.int p2), .val (.int p3), .val (.int p4), .val (.int (1 : Int32)), .val (.int v7), .val (.int v11), .val (.int v15), .val (.ref b15), .val (.ref b19), .val (.ref b25)] [(.int (1 : Int32))])) _
        refine XS.iconst X25.here hx rfl (hb hby at_154) ?_
        show Steps p.tables e below (T25.setTop (mkF m 155 #[.val (.int p1), .val (.int p2), .val (.int p3), .val (.int p4), .val (.int (1 : Int32)), .val (.int v7), .val (.int v11), .val (.int v15), .val (.ref b15), .val (.ref b19), .val (.ref b25)] [(.int (1 : Int32)), (.int (1 : Int32))])) _
        refine XS.icmpYes X25.here hx rfl (pc0 := 155) (pc' := 169) rfl (hb hby at_155) rfl (flt (by decide : ¬ (1 : Int32) < (1 : Int32))).2.2.2 (by decide) (by decide) ?_
        show Steps p.tables e below (T25.setTop (mkF m 169 #[.val (.int p1), .val (.int p2), .val (.int p3), .val (.int p4), .val (.int (1 : Int32)), .val (.int v7), .val (.int v11), .val (.int v15), .val (.ref b15), .val (.ref b19), .val (.ref b25)] [])) _
        refine XS.iload X25.here hx rfl (hb hby at_169) rfl ?_
        show Steps p.tables e below (T25.setTop (mkF m 171 #[.val (.int p1), .val (.int p2), .val (.int p3), .val (.int p4), .val (.int (1 : Int32)), .val (.int v7), .val (.int v11), .val (.int v15), .val (.ref b15), .val (.ref b19), .val (.ref b25)] [(.int (1 : Int32))])) _
        refine XS.iconst X25.here hx rfl (hb hby at_171) ?_
        show Steps p.tables e below (T25.setTop (mkF m 172 #[.val (.int p1), .val (.int p2), .val (.int p3), .val (.int p4), .val (.int (1 : Int32)), .val (.int v7), .val (.int v11), .val (.int v15), .val (.ref b15), .val (.ref b19), .val (.ref b25)] [(.int (2 : Int32)), (.int (1 : Int32))])) _
        refine XS.icmpYes X25.here hx rfl (pc0 := 172) (pc' := 186) rfl (hb hby at_172) rfl (flt (by decide : ¬ (2 : Int32) < (1 : Int32))).2.2.2 (by decide) (by decide) ?_
        show Steps p.tables e below (T25.setTop (mkF m 186 #[.val (.int p1), .val (.int p2), .val (.int p3), .val (.int p4), .val (.int (1 : Int32)), .val (.int v7), .val (.int v11), .val (.int v15), .val (.ref b15), .val (.ref b19), .val (.ref b25)] [])) _
        refine XS.iconst X25.here hx rfl (hb hby at_186) ?_
        show Steps p.tables e below (T25.setTop (mkF m 187 #[.val (.int p1), .val (.int p2), .val (.int p3), .val (.int p4), .val (.int (1 : Int32)), .val (.int v7), .val (.int v11), .val (.int v15), .val (.ref b15), .val (.ref b19), .val (.ref b25)] [(.int (1 : Int32))])) _
        exact k
      obtain ⟨fs, hr, hrun, hended, hREW⟩ := Stand.leaveW (s := s) (vm₁ := T19.vm) X25 hS19 hk25 (v := some (.int (nar .boolean (1 : Int32)))) (fun h => by rw [Bd.returns] at h; cases h)
      refine ⟨_, _, pre26 _ ?_, hrun, hended, _, _, rfl, ?_, hREW.1, hREW.2.1, hREW.2.2.1, hREW.2.2.2.mono (by decide) (by decide)⟩
      · show Steps p.tables e below (T25.setTop (mkF m 187 #[.val (.int p1), .val (.int p2), .val (.int p3), .val (.int p4), .val (.int (1 : Int32)), .val (.int v7), .val (.int v11), .val (.int v15), .val (.ref b15), .val (.ref b19), .val (.ref b25)] [(.int (1 : Int32))])) _
        exact retN X25 hx (t := .boolean) Bd.returns (by simp) (hb hby at_187) hr
      · show Q0 Z p1 p2 p3 p4 h0 n0 _ T25.heap _
        exact ⟨rfl, N25⟩
    · by_cases hM2 : v3 = (2 : Int32)
      · have preM := pre4
        rw [hM2] at preM
        have pre27 : ∀ t, Steps p.tables e below (s₁.setTop (mkF m 19 #[.val (.int p1), .val (.int p2), .val (.int p3), .val (.int p4), .val (.int (2 : Int32)), .val (.int v7), .val (.int v11), .val (.int v15), .unset, .unset, .unset] [(.int (2 : Int32))])) t → Steps p.tables e below (s₁.setTop (entryFrame m #[(.int p1), (.int p2), (.int p3), (.int p4)] maxLocals)) t := by
          intro t k
          refine preM t ?_
          refine XS.iload X0.here hx rfl (hb hby at_17) rfl ?_
          show Steps p.tables e below (s₁.setTop (mkF m 19 #[.val (.int p1), .val (.int p2), .val (.int p3), .val (.int p4), .val (.int (2 : Int32)), .val (.int v7), .val (.int v11), .val (.int v15), .unset, .unset, .unset] [(.int (2 : Int32))])) _
          exact k
        obtain ⟨T28, h28, k28, X28, e28, E28, A28, Ax28, st28⟩ := newPE X0 hx hZ (hw _ (List.mem_of_getElem? (i := 0) rfl)) e0 (g := (mkF m 19 #[.val (.int p1), .val (.int p2), .val (.int p3), .val (.int p4), .val (.int (2 : Int32)), .val (.int v7), .val (.int v11), .val (.int v15), .unset, .unset, .unset] [(.int (2 : Int32))])) rfl (hb hby at_19) rfl (by decide) (cap := 2) (by decide) (by decide) (by decide) (by decide) (ad := "[B") (by decide)
        obtain ⟨b28, g28⟩ : ∃ z, z = h0.size := ⟨_, rfl⟩
        rw [← g28] at A28 st28 Ax28
        have gg28 : n0 ≤ b28 := Nat.le_trans Z0 (Nat.le_of_eq g28.symm)
        have Z28 : n0 ≤ h28.size := Nat.le_trans Z0 E28.1
        have hk28 := Nat.le_trans hk0 E28.1
        have V28 : own_AI Z h28 b28 .byte (2 : Int32) (fun _ => 0) := own_AI.new A28 (by decide) rfl
        have V28' := own_AI.z3 V28
        have pre28 : ∀ t, Steps p.tables e below (T28.setTop (mkF m 21 #[.val (.int p1), .val (.int p2), .val (.int p3), .val (.int p4), .val (.int (2 : Int32)), .val (.int v7), .val (.int v11), .val (.int v15), .unset, .unset, .unset] [(.ref b28)])) t → Steps p.tables e below (s₁.setTop (entryFrame m #[(.int p1), (.int p2), (.int p3), (.int p4)] maxLocals)) t := fun t k => pre27 t (st28 _ k)
        have pre29 : ∀ t, Steps p.tables e below (T28.setTop (mkF m 33 #[.val (.int p1), .val (.int p2), .val (.int p3), .val (.int p4), .val (.int (2 : Int32)), .val (.int v7), .val (.int v11), .val (.int v15), .val (.ref b28), .unset, .unset] [(.int v7), (.int (0 : Int32)), (.ref b28)])) t → Steps p.tables e below (s₁.setTop (entryFrame m #[(.int p1), (.int p2), (.int p3), (.int p4)] maxLocals)) t := by
          intro t k
          refine pre28 t ?_
          refine XS.astore X28.here hx rfl (hb hby at_21) rfl rfl (l' := #[.val (.int p1), .val (.int p2), .val (.int p3), .val (.int p4), .val (.int (2 : Int32)), .val (.int v7), .val (.int v11), .val (.int v15), .val (.ref b28), .unset, .unset]) rfl ?_
          show Steps p.tables e below (T28.setTop (mkF m 23 #[.val (.int p1), .val (.int p2), .val (.int p3), .val (.int p4), .val (.int (2 : Int32)), .val (.int v7), .val (.int v11), .val (.int v15), .val (.ref b28), .unset, .unset] [])) _
          refine XS.iload X28.here hx rfl (hb hby at_23) rfl ?_
          show Steps p.tables e below (T28.setTop (mkF m 25 #[.val (.int p1), .val (.int p2), .val (.int p3), .val (.int p4), .val (.int (2 : Int32)), .val (.int v7), .val (.int v11), .val (.int v15), .val (.ref b28), .unset, .unset] [(.int (2 : Int32))])) _
          refine XS.ifNo X28.here hx rfl (hb hby at_25) rfl ((if0 _ _).trans (tlt (by decide : (0 : Int32) < (2 : Int32))).2.2.2) ?_
          show Steps p.tables e below (T28.setTop (mkF m 28 #[.val (.int p1), .val (.int p2), .val (.int p3), .val (.int p4), .val (.int (2 : Int32)), .val (.int v7), .val (.int v11), .val (.int v15), .val (.ref b28), .unset, .unset] [])) _
          refine XS.aload X28.here hx rfl (hb hby at_28) rfl rfl ?_
          show Steps p.tables e below (T28.setTop (mkF m 30 #[.val (.int p1), .val (.int p2), .val (.int p3), .val (.int p4), .val (.int (2 : Int32)), .val (.int v7), .val (.int v11), .val (.int v15), .val (.ref b28), .unset, .unset] [(.ref b28)])) _
          refine XS.iconst X28.here hx rfl (hb hby at_30) ?_
          show Steps p.tables e below (T28.setTop (mkF m 31 #[.val (.int p1), .val (.int p2), .val (.int p3), .val (.int p4), .val (.int (2 : Int32)), .val (.int v7), .val (.int v11), .val (.int v15), .val (.ref b28), .unset, .unset] [(.int (0 : Int32)), (.ref b28)])) _
          refine XS.iload X28.here hx rfl (hb hby at_31) rfl ?_
          show Steps p.tables e below (T28.setTop (mkF m 33 #[.val (.int p1), .val (.int p2), .val (.int p3), .val (.int p4), .val (.int (2 : Int32)), .val (.int v7), .val (.int v11), .val (.int v15), .val (.ref b28), .unset, .unset] [(.int v7), (.int (0 : Int32)), (.ref b28)])) _
          exact k
        obtain ⟨T30, h30, X30, e30, W30, V30, st30⟩ := own_stB X28 hx hZ e28 V28' (by decide) (by decide) (g := (mkF m 33 #[.val (.int p1), .val (.int p2), .val (.int p3), .val (.int p4), .val (.int (2 : Int32)), .val (.int v7), .val (.int v11), .val (.int v15), .val (.ref b28), .unset, .unset] [(.int v7), (.int (0 : Int32)), (.ref b28)])) rfl rfl (hb hby at_33)
        have F30_0 := Ax28.wr W30
        have F30_1 := V30
        have Z30 : n0 ≤ h30.size := Nat.le_trans Z28 (Keep.of_wr W30).1
        have hk30 := Nat.le_trans hk28 (Keep.of_wr W30).1
        have N30 := Fr.snoc X30 N0 gg28
        have U30 : own_AI Z h30 b28 .byte (2 : Int32) (own_3 (nar .byte v7) (0 : Int32) (0 : Int32)) := own_AI.t0 (by decide) F30_1
        have pre30 : ∀ t, Steps p.tables e below (T30.setTop (mkF m 34 #[.val (.int p1), .val (.int p2), .val (.int p3), .val (.int p4), .val (.int (2 : Int32)), .val (.int v7), .val (.int v11), .val (.int v15), .val (.ref b28), .unset, .unset] [])) t → Steps p.tables e below (s₁.setTop (entryFrame m #[(.int p1), (.int p2), (.int p3), (.int p4)] maxLocals)) t := fun t k => pre29 t (st30 _ k)
        have pre31 : ∀ t, Steps p.tables e below (T30.setTop (mkF m 45 #[.val (.int p1), .val (.int p2), .val (.int p3), .val (.int p4), .val (.int (2 : Int32)), .val (.int v7), .val (.int v11), .val (.int v15), .val (.ref b28), .unset, .unset] [(.int v11), (.int (1 : Int32)), (.ref b28)])) t → Steps p.tables e below (s₁.setTop (entryFrame m #[(.int p1), (.int p2), (.int p3), (.int p4)] maxLocals)) t := by
          intro t k
          refine pre30 t ?_
          refine XS.iload X30.here hx rfl (hb hby at_34) rfl ?_
          show Steps p.tables e below (T30.setTop (mkF m 36 #[.val (.int p1), .val (.int p2), .val (.int p3), .val (.int p4), .val (.int (2 : Int32)), .val (.int v7), .val (.int v11), .val (.int v15), .val (.ref b28), .unset, .unset] [(.int (2 : Int32))])) _
          refine XS.iconst X30.here hx rfl (hb hby at_36) ?_
          show Steps p.tables e below (T30.setTop (mkF m 37 #[.val (.int p1), .val (.int p2), .val (.int p3), .val (.int p4), .val (.int (2 : Int32)), .val (.int v7), .val (.int v11), .val (.int v15), .val (.ref b28), .unset, .unset] [(.int (1 : Int32)), (.int (2 : Int32))])) _
          refine XS.icmpNo X30.here hx rfl (hb hby at_37) rfl (tlt (by decide : (1 : Int32) < (2 : Int32))).2.2.2 ?_
          show Steps p.tables e below (T30.setTop (mkF m 40 #[.val (.int p1), .val (.int p2), .val (.int p3), .val (.int p4), .val (.int (2 : Int32)), .val (.int v7), .val (.int v11), .val (.int v15), .val (.ref b28), .unset, .unset] [])) _
          refine XS.aload X30.here hx rfl (hb hby at_40) rfl rfl ?_
          show Steps p.tables e below (T30.setTop (mkF m 42 #[.val (.int p1), .val (.int p2), .val (.int p3), .val (.int p4), .val (.int (2 : Int32)), .val (.int v7), .val (.int v11), .val (.int v15), .val (.ref b28), .unset, .unset] [(.ref b28)])) _
          refine XS.iconst X30.here hx rfl (hb hby at_42) ?_
          show Steps p.tables e below (T30.setTop (mkF m 43 #[.val (.int p1), .val (.int p2), .val (.int p3), .val (.int p4), .val (.int (2 : Int32)), .val (.int v7), .val (.int v11), .val (.int v15), .val (.ref b28), .unset, .unset] [(.int (1 : Int32)), (.ref b28)])) _
          refine XS.iload X30.here hx rfl (hb hby at_43) rfl ?_
          show Steps p.tables e below (T30.setTop (mkF m 45 #[.val (.int p1), .val (.int p2), .val (.int p3), .val (.int p4), .val (.int (2 : Int32)), .val (.int v7), .val (.int v11), .val (.int v15), .val (.ref b28), .unset, .unset] [(.int v11), (.int (1 : Int32)), (.ref b28)])) _
          exact k
        obtain ⟨T32, h32, X32, e32, W32, V32, st32⟩ := own_stB X30 hx hZ e30 U30 (by decide) (by decide) (g := (mkF m 45 #[.val (.int p1), .val (.int p2), .val (.int p3), .val (.int p4), .val (.int (2 : Int32)), .val (.int v7), .val (.int v11), .val (.int v15), .val (.ref b28), .unset, .unset] [(.int v11), (.int (1 : Int32)), (.ref b28)])) rfl rfl (hb hby at_45)
        have F32_0 := F30_0.wr W32
        have F32_1 := V32
        have Z32 : n0 ≤ h32.size := Nat.le_trans Z30 (Keep.of_wr W32).1
        have hk32 := Nat.le_trans hk30 (Keep.of_wr W32).1
        have N32 := Fr.snoc X32 N30 gg28
        have U32 : own_AI Z h32 b28 .byte (2 : Int32) (own_3 (nar .byte v7) (nar .byte v11) (0 : Int32)) := own_AI.t1 (by decide) F32_1
        have pre32 : ∀ t, Steps p.tables e below (T32.setTop (mkF m 46 #[.val (.int p1), .val (.int p2), .val (.int p3), .val (.int p4), .val (.int (2 : Int32)), .val (.int v7), .val (.int v11), .val (.int v15), .val (.ref b28), .unset, .unset] [])) t → Steps p.tables e below (s₁.setTop (entryFrame m #[(.int p1), (.int p2), (.int p3), (.int p4)] maxLocals)) t := fun t k => pre31 t (st32 _ k)
        have pre33 : ∀ t, Steps p.tables e below (T32.setTop (mkF m 60 #[.val (.int p1), .val (.int p2), .val (.int p3), .val (.int p4), .val (.int (2 : Int32)), .val (.int v7), .val (.int v11), .val (.int v15), .val (.ref b28), .unset, .unset] [(.ref b28)])) t → Steps p.tables e below (s₁.setTop (entryFrame m #[(.int p1), (.int p2), (.int p3), (.int p4)] maxLocals)) t := by
          intro t k
          refine pre32 t ?_
          refine XS.iload X32.here hx rfl (hb hby at_46) rfl ?_
          show Steps p.tables e below (T32.setTop (mkF m 48 #[.val (.int p1), .val (.int p2), .val (.int p3), .val (.int p4), .val (.int (2 : Int32)), .val (.int v7), .val (.int v11), .val (.int v15), .val (.ref b28), .unset, .unset] [(.int (2 : Int32))])) _
          refine XS.iconst X32.here hx rfl (hb hby at_48) ?_
          show Steps p.tables e below (T32.setTop (mkF m 49 #[.val (.int p1), .val (.int p2), .val (.int p3), .val (.int p4), .val (.int (2 : Int32)), .val (.int v7), .val (.int v11), .val (.int v15), .val (.ref b28), .unset, .unset] [(.int (2 : Int32)), (.int (2 : Int32))])) _
          refine XS.icmpYes X32.here hx rfl (pc0 := 49) (pc' := 58) rfl (hb hby at_49) rfl (flt (by decide : ¬ (2 : Int32) < (2 : Int32))).2.2.2 (by decide) (by decide) ?_
          show Steps p.tables e below (T32.setTop (mkF m 58 #[.val (.int p1), .val (.int p2), .val (.int p3), .val (.int p4), .val (.int (2 : Int32)), .val (.int v7), .val (.int v11), .val (.int v15), .val (.ref b28), .unset, .unset] [])) _
          refine XS.aload X32.here hx rfl (hb hby at_58) rfl rfl ?_
          show Steps p.tables e below (T32.setTop (mkF m 60 #[.val (.int p1), .val (.int p2), .val (.int p3), .val (.int p4), .val (.int (2 : Int32)), .val (.int v7), .val (.int v11), .val (.int v15), .val (.ref b28), .unset, .unset] [(.ref b28)])) _
          exact k
        obtain ⟨_, _, ⟨T34, L34, k34, n34⟩, -, X34, hs34, hg34, ⟨Lc34, hQ34, l34, y34, z34⟩, st34⟩ := callSS X32 hx (y := (⟨"com/example/tally/tally/model/Outcome", "failure", "([B)Lcom/example/tally/tally/model/Outcome;"⟩ : MethodName)) hown (mvT hZ (hw _ (List.mem_of_getElem? (i := 1) rfl))) (mvT hZ (hw _ (List.mem_of_getElem? (i := 2) rfl))) (mvT hZ (hw _ (List.mem_of_getElem? (i := 3) rfl))) (mvT hZ (hw _ (List.mem_of_getElem? (i := 4) rfl))) (by decide) (backOfS (W := 0) (rmM l Z a0 hw [] b28 (2 : Int32) (own_3 (nar .byte v7) (nar .byte v11) (0 : Int32)) h32 n0 Z32 U32 F32_0 (own_fit3 (fits_nar_byte _) (fits_nar_byte _) rfl) (by decide)) hZ (hw _ (List.mem_of_getElem? (i := 4) rfl)) (hw _ (List.mem_of_getElem? (i := 3) rfl)) (by decide) (by decide)) (g := (mkF m 60 #[.val (.int p1), .val (.int p2), .val (.int p3), .val (.int p4), .val (.int (2 : Int32)), .val (.int v7), .val (.int v11), .val (.int v15), .val (.ref b28), .unset, .unset] [(.ref b28)])) rfl (by rw [hml]; rfl) (argsL := [(.ref b28)]) (rest := []) (lenOf pd0_0 rfl) rfl (by show 2 * 0 + _ ≤ _; exact Nat.le_of_eq rfl) (hb hby at_60) (fun _ _ => ⟨rfl, e32, (by decide : 1 + 4 ≤ _), (by decide : 2 + 29 ≤ _)⟩)
        dsimp only [Pt.U, Pt.locs, Pt.cells, Pt.slots] at X34 l34 y34 z34 st34 hQ34 hs34 hg34
        subst l34 y34 z34
        obtain ⟨X34, hS34, hZ, hown⟩ := rebS (s := s) (vm0 := s.vm) hS0 (by rw [e32]; exact hk32) X34 hs34 hg34 hZ hown
        have hk34 : T34.heap.size ≤ T34.heap.size := Nat.le_refl _
        obtain ⟨b34, d34, rfl, Nq34, Kc34, gg34, sd34, Ec34, Fa34, Fb34, V34, Ax34, sb34⟩ := hQ34
        have ne34 : b28 ≠ d34 := Nat.ne_of_lt (Nat.lt_of_lt_of_le F32_0.lt sd34)
        have nf34 : b28 ≠ b34 := Nat.ne_of_lt (Nat.lt_of_lt_of_le F32_0.lt sb34)
        have F34_0 := F32_0.keep Kc34
        have F34_1 := U32.keep Kc34 nin0
        have Z34 : n0 ≤ T34.heap.size := Nat.le_trans Z32 Kc34.1
        have N34 := Fr.app N32 Nq34
        have pre34 : ∀ t, Steps p.tables e below (T34.setTop (mkF m 63 #[.val (.int p1), .val (.int p2), .val (.int p3), .val (.int p4), .val (.int (2 : Int32)), .val (.int v7), .val (.int v11), .val (.int v15), .val (.ref b28), .unset, .unset] [(.ref b34)])) t → Steps p.tables e below (s₁.setTop (entryFrame m #[(.int p1), (.int p2), (.int p3), (.int p4)] maxLocals)) t := fun t k => pre33 t (st34.trans k)
        have pre35 : ∀ t, Steps p.tables e below (T34.setTop (mkF m 78 #[.val (.int p1), .val (.int p2), .val (.int p3), .val (.int p4), .val (.int (2 : Int32)), .val (.int v7), .val (.int v11), .val (.int v15), .val (.ref b28), .val (.ref b34), .unset] [(.int ((v7 ^^^ (-1 : Int32)).toInt8.toInt32)), (.int (0 : Int32)), (.ref b28)])) t → Steps p.tables e below (s₁.setTop (entryFrame m #[(.int p1), (.int p2), (.int p3), (.int p4)] maxLocals)) t := by
          intro t k
          refine pre34 t ?_
          refine XS.astore X34.here hx rfl (hb hby at_63) rfl rfl (l' := #[.val (.int p1), .val (.int p2), .val (.int p3), .val (.int p4), .val (.int (2 : Int32)), .val (.int v7), .val (.int v11), .val (.int v15), .val (.ref b28), .val (.ref b34), .unset]) rfl ?_
          show Steps p.tables e below (T34.setTop (mkF m 65 #[.val (.int p1), .val (.int p2), .val (.int p3), .val (.int p4), .val (.int (2 : Int32)), .val (.int v7), .val (.int v11), .val (.int v15), .val (.ref b28), .val (.ref b34), .unset] [])) _
          refine XS.iload X34.here hx rfl (hb hby at_65) rfl ?_
          show Steps p.tables e below (T34.setTop (mkF m 67 #[.val (.int p1), .val (.int p2), .val (.int p3), .val (.int p4), .val (.int (2 : Int32)), .val (.int v7), .val (.int v11), .val (.int v15), .val (.ref b28), .val (.ref b34), .unset] [(.int (2 : Int32))])) _
          refine XS.ifNo X34.here hx rfl (hb hby at_67) rfl ((if0 _ _).trans (tlt (by decide : (0 : Int32) < (2 : Int32))).2.2.2) ?_
          show Steps p.tables e below (T34.setTop (mkF m 70 #[.val (.int p1), .val (.int p2), .val (.int p3), .val (.int p4), .val (.int (2 : Int32)), .val (.int v7), .val (.int v11), .val (.int v15), .val (.ref b28), .val (.ref b34), .unset] [])) _
          refine XS.aload X34.here hx rfl (hb hby at_70) rfl rfl ?_
          show Steps p.tables e below (T34.setTop (mkF m 72 #[.val (.int p1), .val (.int p2), .val (.int p3), .val (.int p4), .val (.int (2 : Int32)), .val (.int v7), .val (.int v11), .val (.int v15), .val (.ref b28), .val (.ref b34), .unset] [(.ref b28)])) _
          refine XS.iconst X34.here hx rfl (hb hby at_72) ?_
          show Steps p.tables e below (T34.setTop (mkF m 73 #[.val (.int p1), .val (.int p2), .val (.int p3), .val (.int p4), .val (.int (2 : Int32)), .val (.int v7), .val (.int v11), .val (.int v15), .val (.ref b28), .val (.ref b34), .unset] [(.int (0 : Int32)), (.ref b28)])) _
          refine XS.iload X34.here hx rfl (hb hby at_73) rfl ?_
          show Steps p.tables e below (T34.setTop (mkF m 75 #[.val (.int p1), .val (.int p2), .val (.int p3), .val (.int p4), .val (.int (2 : Int32)), .val (.int v7), .val (.int v11), .val (.int v15), .val (.ref b28), .val (.ref b34), .unset] [(.int v7), (.int (0 : Int32)), (.ref b28)])) _
          refine XS.iconst X34.here hx rfl (hb hby at_75) ?_
          show Steps p.tables e below (T34.setTop (mkF m 76 #[.val (.int p1), .val (.int p2), .val (.int p3), .val (.int p4), .val (.int (2 : Int32)), .val (.int v7), .val (.int v11), .val (.int v15), .val (.ref b28), .val (.ref b34), .unset] [(.int (-1 : Int32)), (.int v7), (.int (0 : Int32)), (.ref b28)])) _
          refine XS.ixor X34.here hx rfl (hb hby at_76) rfl ?_
          show Steps p.tables e below (T34.setTop (mkF m 77 #[.val (.int p1), .val (.int p2), .val (.int p3), .val (.int p4), .val (.int (2 : Int32)), .val (.int v7), .val (.int v11), .val (.int v15), .val (.ref b28), .val (.ref b34), .unset] [(.int (v7 ^^^ (-1 : Int32))), (.int (0 : Int32)), (.ref b28)])) _
          refine XS.i2b X34.here hx rfl (hb hby at_77) rfl ?_
          show Steps p.tables e below (T34.setTop (mkF m 78 #[.val (.int p1), .val (.int p2), .val (.int p3), .val (.int p4), .val (.int (2 : Int32)), .val (.int v7), .val (.int v11), .val (.int v15), .val (.ref b28), .val (.ref b34), .unset] [(.int ((v7 ^^^ (-1 : Int32)).toInt8.toInt32)), (.int (0 : Int32)), (.ref b28)])) _
          exact k
        obtain ⟨T36, h36, X36, e36, W36, V36, st36⟩ := own_stB X34 hx hZ rfl F34_1 (by decide) (by decide) (g := (mkF m 78 #[.val (.int p1), .val (.int p2), .val (.int p3), .val (.int p4), .val (.int (2 : Int32)), .val (.int v7), .val (.int v11), .val (.int v15), .val (.ref b28), .val (.ref b34), .unset] [(.int ((v7 ^^^ (-1 : Int32)).toInt8.toInt32)), (.int (0 : Int32)), (.ref b28)])) rfl rfl (hb hby at_78)
        have F36_0 := Fa34.other W36 (Or.inl (Ne.symm nf34))
        have F36_1 := Fb34.other W36 (Or.inl (Ne.symm nf34))
        have F36_2 := F34_0.wr W36
        have F36_3 := Ec34.wr W36
        have F36_4 := Ax34.wr W36
        have F36_5 := V36
        have F36_6 := V34.other W36 (Ne.symm ne34)
        have Z36 : n0 ≤ h36.size := Nat.le_trans Z34 (Keep.of_wr W36).1
        have hk36 := Nat.le_trans hk34 (Keep.of_wr W36).1
        have N36 := Fr.snoc X36 N34 gg28
        have U36 : own_AI Z h36 b28 .byte (2 : Int32) (own_3 (nar .byte ((v7 ^^^ (-1 : Int32)).toInt8.toInt32)) (nar .byte v11) (0 : Int32)) := own_AI.t0 (by decide) F36_5
        have pre36 : ∀ t, Steps p.tables e below (T36.setTop (mkF m 79 #[.val (.int p1), .val (.int p2), .val (.int p3), .val (.int p4), .val (.int (2 : Int32)), .val (.int v7), .val (.int v11), .val (.int v15), .val (.ref b28), .val (.ref b34), .unset] [])) t → Steps p.tables e below (s₁.setTop (entryFrame m #[(.int p1), (.int p2), (.int p3), (.int p4)] maxLocals)) t := fun t k => pre35 t (st36 _ k)
        have pre37 : ∀ t, Steps p.tables e below (T36.setTop (mkF m 93 #[.val (.int p1), .val (.int p2), .val (.int p3), .val (.int p4), .val (.int (2 : Int32)), .val (.int v7), .val (.int v11), .val (.int v15), .val (.ref b28), .val (.ref b34), .unset] [(.int ((v11 ^^^ (-1 : Int32)).toInt8.toInt32)), (.int (1 : Int32)), (.ref b28)])) t → Steps p.tables e below (s₁.setTop (entryFrame m #[(.int p1), (.int p2), (.int p3), (.int p4)] maxLocals)) t := by
          intro t k
          refine pre36 t ?_
          refine XS.iload X36.here hx rfl (hb hby at_79) rfl ?_
          show Steps p.tables e below (T36.setTop (mkF m 81 #[.val (.int p1), .val (.int p2), .val (.int p3), .val (.int p4), .val (.int (2 : Int32)), .val (.int v7), .val (.int v11), .val (.int v15), .val (.ref b28), .val (.ref b34), .unset] [(.int (2 : Int32))])) _
          refine XS.iconst X36.here hx rfl (hb hby at_81) ?_
          show Steps p.tables e below (T36.setTop (mkF m 82 #[.val (.int p1), .val (.int p2), .val (.int p3), .val (.int p4), .val (.int (2 : Int32)), .val (.int v7), .val (.int v11), .val (.int v15), .val (.ref b28), .val (.ref b34), .unset] [(.int (1 : Int32)), (.int (2 : Int32))])) _
          refine XS.icmpNo X36.here hx rfl (hb hby at_82) rfl (tlt (by decide : (1 : Int32) < (2 : Int32))).2.2.2 ?_
          show Steps p.tables e below (T36.setTop (mkF m 85 #[.val (.int p1), .val (.int p2), .val (.int p3), .val (.int p4), .val (.int (2 : Int32)), .val (.int v7), .val (.int v11), .val (.int v15), .val (.ref b28), .val (.ref b34), .unset] [])) _
          refine XS.aload X36.here hx rfl (hb hby at_85) rfl rfl ?_
          show Steps p.tables e below (T36.setTop (mkF m 87 #[.val (.int p1), .val (.int p2), .val (.int p3), .val (.int p4), .val (.int (2 : Int32)), .val (.int v7), .val (.int v11), .val (.int v15), .val (.ref b28), .val (.ref b34), .unset] [(.ref b28)])) _
          refine XS.iconst X36.here hx rfl (hb hby at_87) ?_
          show Steps p.tables e below (T36.setTop (mkF m 88 #[.val (.int p1), .val (.int p2), .val (.int p3), .val (.int p4), .val (.int (2 : Int32)), .val (.int v7), .val (.int v11), .val (.int v15), .val (.ref b28), .val (.ref b34), .unset] [(.int (1 : Int32)), (.ref b28)])) _
          refine XS.iload X36.here hx rfl (hb hby at_88) rfl ?_
          show Steps p.tables e below (T36.setTop (mkF m 90 #[.val (.int p1), .val (.int p2), .val (.int p3), .val (.int p4), .val (.int (2 : Int32)), .val (.int v7), .val (.int v11), .val (.int v15), .val (.ref b28), .val (.ref b34), .unset] [(.int v11), (.int (1 : Int32)), (.ref b28)])) _
          refine XS.iconst X36.here hx rfl (hb hby at_90) ?_
          show Steps p.tables e below (T36.setTop (mkF m 91 #[.val (.int p1), .val (.int p2), .val (.int p3), .val (.int p4), .val (.int (2 : Int32)), .val (.int v7), .val (.int v11), .val (.int v15), .val (.ref b28), .val (.ref b34), .unset] [(.int (-1 : Int32)), (.int v11), (.int (1 : Int32)), (.ref b28)])) _
          refine XS.ixor X36.here hx rfl (hb hby at_91) rfl ?_
          show Steps p.tables e below (T36.setTop (mkF m 92 #[.val (.int p1), .val (.int p2), .val (.int p3), .val (.int p4), .val (.int (2 : Int32)), .val (.int v7), .val (.int v11), .val (.int v15), .val (.ref b28), .val (.ref b34), .unset] [(.int (v11 ^^^ (-1 : Int32))), (.int (1 : Int32)), (.ref b28)])) _
          refine XS.i2b X36.here hx rfl (hb hby at_92) rfl ?_
          show Steps p.tables e below (T36.setTop (mkF m 93 #[.val (.int p1), .val (.int p2), .val (.int p3), .val (.int p4), .val (.int (2 : Int32)), .val (.int v7), .val (.int v11), .val (.int v15), .val (.ref b28), .val (.ref b34), .unset] [(.int ((v11 ^^^ (-1 : Int32)).toInt8.toInt32)), (.int (1 : Int32)), (.ref b28)])) _
          exact k
        obtain ⟨T38, h38, X38, e38, W38, V38, st38⟩ := own_stB X36 hx hZ e36 U36 (by decide) (by decide) (g := (mkF m 93 #[.val (.int p1), .val (.int p2), .val (.int p3), .val (.int p4), .val (.int (2 : Int32)), .val (.int v7), .val (.int v11), .val (.int v15), .val (.ref b28), .val (.ref b34), .unset] [(.int ((v11 ^^^ (-1 : Int32)).toInt8.toInt32)), (.int (1 : Int32)), (.ref b28)])) rfl rfl (hb hby at_93)
        have F38_0 := F36_0.other W38 (Or.inl (Ne.symm nf34))
        have F38_1 := F36_1.other W38 (Or.inl (Ne.symm nf34))
        have F38_2 := F36_2.wr W38
        have F38_3 := F36_3.wr W38
        have F38_4 := F36_4.wr W38
        have F38_5 := V38
        have F38_6 := F36_6.other W38 (Ne.symm ne34)
        have Z38 : n0 ≤ h38.size := Nat.le_trans Z36 (Keep.of_wr W38).1
        have hk38 := Nat.le_trans hk36 (Keep.of_wr W38).1
        have N38 := Fr.snoc X38 N36 gg28
        have U38 : own_AI Z h38 b28 .byte (2 : Int32) (own_3 (nar .byte ((v7 ^^^ (-1 : Int32)).toInt8.toInt32)) (nar .byte ((v11 ^^^ (-1 : Int32)).toInt8.toInt32)) (0 : Int32)) := own_AI.t1 (by decide) F38_5
        have pre38 : ∀ t, Steps p.tables e below (T38.setTop (mkF m 94 #[.val (.int p1), .val (.int p2), .val (.int p3), .val (.int p4), .val (.int (2 : Int32)), .val (.int v7), .val (.int v11), .val (.int v15), .val (.ref b28), .val (.ref b34), .unset] [])) t → Steps p.tables e below (s₁.setTop (entryFrame m #[(.int p1), (.int p2), (.int p3), (.int p4)] maxLocals)) t := fun t k => pre37 t (st38 _ k)
        have pre39 : ∀ t, Steps p.tables e below (T38.setTop (mkF m 111 #[.val (.int p1), .val (.int p2), .val (.int p3), .val (.int p4), .val (.int (2 : Int32)), .val (.int v7), .val (.int v11), .val (.int v15), .val (.ref b28), .val (.ref b34), .unset] [(.ref b34)])) t → Steps p.tables e below (s₁.setTop (entryFrame m #[(.int p1), (.int p2), (.int p3), (.int p4)] maxLocals)) t := by
          intro t k
          refine pre38 t ?_
          refine XS.iload X38.here hx rfl (hb hby at_94) rfl ?_
          show Steps p.tables e below (T38.setTop (mkF m 96 #[.val (.int p1), .val (.int p2), .val (.int p3), .val (.int p4), .val (.int (2 : Int32)), .val (.int v7), .val (.int v11), .val (.int v15), .val (.ref b28), .val (.ref b34), .unset] [(.int (2 : Int32))])) _
          refine XS.iconst X38.here hx rfl (hb hby at_96) ?_
          show Steps p.tables e below (T38.setTop (mkF m 97 #[.val (.int p1), .val (.int p2), .val (.int p3), .val (.int p4), .val (.int (2 : Int32)), .val (.int v7), .val (.int v11), .val (.int v15), .val (.ref b28), .val (.ref b34), .unset] [(.int (2 : Int32)), (.int (2 : Int32))])) _
          refine XS.icmpYes X38.here hx rfl (pc0 := 97) (pc' := 109) rfl (hb hby at_97) rfl (flt (by decide : ¬ (2 : Int32) < (2 : Int32))).2.2.2 (by decide) (by decide) ?_
          show Steps p.tables e below (T38.setTop (mkF m 109 #[.val (.int p1), .val (.int p2), .val (.int p3), .val (.int p4), .val (.int (2 : Int32)), .val (.int v7), .val (.int v11), .val (.int v15), .val (.ref b28), .val (.ref b34), .unset] [])) _
          refine XS.aload X38.here hx rfl (hb hby at_109) rfl rfl ?_
          show Steps p.tables e below (T38.setTop (mkF m 111 #[.val (.int p1), .val (.int p2), .val (.int p3), .val (.int p4), .val (.int (2 : Int32)), .val (.int v7), .val (.int v11), .val (.int v15), .val (.ref b28), .val (.ref b34), .unset] [(.ref b34)])) _
          exact k
        obtain ⟨cq40, kq40, qa40, qb40, qc40⟩ := isOf hZ e38 F38_3
        obtain ⟨_, _, ⟨T40, L40, k40, n40⟩, -, X40, ⟨Lc40, hQ40, l40, y40, z40⟩, st40⟩ := X38.virtualBack hx (y := (⟨"com/example/tally/tally/model/Outcome", "failed", "()Z"⟩ : MethodName)) (z := (⟨"com/example/tally/tally/model/Outcome", "failed", "()Z"⟩ : MethodName)) hown (mvT hZ (hw _ (List.mem_of_getElem? (i := 37) rfl))) (mvT hZ (hw _ (List.mem_of_getElem? (i := 38) rfl))) (notFace_of_selects (args := #[]) (mvT hZ (hw _ (List.mem_of_getElem? (i := 40) rfl)))) (mvT hZ (hw _ (List.mem_of_getElem? (i := 40) rfl))) (mvT hZ (hw _ (List.mem_of_getElem? (i := 39) rfl))) (by decide) (backOf (W := 0) (rmG l Z a0 hw [] b34 (nar .boolean (1 : Int32)) h38 n0 Z38 F38_1) hZ (hw _ (List.mem_of_getElem? (i := 41) rfl)) (hw _ (List.mem_of_getElem? (i := 3) rfl)) (by decide) (by decide)) qa40 qc40 (g := (mkF m 111 #[.val (.int p1), .val (.int p2), .val (.int p3), .val (.int p4), .val (.int (2 : Int32)), .val (.int v7), .val (.int v11), .val (.int v15), .val (.ref b28), .val (.ref b34), .unset] [(.ref b34)])) rfl (by rw [hml]; rfl) (Steps.refl _) (argsL := []) (rest := []) (lenOf pd0_1 rfl) rfl (by show 2 * 0 + _ ≤ _; exact Nat.le_of_eq rfl) (hb hby at_111) (fun _ _ => ⟨rfl, e38, (by decide : 5 + 0 ≤ _), (by decide : 31 + 0 ≤ _)⟩)
        dsimp only [Pt.U, Pt.locs, Pt.cells, Pt.slots] at X40 l40 y40 z40 st40 hQ40
        subst l40 y40 z40
        obtain ⟨rfl, Nq40, e40⟩ := hQ40
        have N40 := Fr.app N38 Nq40
        have pre40 : ∀ t, Steps p.tables e below (T40.setTop (mkF m 114 #[.val (.int p1), .val (.int p2), .val (.int p3), .val (.int p4), .val (.int (2 : Int32)), .val (.int v7), .val (.int v11), .val (.int v15), .val (.ref b28), .val (.ref b34), .unset] [(.int (fnG (nar .boolean (1 : Int32))))])) t → Steps p.tables e below (s₁.setTop (entryFrame m #[(.int p1), (.int p2), (.int p3), (.int p4)] maxLocals)) t := fun t k => pre39 t (st40.trans k)
        have pre41 : ∀ t, Steps p.tables e below (T40.setTop (mkF m 121 #[.val (.int p1), .val (.int p2), .val (.int p3), .val (.int p4), .val (.int (2 : Int32)), .val (.int v7), .val (.int v11), .val (.int v15), .val (.ref b28), .val (.ref b34), .unset] [(.ref b34)])) t → Steps p.tables e below (s₁.setTop (entryFrame m #[(.int p1), (.int p2), (.int p3), (.int p4)] maxLocals)) t := by
          intro t k
          refine pre40 t ?_
          refine XS.ifYes X40.here hx rfl (pc0 := 114) (pc' := 119) rfl (hb hby at_114) rfl ((if0 _ _).trans (feq (by decide : ¬ fnG (nar .boolean (1 : Int32)) = (0 : Int32))).2) (by decide) (by decide) ?_
          show Steps p.tables e below (T40.setTop (mkF m 119 #[.val (.int p1), .val (.int p2), .val (.int p3), .val (.int p4), .val (.int (2 : Int32)), .val (.int v7), .val (.int v11), .val (.int v15), .val (.ref b28), .val (.ref b34), .unset] [])) _
          refine XS.aload X40.here hx rfl (hb hby at_119) rfl rfl ?_
          show Steps p.tables e below (T40.setTop (mkF m 121 #[.val (.int p1), .val (.int p2), .val (.int p3), .val (.int p4), .val (.int (2 : Int32)), .val (.int v7), .val (.int v11), .val (.int v15), .val (.ref b28), .val (.ref b34), .unset] [(.ref b34)])) _
          exact k
        obtain ⟨cq42, kq42, qa42, qb42, qc42⟩ := isOf hZ e40 F38_3
        obtain ⟨_, _, ⟨T42, L42, k42, n42⟩, -, X42, ⟨Lc42, hQ42, l42, y42, z42⟩, st42⟩ := X40.virtualBack hx (y := (⟨"com/example/tally/tally/model/Outcome", "bytes", "()[B"⟩ : MethodName)) (z := (⟨"com/example/tally/tally/model/Outcome", "bytes", "()[B"⟩ : MethodName)) hown (mvT hZ (hw _ (List.mem_of_getElem? (i := 42) rfl))) (mvT hZ (hw _ (List.mem_of_getElem? (i := 43) rfl))) (notFace_of_selects (args := #[]) (mvT hZ (hw _ (List.mem_of_getElem? (i := 45) rfl)))) (mvT hZ (hw _ (List.mem_of_getElem? (i := 45) rfl))) (mvT hZ (hw _ (List.mem_of_getElem? (i := 44) rfl))) (by decide) (backOf (W := 0) (rmB l Z a0 hw [] b34 d34 (2 : Int32) (own_3 (nar .byte v7) (nar .byte v11) (0 : Int32)) h38 n0 Z38 F38_0 F38_6 F38_4 (own_fit3 (fits_nar_byte _) (fits_nar_byte _) rfl) (by decide)) hZ (hw _ (List.mem_of_getElem? (i := 46) rfl)) (hw _ (List.mem_of_getElem? (i := 3) rfl)) (by decide) (by decide)) qa42 qc42 (g := (mkF m 121 #[.val (.int p1), .val (.int p2), .val (.int p3), .val (.int p4), .val (.int (2 : Int32)), .val (.int v7), .val (.int v11), .val (.int v15), .val (.ref b28), .val (.ref b34), .unset] [(.ref b34)])) rfl (by rw [hml]; rfl) (Steps.refl _) (argsL := []) (rest := []) (lenOf pd0_2 rfl) rfl (by show 2 * 0 + _ ≤ _; exact Nat.le_of_eq rfl) (hb hby at_121) (fun _ _ => ⟨rfl, e40, (by decide : 5 + 1 ≤ _), (by decide : 31 + 3 ≤ _)⟩)
        dsimp only [Pt.U, Pt.locs, Pt.cells, Pt.slots] at X42 l42 y42 z42 st42 hQ42
        subst l42 y42 z42
        obtain ⟨b42, rfl, Nq42, Kc42, V42⟩ := hQ42
        have F42_0 := F38_0.keep Kc42 nin0
        have F42_1 := F38_1.keep Kc42 nin0
        have F42_2 := F38_2.keep Kc42
        have F42_3 := F38_3.keep Kc42
        have F42_4 := F38_4.keep Kc42
        have F42_5 := U38.keep Kc42 nin0
        have F42_6 := F38_6.keep Kc42 nin0
        have Z42 : n0 ≤ T42.heap.size := Nat.le_trans Z38 Kc42.1
        have hk42 := Nat.le_trans hk38 Kc42.1
        have N42 := Fr.app N40 Nq42
        have pre42 : ∀ t, Steps p.tables e below (T42.setTop (mkF m 124 #[.val (.int p1), .val (.int p2), .val (.int p3), .val (.int p4), .val (.int (2 : Int32)), .val (.int v7), .val (.int v11), .val (.int v15), .val (.ref b28), .val (.ref b34), .unset] [(.ref b42)])) t → Steps p.tables e below (s₁.setTop (entryFrame m #[(.int p1), (.int p2), (.int p3), (.int p4)] maxLocals)) t := fun t k => pre41 t (st42.trans k)
        have pre43 : ∀ t, Steps p.tables e below (T42.setTop (mkF m 187 #[.val (.int p1), .val (.int p2), .val (.int p3), .val (.int p4), .val (.int (2 : Int32)), .val (.int v7), .val (.int v11), .val (.int v15), .val (.ref b28), .val (.ref b34), .val (.ref b42)] [(.int (1 : Int32))])) t → Steps p.tables e below (s₁.setTop (entryFrame m #[(.int p1), (.int p2), (.int p3), (.int p4)] maxLocals)) t := by
          intro t k
          refine pre42 t ?_
          refine XS.astore X42.here hx rfl (hb hby at_124) rfl rfl (l' := #[.val (.int p1), .val (.int p2), .val (.int p3), .val (.int p4), .val (.int (2 : Int32)), .val (.int v7), .val (.int v11), .val (.int v15), .val (.ref b28), .val (.ref b34), .val (.ref b42)]) rfl ?_
          show Steps p.tables e below (T42.setTop (mkF m 126 #[.val (.int p1), .val (.int p2), .val (.int p3), .val (.int p4), .val (.int (2 : Int32)), .val (.int v7), .val (.int v11), .val (.int v15), .val (.ref b28), .val (.ref b34), .val (.ref b42)] [])) _
          refine XS.aload X42.here hx rfl (hb hby at_126) rfl rfl ?_
          show Steps p.tables e below (T42.setTop (mkF m 128 #[.val (.int p1), .val (.int p2), .val (.int p3), .val (.int p4), .val (.int (2 : Int32)), .val (.int v7), .val (.int v11), .val (.int v15), .val (.ref b28), .val (.ref b34), .val (.ref b42)] [(.ref b42)])) _
          refine own_lenI X42 hx hZ rfl V42 (g := (mkF m 128 #[.val (.int p1), .val (.int p2), .val (.int p3), .val (.int p4), .val (.int (2 : Int32)), .val (.int v7), .val (.int v11), .val (.int v15), .val (.ref b28), .val (.ref b34), .val (.ref b42)] [(.ref b42)])) rfl rfl (hb hby at_128) _ ?_
          show Steps p.tables e below (T42.setTop (mkF m 129 #[.val (.int p1), .val (.int p2), .val (.int p3), .val (.int p4), .val (.int (2 : Int32)), .val (.int v7), .val (.int v11), .val (.int v15), .val (.ref b28), .val (.ref b34), .val (.ref b42)] [(.int (2 : Int32))])) _
          refine XS.iload X42.here hx rfl (hb hby at_129) rfl ?_
          show Steps p.tables e below (T42.setTop (mkF m 131 #[.val (.int p1), .val (.int p2), .val (.int p3), .val (.int p4), .val (.int (2 : Int32)), .val (.int v7), .val (.int v11), .val (.int v15), .val (.ref b28), .val (.ref b34), .val (.ref b42)] [(.int (2 : Int32)), (.int (2 : Int32))])) _
          refine XS.icmpYes X42.here hx rfl (pc0 := 131) (pc' := 136) rfl (hb hby at_131) rfl (teq (by decide : (2 : Int32) = (2 : Int32))).1 (by decide) (by decide) ?_
          show Steps p.tables e below (T42.setTop (mkF m 136 #[.val (.int p1), .val (.int p2), .val (.int p3), .val (.int p4), .val (.int (2 : Int32)), .val (.int v7), .val (.int v11), .val (.int v15), .val (.ref b28), .val (.ref b34), .val (.ref b42)] [])) _
          refine XS.iload X42.here hx rfl (hb hby at_136) rfl ?_
          show Steps p.tables e below (T42.setTop (mkF m 138 #[.val (.int p1), .val (.int p2), .val (.int p3), .val (.int p4), .val (.int (2 : Int32)), .val (.int v7), .val (.int v11), .val (.int v15), .val (.ref b28), .val (.ref b34), .val (.ref b42)] [(.int (2 : Int32))])) _
          refine XS.ifNo X42.here hx rfl (hb hby at_138) rfl ((if0 _ _).trans (tlt (by decide : (0 : Int32) < (2 : Int32))).2.2.2) ?_
          show Steps p.tables e below (T42.setTop (mkF m 141 #[.val (.int p1), .val (.int p2), .val (.int p3), .val (.int p4), .val (.int (2 : Int32)), .val (.int v7), .val (.int v11), .val (.int v15), .val (.ref b28), .val (.ref b34), .val (.ref b42)] [])) _
          refine XS.aload X42.here hx rfl (hb hby at_141) rfl rfl ?_
          show Steps p.tables e below (T42.setTop (mkF m 143 #[.val (.int p1), .val (.int p2), .val (.int p3), .val (.int p4), .val (.int (2 : Int32)), .val (.int v7), .val (.int v11), .val (.int v15), .val (.ref b28), .val (.ref b34), .val (.ref b42)] [(.ref b42)])) _
          refine XS.iconst X42.here hx rfl (hb hby at_143) ?_
          show Steps p.tables e below (T42.setTop (mkF m 144 #[.val (.int p1), .val (.int p2), .val (.int p3), .val (.int p4), .val (.int (2 : Int32)), .val (.int v7), .val (.int v11), .val (.int v15), .val (.ref b28), .val (.ref b34), .val (.ref b42)] [(.int (0 : Int32)), (.ref b42)])) _
          refine own_ldB X42 hx hZ rfl V42 (by decide) (by decide) (g := (mkF m 144 #[.val (.int p1), .val (.int p2), .val (.int p3), .val (.int p4), .val (.int (2 : Int32)), .val (.int v7), .val (.int v11), .val (.int v15), .val (.ref b28), .val (.ref b34), .val (.ref b42)] [(.int (0 : Int32)), (.ref b42)])) rfl rfl (hb hby at_144) _ ?_
          show Steps p.tables e below (T42.setTop (mkF m 145 #[.val (.int p1), .val (.int p2), .val (.int p3), .val (.int p4), .val (.int (2 : Int32)), .val (.int v7), .val (.int v11), .val (.int v15), .val (.ref b28), .val (.ref b34), .val (.ref b42)] [(.int (nar .byte v7))])) _
          refine XS.iload X42.here hx rfl (hb hby at_145) rfl ?_
          show Steps p.tables e below (T42.setTop (mkF m 147 #[.val (.int p1), .val (.int p2), .val (.int p3), .val (.int p4), .val (.int (2 : Int32)), .val (.int v7), .val (.int v11), .val (.int v15), .val (.ref b28), .val (.ref b34), .val (.ref b42)] [(.int v7), (.int (nar .byte v7))])) _
          refine XS.icmpYes X42.here hx rfl (pc0 := 147) (pc' := 152) rfl (hb hby at_147) rfl (teq (own_nb hv7)).1 (by decide) (by decide) ?_
          show Steps p.tables e below (T42.setTop (mkF m 152 #[.val (.int p1), .val (.int p2), .val (.int p3), .val (.int p4), .val (.int (2 : Int32)), .val (.int v7), .val (.int v11), .val (.int v15), .val (.ref b28), .val (.ref b34), .val (.ref b42)] [])) _
          refine XS.iload X42.here hx rfl (hb hby at_152) rfl ?_
          show Steps p.tables e below (T42.setTop (mkF m 154 #[.val (.int p1), .val (.int p2), .val (.int p3), .val (.int p4), .val (.int (2 : Int32)), .val (.int v7), .val (.int v11), .val (.int v15), .val (.ref b28), .val (.ref b34), .val (.ref b42)] [(.int (2 : Int32))])) _
          refine XS.iconst X42.here hx rfl (hb hby at_154) ?_
          show Steps p.tables e below (T42.setTop (mkF m 155 #[.val (.int p1), .val (.int p2), .val (.int p3), .val (.int p4), .val (.int (2 : Int32)), .val (.int v7), .val (.int v11), .val (.int v15), .val (.ref b28), .val (.ref b34), .val (.ref b42)] [(.int (1 : Int32)), (.int (2 : Int32))])) _
          refine XS.icmpNo X42.here hx rfl (hb hby at_155) rfl (tlt (by decide : (1 : Int32) < (2 : Int32))).2.2.2 ?_
          show Steps p.tables e below (T42.setTop (mkF m 158 #[.val (.int p1), .val (.int p2), .val (.int p3), .val (.int p4), .val (.int (2 : Int32)), .val (.int v7), .val (.int v11), .val (.int v15), .val (.ref b28), .val (.ref b34), .val (.ref b42)] [])) _
          refine XS.aload X42.here hx rfl (hb hby at_158) rfl rfl ?_
          show Steps p.tables e below (T42.setTop (mkF m 160 #[.val (.int p1), .val (.int p2), .val (.int p3), .val (.int p4), .val (.int (2 : Int32)), .val (.int v7), .val (.int v11), .val (.int v15), .val (.ref b28), .val (.ref b34), .val (.ref b42)] [(.ref b42)])) _
          refine XS.iconst X42.here hx rfl (hb hby at_160) ?_
          show Steps p.tables e below (T42.setTop (mkF m 161 #[.val (.int p1), .val (.int p2), .val (.int p3), .val (.int p4), .val (.int (2 : Int32)), .val (.int v7), .val (.int v11), .val (.int v15), .val (.ref b28), .val (.ref b34), .val (.ref b42)] [(.int (1 : Int32)), (.ref b42)])) _
          refine own_ldB X42 hx hZ rfl V42 (by decide) (by decide) (g := (mkF m 161 #[.val (.int p1), .val (.int p2), .val (.int p3), .val (.int p4), .val (.int (2 : Int32)), .val (.int v7), .val (.int v11), .val (.int v15), .val (.ref b28), .val (.ref b34), .val (.ref b42)] [(.int (1 : Int32)), (.ref b42)])) rfl rfl (hb hby at_161) _ ?_
          show Steps p.tables e below (T42.setTop (mkF m 162 #[.val (.int p1), .val (.int p2), .val (.int p3), .val (.int p4), .val (.int (2 : Int32)), .val (.int v7), .val (.int v11), .val (.int v15), .val (.ref b28), .val (.ref b34), .val (.ref b42)] [(.int (nar .byte v11))])) _
          refine XS.iload X42.here hx rfl (hb hby at_162) rfl ?_
          show Steps p.tables e below (T42.setTop (mkF m 164 #[.val (.int p1), .val (.int p2), .val (.int p3), .val (.int p4), .val (.int (2 : Int32)), .val (.int v7), .val (.int v11), .val (.int v15), .val (.ref b28), .val (.ref b34), .val (.ref b42)] [(.int v11), (.int (nar .byte v11))])) _
          refine XS.icmpYes X42.here hx rfl (pc0 := 164) (pc' := 169) rfl (hb hby at_164) rfl (teq (own_nb hv11)).1 (by decide) (by decide) ?_
          show Steps p.tables e below (T42.setTop (mkF m 169 #[.val (.int p1), .val (.int p2), .val (.int p3), .val (.int p4), .val (.int (2 : Int32)), .val (.int v7), .val (.int v11), .val (.int v15), .val (.ref b28), .val (.ref b34), .val (.ref b42)] [])) _
          refine XS.iload X42.here hx rfl (hb hby at_169) rfl ?_
          show Steps p.tables e below (T42.setTop (mkF m 171 #[.val (.int p1), .val (.int p2), .val (.int p3), .val (.int p4), .val (.int (2 : Int32)), .val (.int v7), .val (.int v11), .val (.int v15), .val (.ref b28), .val (.ref b34), .val (.ref b42)] [(.int (2 : Int32))])) _
          refine XS.iconst X42.here hx rfl (hb hby at_171) ?_
          show Steps p.tables e below (T42.setTop (mkF m 172 #[.val (.int p1), .val (.int p2), .val (.int p3), .val (.int p4), .val (.int (2 : Int32)), .val (.int v7), .val (.int v11), .val (.int v15), .val (.ref b28), .val (.ref b34), .val (.ref b42)] [(.int (2 : Int32)), (.int (2 : Int32))])) _
          refine XS.icmpYes X42.here hx rfl (pc0 := 172) (pc' := 186) rfl (hb hby at_172) rfl (flt (by decide : ¬ (2 : Int32) < (2 : Int32))).2.2.2 (by decide) (by decide) ?_
          show Steps p.tables e below (T42.setTop (mkF m 186 #[.val (.int p1), .val (.int p2), .val (.int p3), .val (.int p4), .val (.int (2 : Int32)), .val (.int v7), .val (.int v11), .val (.int v15), .val (.ref b28), .val (.ref b34), .val (.ref b42)] [])) _
          refine XS.iconst X42.here hx rfl (hb hby at_186) ?_
          show Steps p.tables e below (T42.setTop (mkF m 187 #[.val (.int p1), .val (.int p2), .val (.int p3), .val (.int p4), .val (.int (2 : Int32)), .val (.int v7), .val (.int v11), .val (.int v15), .val (.ref b28), .val (.ref b34), .val (.ref b42)] [(.int (1 : Int32))])) _
          exact k
        obtain ⟨fs, hr, hrun, hended, hREW⟩ := Stand.leaveW (s := s) (vm₁ := T34.vm) X42 hS34 hk42 (v := some (.int (nar .boolean (1 : Int32)))) (fun h => by rw [Bd.returns] at h; cases h)
        refine ⟨_, _, pre43 _ ?_, hrun, hended, _, _, rfl, ?_, hREW.1, hREW.2.1, hREW.2.2.1, hREW.2.2.2.mono (by decide) (by decide)⟩
        · show Steps p.tables e below (T42.setTop (mkF m 187 #[.val (.int p1), .val (.int p2), .val (.int p3), .val (.int p4), .val (.int (2 : Int32)), .val (.int v7), .val (.int v11), .val (.int v15), .val (.ref b28), .val (.ref b34), .val (.ref b42)] [(.int (1 : Int32))])) _
          exact retN X42 hx (t := .boolean) Bd.returns (by simp) (hb hby at_187) hr
        · show Q0 Z p1 p2 p3 p4 h0 n0 _ T42.heap _
          exact ⟨rfl, N42⟩
      · have hM3 : v3 = (3 : Int32) := own_m3 hv3 hM0 hM1 hM2
        have preM := pre4
        rw [hM3] at preM
        have pre44 : ∀ t, Steps p.tables e below (s₁.setTop (mkF m 19 #[.val (.int p1), .val (.int p2), .val (.int p3), .val (.int p4), .val (.int (3 : Int32)), .val (.int v7), .val (.int v11), .val (.int v15), .unset, .unset, .unset] [(.int (3 : Int32))])) t → Steps p.tables e below (s₁.setTop (entryFrame m #[(.int p1), (.int p2), (.int p3), (.int p4)] maxLocals)) t := by
          intro t k
          refine preM t ?_
          refine XS.iload X0.here hx rfl (hb hby at_17) rfl ?_
          show Steps p.tables e below (s₁.setTop (mkF m 19 #[.val (.int p1), .val (.int p2), .val (.int p3), .val (.int p4), .val (.int (3 : Int32)), .val (.int v7), .val (.int v11), .val (.int v15), .unset, .unset, .unset] [(.int (3 : Int32))])) _
          exact k
        obtain ⟨T45, h45, k45, X45, e45, E45, A45, Ax45, st45⟩ := newPE X0 hx hZ (hw _ (List.mem_of_getElem? (i := 0) rfl)) e0 (g := (mkF m 19 #[.val (.int p1), .val (.int p2), .val (.int p3), .val (.int p4), .val (.int (3 : Int32)), .val (.int v7), .val (.int v11), .val (.int v15), .unset, .unset, .unset] [(.int (3 : Int32))])) rfl (hb hby at_19) rfl (by decide) (cap := 3) (by decide) (by decide) (by decide) (by decide) (ad := "[B") (by decide)
        obtain ⟨b45, g45⟩ : ∃ z, z = h0.size := ⟨_, rfl⟩
        rw [← g45] at A45 st45 Ax45
        have gg45 : n0 ≤ b45 := Nat.le_trans Z0 (Nat.le_of_eq g45.symm)
        have Z45 : n0 ≤ h45.size := Nat.le_trans Z0 E45.1
        have hk45 := Nat.le_trans hk0 E45.1
        have V45 : own_AI Z h45 b45 .byte (3 : Int32) (fun _ => 0) := own_AI.new A45 (by decide) rfl
        have V45' := own_AI.z3 V45
        have pre45 : ∀ t, Steps p.tables e below (T45.setTop (mkF m 21 #[.val (.int p1), .val (.int p2), .val (.int p3), .val (.int p4), .val (.int (3 : Int32)), .val (.int v7), .val (.int v11), .val (.int v15), .unset, .unset, .unset] [(.ref b45)])) t → Steps p.tables e below (s₁.setTop (entryFrame m #[(.int p1), (.int p2), (.int p3), (.int p4)] maxLocals)) t := fun t k => pre44 t (st45 _ k)
        have pre46 : ∀ t, Steps p.tables e below (T45.setTop (mkF m 33 #[.val (.int p1), .val (.int p2), .val (.int p3), .val (.int p4), .val (.int (3 : Int32)), .val (.int v7), .val (.int v11), .val (.int v15), .val (.ref b45), .unset, .unset] [(.int v7), (.int (0 : Int32)), (.ref b45)])) t → Steps p.tables e below (s₁.setTop (entryFrame m #[(.int p1), (.int p2), (.int p3), (.int p4)] maxLocals)) t := by
          intro t k
          refine pre45 t ?_
          refine XS.astore X45.here hx rfl (hb hby at_21) rfl rfl (l' := #[.val (.int p1), .val (.int p2), .val (.int p3), .val (.int p4), .val (.int (3 : Int32)), .val (.int v7), .val (.int v11), .val (.int v15), .val (.ref b45), .unset, .unset]) rfl ?_
          show Steps p.tables e below (T45.setTop (mkF m 23 #[.val (.int p1), .val (.int p2), .val (.int p3), .val (.int p4), .val (.int (3 : Int32)), .val (.int v7), .val (.int v11), .val (.int v15), .val (.ref b45), .unset, .unset] [])) _
          refine XS.iload X45.here hx rfl (hb hby at_23) rfl ?_
          show Steps p.tables e below (T45.setTop (mkF m 25 #[.val (.int p1), .val (.int p2), .val (.int p3), .val (.int p4), .val (.int (3 : Int32)), .val (.int v7), .val (.int v11), .val (.int v15), .val (.ref b45), .unset, .unset] [(.int (3 : Int32))])) _
          refine XS.ifNo X45.here hx rfl (hb hby at_25) rfl ((if0 _ _).trans (tlt (by decide : (0 : Int32) < (3 : Int32))).2.2.2) ?_
          show Steps p.tables e below (T45.setTop (mkF m 28 #[.val (.int p1), .val (.int p2), .val (.int p3), .val (.int p4), .val (.int (3 : Int32)), .val (.int v7), .val (.int v11), .val (.int v15), .val (.ref b45), .unset, .unset] [])) _
          refine XS.aload X45.here hx rfl (hb hby at_28) rfl rfl ?_
          show Steps p.tables e below (T45.setTop (mkF m 30 #[.val (.int p1), .val (.int p2), .val (.int p3), .val (.int p4), .val (.int (3 : Int32)), .val (.int v7), .val (.int v11), .val (.int v15), .val (.ref b45), .unset, .unset] [(.ref b45)])) _
          refine XS.iconst X45.here hx rfl (hb hby at_30) ?_
          show Steps p.tables e below (T45.setTop (mkF m 31 #[.val (.int p1), .val (.int p2), .val (.int p3), .val (.int p4), .val (.int (3 : Int32)), .val (.int v7), .val (.int v11), .val (.int v15), .val (.ref b45), .unset, .unset] [(.int (0 : Int32)), (.ref b45)])) _
          refine XS.iload X45.here hx rfl (hb hby at_31) rfl ?_
          show Steps p.tables e below (T45.setTop (mkF m 33 #[.val (.int p1), .val (.int p2), .val (.int p3), .val (.int p4), .val (.int (3 : Int32)), .val (.int v7), .val (.int v11), .val (.int v15), .val (.ref b45), .unset, .unset] [(.int v7), (.int (0 : Int32)), (.ref b45)])) _
          exact k
        obtain ⟨T47, h47, X47, e47, W47, V47, st47⟩ := own_stB X45 hx hZ e45 V45' (by decide) (by decide) (g := (mkF m 33 #[.val (.int p1), .val (.int p2), .val (.int p3), .val (.int p4), .val (.int (3 : Int32)), .val (.int v7), .val (.int v11), .val (.int v15), .val (.ref b45), .unset, .unset] [(.int v7), (.int (0 : Int32)), (.ref b45)])) rfl rfl (hb hby at_33)
        have F47_0 := Ax45.wr W47
        have F47_1 := V47
        have Z47 : n0 ≤ h47.size := Nat.le_trans Z45 (Keep.of_wr W47).1
        have hk47 := Nat.le_trans hk45 (Keep.of_wr W47).1
        have N47 := Fr.snoc X47 N0 gg45
        have U47 : own_AI Z h47 b45 .byte (3 : Int32) (own_3 (nar .byte v7) (0 : Int32) (0 : Int32)) := own_AI.t0 (by decide) F47_1
        have pre47 : ∀ t, Steps p.tables e below (T47.setTop (mkF m 34 #[.val (.int p1), .val (.int p2), .val (.int p3), .val (.int p4), .val (.int (3 : Int32)), .val (.int v7), .val (.int v11), .val (.int v15), .val (.ref b45), .unset, .unset] [])) t → Steps p.tables e below (s₁.setTop (entryFrame m #[(.int p1), (.int p2), (.int p3), (.int p4)] maxLocals)) t := fun t k => pre46 t (st47 _ k)
        have pre48 : ∀ t, Steps p.tables e below (T47.setTop (mkF m 45 #[.val (.int p1), .val (.int p2), .val (.int p3), .val (.int p4), .val (.int (3 : Int32)), .val (.int v7), .val (.int v11), .val (.int v15), .val (.ref b45), .unset, .unset] [(.int v11), (.int (1 : Int32)), (.ref b45)])) t → Steps p.tables e below (s₁.setTop (entryFrame m #[(.int p1), (.int p2), (.int p3), (.int p4)] maxLocals)) t := by
          intro t k
          refine pre47 t ?_
          refine XS.iload X47.here hx rfl (hb hby at_34) rfl ?_
          show Steps p.tables e below (T47.setTop (mkF m 36 #[.val (.int p1), .val (.int p2), .val (.int p3), .val (.int p4), .val (.int (3 : Int32)), .val (.int v7), .val (.int v11), .val (.int v15), .val (.ref b45), .unset, .unset] [(.int (3 : Int32))])) _
          refine XS.iconst X47.here hx rfl (hb hby at_36) ?_
          show Steps p.tables e below (T47.setTop (mkF m 37 #[.val (.int p1), .val (.int p2), .val (.int p3), .val (.int p4), .val (.int (3 : Int32)), .val (.int v7), .val (.int v11), .val (.int v15), .val (.ref b45), .unset, .unset] [(.int (1 : Int32)), (.int (3 : Int32))])) _
          refine XS.icmpNo X47.here hx rfl (hb hby at_37) rfl (tlt (by decide : (1 : Int32) < (3 : Int32))).2.2.2 ?_
          show Steps p.tables e below (T47.setTop (mkF m 40 #[.val (.int p1), .val (.int p2), .val (.int p3), .val (.int p4), .val (.int (3 : Int32)), .val (.int v7), .val (.int v11), .val (.int v15), .val (.ref b45), .unset, .unset] [])) _
          refine XS.aload X47.here hx rfl (hb hby at_40) rfl rfl ?_
          show Steps p.tables e below (T47.setTop (mkF m 42 #[.val (.int p1), .val (.int p2), .val (.int p3), .val (.int p4), .val (.int (3 : Int32)), .val (.int v7), .val (.int v11), .val (.int v15), .val (.ref b45), .unset, .unset] [(.ref b45)])) _
          refine XS.iconst X47.here hx rfl (hb hby at_42) ?_
          show Steps p.tables e below (T47.setTop (mkF m 43 #[.val (.int p1), .val (.int p2), .val (.int p3), .val (.int p4), .val (.int (3 : Int32)), .val (.int v7), .val (.int v11), .val (.int v15), .val (.ref b45), .unset, .unset] [(.int (1 : Int32)), (.ref b45)])) _
          refine XS.iload X47.here hx rfl (hb hby at_43) rfl ?_
          show Steps p.tables e below (T47.setTop (mkF m 45 #[.val (.int p1), .val (.int p2), .val (.int p3), .val (.int p4), .val (.int (3 : Int32)), .val (.int v7), .val (.int v11), .val (.int v15), .val (.ref b45), .unset, .unset] [(.int v11), (.int (1 : Int32)), (.ref b45)])) _
          exact k
        obtain ⟨T49, h49, X49, e49, W49, V49, st49⟩ := own_stB X47 hx hZ e47 U47 (by decide) (by decide) (g := (mkF m 45 #[.val (.int p1), .val (.int p2), .val (.int p3), .val (.int p4), .val (.int (3 : Int32)), .val (.int v7), .val (.int v11), .val (.int v15), .val (.ref b45), .unset, .unset] [(.int v11), (.int (1 : Int32)), (.ref b45)])) rfl rfl (hb hby at_45)
        have F49_0 := F47_0.wr W49
        have F49_1 := V49
        have Z49 : n0 ≤ h49.size := Nat.le_trans Z47 (Keep.of_wr W49).1
        have hk49 := Nat.le_trans hk47 (Keep.of_wr W49).1
        have N49 := Fr.snoc X49 N47 gg45
        have U49 : own_AI Z h49 b45 .byte (3 : Int32) (own_3 (nar .byte v7) (nar .byte v11) (0 : Int32)) := own_AI.t1 (by decide) F49_1
        have pre49 : ∀ t, Steps p.tables e below (T49.setTop (mkF m 46 #[.val (.int p1), .val (.int p2), .val (.int p3), .val (.int p4), .val (.int (3 : Int32)), .val (.int v7), .val (.int v11), .val (.int v15), .val (.ref b45), .unset, .unset] [])) t → Steps p.tables e below (s₁.setTop (entryFrame m #[(.int p1), (.int p2), (.int p3), (.int p4)] maxLocals)) t := fun t k => pre48 t (st49 _ k)
        have pre50 : ∀ t, Steps p.tables e below (T49.setTop (mkF m 57 #[.val (.int p1), .val (.int p2), .val (.int p3), .val (.int p4), .val (.int (3 : Int32)), .val (.int v7), .val (.int v11), .val (.int v15), .val (.ref b45), .unset, .unset] [(.int v15), (.int (2 : Int32)), (.ref b45)])) t → Steps p.tables e below (s₁.setTop (entryFrame m #[(.int p1), (.int p2), (.int p3), (.int p4)] maxLocals)) t := by
          intro t k
          refine pre49 t ?_
          refine XS.iload X49.here hx rfl (hb hby at_46) rfl ?_
          show Steps p.tables e below (T49.setTop (mkF m 48 #[.val (.int p1), .val (.int p2), .val (.int p3), .val (.int p4), .val (.int (3 : Int32)), .val (.int v7), .val (.int v11), .val (.int v15), .val (.ref b45), .unset, .unset] [(.int (3 : Int32))])) _
          refine XS.iconst X49.here hx rfl (hb hby at_48) ?_
          show Steps p.tables e below (T49.setTop (mkF m 49 #[.val (.int p1), .val (.int p2), .val (.int p3), .val (.int p4), .val (.int (3 : Int32)), .val (.int v7), .val (.int v11), .val (.int v15), .val (.ref b45), .unset, .unset] [(.int (2 : Int32)), (.int (3 : Int32))])) _
          refine XS.icmpNo X49.here hx rfl (hb hby at_49) rfl (tlt (by decide : (2 : Int32) < (3 : Int32))).2.2.2 ?_
          show Steps p.tables e below (T49.setTop (mkF m 52 #[.val (.int p1), .val (.int p2), .val (.int p3), .val (.int p4), .val (.int (3 : Int32)), .val (.int v7), .val (.int v11), .val (.int v15), .val (.ref b45), .unset, .unset] [])) _
          refine XS.aload X49.here hx rfl (hb hby at_52) rfl rfl ?_
          show Steps p.tables e below (T49.setTop (mkF m 54 #[.val (.int p1), .val (.int p2), .val (.int p3), .val (.int p4), .val (.int (3 : Int32)), .val (.int v7), .val (.int v11), .val (.int v15), .val (.ref b45), .unset, .unset] [(.ref b45)])) _
          refine XS.iconst X49.here hx rfl (hb hby at_54) ?_
          show Steps p.tables e below (T49.setTop (mkF m 55 #[.val (.int p1), .val (.int p2), .val (.int p3), .val (.int p4), .val (.int (3 : Int32)), .val (.int v7), .val (.int v11), .val (.int v15), .val (.ref b45), .unset, .unset] [(.int (2 : Int32)), (.ref b45)])) _
          refine XS.iload X49.here hx rfl (hb hby at_55) rfl ?_
          show Steps p.tables e below (T49.setTop (mkF m 57 #[.val (.int p1), .val (.int p2), .val (.int p3), .val (.int p4), .val (.int (3 : Int32)), .val (.int v7), .val (.int v11), .val (.int v15), .val (.ref b45), .unset, .unset] [(.int v15), (.int (2 : Int32)), (.ref b45)])) _
          exact k
        obtain ⟨T51, h51, X51, e51, W51, V51, st51⟩ := own_stB X49 hx hZ e49 U49 (by decide) (by decide) (g := (mkF m 57 #[.val (.int p1), .val (.int p2), .val (.int p3), .val (.int p4), .val (.int (3 : Int32)), .val (.int v7), .val (.int v11), .val (.int v15), .val (.ref b45), .unset, .unset] [(.int v15), (.int (2 : Int32)), (.ref b45)])) rfl rfl (hb hby at_57)
        have F51_0 := F49_0.wr W51
        have F51_1 := V51
        have Z51 : n0 ≤ h51.size := Nat.le_trans Z49 (Keep.of_wr W51).1
        have hk51 := Nat.le_trans hk49 (Keep.of_wr W51).1
        have N51 := Fr.snoc X51 N49 gg45
        have U51 : own_AI Z h51 b45 .byte (3 : Int32) (own_3 (nar .byte v7) (nar .byte v11) (nar .byte v15)) := own_AI.t2 (by decide) F51_1
        have pre51 : ∀ t, Steps p.tables e below (T51.setTop (mkF m 58 #[.val (.int p1), .val (.int p2), .val (.int p3), .val (.int p4), .val (.int (3 : Int32)), .val (.int v7), .val (.int v11), .val (.int v15), .val (.ref b45), .unset, .unset] [])) t → Steps p.tables e below (s₁.setTop (entryFrame m #[(.int p1), (.int p2), (.int p3), (.int p4)] maxLocals)) t := fun t k => pre50 t (st51 _ k)
        have pre52 : ∀ t, Steps p.tables e below (T51.setTop (mkF m 60 #[.val (.int p1), .val (.int p2), .val (.int p3), .val (.int p4), .val (.int (3 : Int32)), .val (.int v7), .val (.int v11), .val (.int v15), .val (.ref b45), .unset, .unset] [(.ref b45)])) t → Steps p.tables e below (s₁.setTop (entryFrame m #[(.int p1), (.int p2), (.int p3), (.int p4)] maxLocals)) t := by
          intro t k
          refine pre51 t ?_
          refine XS.aload X51.here hx rfl (hb hby at_58) rfl rfl ?_
          show Steps p.tables e below (T51.setTop (mkF m 60 #[.val (.int p1), .val (.int p2), .val (.int p3), .val (.int p4), .val (.int (3 : Int32)), .val (.int v7), .val (.int v11), .val (.int v15), .val (.ref b45), .unset, .unset] [(.ref b45)])) _
          exact k
        obtain ⟨_, _, ⟨T53, L53, k53, n53⟩, -, X53, hs53, hg53, ⟨Lc53, hQ53, l53, y53, z53⟩, st53⟩ := callSS X51 hx (y := (⟨"com/example/tally/tally/model/Outcome", "failure", "([B)Lcom/example/tally/tally/model/Outcome;"⟩ : MethodName)) hown (mvT hZ (hw _ (List.mem_of_getElem? (i := 1) rfl))) (mvT hZ (hw _ (List.mem_of_getElem? (i := 2) rfl))) (mvT hZ (hw _ (List.mem_of_getElem? (i := 3) rfl))) (mvT hZ (hw _ (List.mem_of_getElem? (i := 4) rfl))) (by decide) (backOfS (W := 0) (rmM l Z a0 hw [] b45 (3 : Int32) (own_3 (nar .byte v7) (nar .byte v11) (nar .byte v15)) h51 n0 Z51 U51 F51_0 (own_fit3 (fits_nar_byte _) (fits_nar_byte _) (fits_nar_byte _)) (by decide)) hZ (hw _ (List.mem_of_getElem? (i := 4) rfl)) (hw _ (List.mem_of_getElem? (i := 3) rfl)) (by decide) (by decide)) (g := (mkF m 60 #[.val (.int p1), .val (.int p2), .val (.int p3), .val (.int p4), .val (.int (3 : Int32)), .val (.int v7), .val (.int v11), .val (.int v15), .val (.ref b45), .unset, .unset] [(.ref b45)])) rfl (by rw [hml]; rfl) (argsL := [(.ref b45)]) (rest := []) (lenOf pd0_0 rfl) rfl (by show 2 * 0 + _ ≤ _; exact Nat.le_of_eq rfl) (hb hby at_60) (fun _ _ => ⟨rfl, e51, (by decide : 1 + 4 ≤ _), (by decide : 3 + 29 ≤ _)⟩)
        dsimp only [Pt.U, Pt.locs, Pt.cells, Pt.slots] at X53 l53 y53 z53 st53 hQ53 hs53 hg53
        subst l53 y53 z53
        obtain ⟨X53, hS53, hZ, hown⟩ := rebS (s := s) (vm0 := s.vm) hS0 (by rw [e51]; exact hk51) X53 hs53 hg53 hZ hown
        have hk53 : T53.heap.size ≤ T53.heap.size := Nat.le_refl _
        obtain ⟨b53, d53, rfl, Nq53, Kc53, gg53, sd53, Ec53, Fa53, Fb53, V53, Ax53, sb53⟩ := hQ53
        have ne53 : b45 ≠ d53 := Nat.ne_of_lt (Nat.lt_of_lt_of_le F51_0.lt sd53)
        have nf53 : b45 ≠ b53 := Nat.ne_of_lt (Nat.lt_of_lt_of_le F51_0.lt sb53)
        have F53_0 := F51_0.keep Kc53
        have F53_1 := U51.keep Kc53 nin0
        have Z53 : n0 ≤ T53.heap.size := Nat.le_trans Z51 Kc53.1
        have N53 := Fr.app N51 Nq53
        have pre53 : ∀ t, Steps p.tables e below (T53.setTop (mkF m 63 #[.val (.int p1), .val (.int p2), .val (.int p3), .val (.int p4), .val (.int (3 : Int32)), .val (.int v7), .val (.int v11), .val (.int v15), .val (.ref b45), .unset, .unset] [(.ref b53)])) t → Steps p.tables e below (s₁.setTop (entryFrame m #[(.int p1), (.int p2), (.int p3), (.int p4)] maxLocals)) t := fun t k => pre52 t (st53.trans k)
        have pre54 : ∀ t, Steps p.tables e below (T53.setTop (mkF m 78 #[.val (.int p1), .val (.int p2), .val (.int p3), .val (.int p4), .val (.int (3 : Int32)), .val (.int v7), .val (.int v11), .val (.int v15), .val (.ref b45), .val (.ref b53), .unset] [(.int ((v7 ^^^ (-1 : Int32)).toInt8.toInt32)), (.int (0 : Int32)), (.ref b45)])) t → Steps p.tables e below (s₁.setTop (entryFrame m #[(.int p1), (.int p2), (.int p3), (.int p4)] maxLocals)) t := by
          intro t k
          refine pre53 t ?_
          refine XS.astore X53.here hx rfl (hb hby at_63) rfl rfl (l' := #[.val (.int p1), .val (.int p2), .val (.int p3), .val (.int p4), .val (.int (3 : Int32)), .val (.int v7), .val (.int v11), .val (.int v15), .val (.ref b45), .val (.ref b53), .unset]) rfl ?_
          show Steps p.tables e below (T53.setTop (mkF m 65 #[.val (.int p1), .val (.int p2), .val (.int p3), .val (.int p4), .val (.int (3 : Int32)), .val (.int v7), .val (.int v11), .val (.int v15), .val (.ref b45), .val (.ref b53), .unset] [])) _
          refine XS.iload X53.here hx rfl (hb hby at_65) rfl ?_
          show Steps p.tables e below (T53.setTop (mkF m 67 #[.val (.int p1), .val (.int p2), .val (.int p3), .val (.int p4), .val (.int (3 : Int32)), .val (.int v7), .val (.int v11), .val (.int v15), .val (.ref b45), .val (.ref b53), .unset] [(.int (3 : Int32))])) _
          refine XS.ifNo X53.here hx rfl (hb hby at_67) rfl ((if0 _ _).trans (tlt (by decide : (0 : Int32) < (3 : Int32))).2.2.2) ?_
          show Steps p.tables e below (T53.setTop (mkF m 70 #[.val (.int p1), .val (.int p2), .val (.int p3), .val (.int p4), .val (.int (3 : Int32)), .val (.int v7), .val (.int v11), .val (.int v15), .val (.ref b45), .val (.ref b53), .unset] [])) _
          refine XS.aload X53.here hx rfl (hb hby at_70) rfl rfl ?_
          show Steps p.tables e below (T53.setTop (mkF m 72 #[.val (.int p1), .val (.int p2), .val (.int p3), .val (.int p4), .val (.int (3 : Int32)), .val (.int v7), .val (.int v11), .val (.int v15), .val (.ref b45), .val (.ref b53), .unset] [(.ref b45)])) _
          refine XS.iconst X53.here hx rfl (hb hby at_72) ?_
          show Steps p.tables e below (T53.setTop (mkF m 73 #[.val (.int p1), .val (.int p2), .val (.int p3), .val (.int p4), .val (.int (3 : Int32)), .val (.int v7), .val (.int v11), .val (.int v15), .val (.ref b45), .val (.ref b53), .unset] [(.int (0 : Int32)), (.ref b45)])) _
          refine XS.iload X53.here hx rfl (hb hby at_73) rfl ?_
          show Steps p.tables e below (T53.setTop (mkF m 75 #[.val (.int p1), .val (.int p2), .val (.int p3), .val (.int p4), .val (.int (3 : Int32)), .val (.int v7), .val (.int v11), .val (.int v15), .val (.ref b45), .val (.ref b53), .unset] [(.int v7), (.int (0 : Int32)), (.ref b45)])) _
          refine XS.iconst X53.here hx rfl (hb hby at_75) ?_
          show Steps p.tables e below (T53.setTop (mkF m 76 #[.val (.int p1), .val (.int p2), .val (.int p3), .val (.int p4), .val (.int (3 : Int32)), .val (.int v7), .val (.int v11), .val (.int v15), .val (.ref b45), .val (.ref b53), .unset] [(.int (-1 : Int32)), (.int v7), (.int (0 : Int32)), (.ref b45)])) _
          refine XS.ixor X53.here hx rfl (hb hby at_76) rfl ?_
          show Steps p.tables e below (T53.setTop (mkF m 77 #[.val (.int p1), .val (.int p2), .val (.int p3), .val (.int p4), .val (.int (3 : Int32)), .val (.int v7), .val (.int v11), .val (.int v15), .val (.ref b45), .val (.ref b53), .unset] [(.int (v7 ^^^ (-1 : Int32))), (.int (0 : Int32)), (.ref b45)])) _
          refine XS.i2b X53.here hx rfl (hb hby at_77) rfl ?_
          show Steps p.tables e below (T53.setTop (mkF m 78 #[.val (.int p1), .val (.int p2), .val (.int p3), .val (.int p4), .val (.int (3 : Int32)), .val (.int v7), .val (.int v11), .val (.int v15), .val (.ref b45), .val (.ref b53), .unset] [(.int ((v7 ^^^ (-1 : Int32)).toInt8.toInt32)), (.int (0 : Int32)), (.ref b45)])) _
          exact k
        obtain ⟨T55, h55, X55, e55, W55, V55, st55⟩ := own_stB X53 hx hZ rfl F53_1 (by decide) (by decide) (g := (mkF m 78 #[.val (.int p1), .val (.int p2), .val (.int p3), .val (.int p4), .val (.int (3 : Int32)), .val (.int v7), .val (.int v11), .val (.int v15), .val (.ref b45), .val (.ref b53), .unset] [(.int ((v7 ^^^ (-1 : Int32)).toInt8.toInt32)), (.int (0 : Int32)), (.ref b45)])) rfl rfl (hb hby at_78)
        have F55_0 := Fa53.other W55 (Or.inl (Ne.symm nf53))
        have F55_1 := Fb53.other W55 (Or.inl (Ne.symm nf53))
        have F55_2 := F53_0.wr W55
        have F55_3 := Ec53.wr W55
        have F55_4 := Ax53.wr W55
        have F55_5 := V55
        have F55_6 := V53.other W55 (Ne.symm ne53)
        have Z55 : n0 ≤ h55.size := Nat.le_trans Z53 (Keep.of_wr W55).1
        have hk55 := Nat.le_trans hk53 (Keep.of_wr W55).1
        have N55 := Fr.snoc X55 N53 gg45
        have U55 : own_AI Z h55 b45 .byte (3 : Int32) (own_3 (nar .byte ((v7 ^^^ (-1 : Int32)).toInt8.toInt32)) (nar .byte v11) (nar .byte v15)) := own_AI.t0 (by decide) F55_5
        have pre55 : ∀ t, Steps p.tables e below (T55.setTop (mkF m 79 #[.val (.int p1), .val (.int p2), .val (.int p3), .val (.int p4), .val (.int (3 : Int32)), .val (.int v7), .val (.int v11), .val (.int v15), .val (.ref b45), .val (.ref b53), .unset] [])) t → Steps p.tables e below (s₁.setTop (entryFrame m #[(.int p1), (.int p2), (.int p3), (.int p4)] maxLocals)) t := fun t k => pre54 t (st55 _ k)
        have pre56 : ∀ t, Steps p.tables e below (T55.setTop (mkF m 93 #[.val (.int p1), .val (.int p2), .val (.int p3), .val (.int p4), .val (.int (3 : Int32)), .val (.int v7), .val (.int v11), .val (.int v15), .val (.ref b45), .val (.ref b53), .unset] [(.int ((v11 ^^^ (-1 : Int32)).toInt8.toInt32)), (.int (1 : Int32)), (.ref b45)])) t → Steps p.tables e below (s₁.setTop (entryFrame m #[(.int p1), (.int p2), (.int p3), (.int p4)] maxLocals)) t := by
          intro t k
          refine pre55 t ?_
          refine XS.iload X55.here hx rfl (hb hby at_79) rfl ?_
          show Steps p.tables e below (T55.setTop (mkF m 81 #[.val (.int p1), .val (.int p2), .val (.int p3), .val (.int p4), .val (.int (3 : Int32)), .val (.int v7), .val (.int v11), .val (.int v15), .val (.ref b45), .val (.ref b53), .unset] [(.int (3 : Int32))])) _
          refine XS.iconst X55.here hx rfl (hb hby at_81) ?_
          show Steps p.tables e below (T55.setTop (mkF m 82 #[.val (.int p1), .val (.int p2), .val (.int p3), .val (.int p4), .val (.int (3 : Int32)), .val (.int v7), .val (.int v11), .val (.int v15), .val (.ref b45), .val (.ref b53), .unset] [(.int (1 : Int32)), (.int (3 : Int32))])) _
          refine XS.icmpNo X55.here hx rfl (hb hby at_82) rfl (tlt (by decide : (1 : Int32) < (3 : Int32))).2.2.2 ?_
          show Steps p.tables e below (T55.setTop (mkF m 85 #[.val (.int p1), .val (.int p2), .val (.int p3), .val (.int p4), .val (.int (3 : Int32)), .val (.int v7), .val (.int v11), .val (.int v15), .val (.ref b45), .val (.ref b53), .unset] [])) _
          refine XS.aload X55.here hx rfl (hb hby at_85) rfl rfl ?_
          show Steps p.tables e below (T55.setTop (mkF m 87 #[.val (.int p1), .val (.int p2), .val (.int p3), .val (.int p4), .val (.int (3 : Int32)), .val (.int v7), .val (.int v11), .val (.int v15), .val (.ref b45), .val (.ref b53), .unset] [(.ref b45)])) _
          refine XS.iconst X55.here hx rfl (hb hby at_87) ?_
          show Steps p.tables e below (T55.setTop (mkF m 88 #[.val (.int p1), .val (.int p2), .val (.int p3), .val (.int p4), .val (.int (3 : Int32)), .val (.int v7), .val (.int v11), .val (.int v15), .val (.ref b45), .val (.ref b53), .unset] [(.int (1 : Int32)), (.ref b45)])) _
          refine XS.iload X55.here hx rfl (hb hby at_88) rfl ?_
          show Steps p.tables e below (T55.setTop (mkF m 90 #[.val (.int p1), .val (.int p2), .val (.int p3), .val (.int p4), .val (.int (3 : Int32)), .val (.int v7), .val (.int v11), .val (.int v15), .val (.ref b45), .val (.ref b53), .unset] [(.int v11), (.int (1 : Int32)), (.ref b45)])) _
          refine XS.iconst X55.here hx rfl (hb hby at_90) ?_
          show Steps p.tables e below (T55.setTop (mkF m 91 #[.val (.int p1), .val (.int p2), .val (.int p3), .val (.int p4), .val (.int (3 : Int32)), .val (.int v7), .val (.int v11), .val (.int v15), .val (.ref b45), .val (.ref b53), .unset] [(.int (-1 : Int32)), (.int v11), (.int (1 : Int32)), (.ref b45)])) _
          refine XS.ixor X55.here hx rfl (hb hby at_91) rfl ?_
          show Steps p.tables e below (T55.setTop (mkF m 92 #[.val (.int p1), .val (.int p2), .val (.int p3), .val (.int p4), .val (.int (3 : Int32)), .val (.int v7), .val (.int v11), .val (.int v15), .val (.ref b45), .val (.ref b53), .unset] [(.int (v11 ^^^ (-1 : Int32))), (.int (1 : Int32)), (.ref b45)])) _
          refine XS.i2b X55.here hx rfl (hb hby at_92) rfl ?_
          show Steps p.tables e below (T55.setTop (mkF m 93 #[.val (.int p1), .val (.int p2), .val (.int p3), .val (.int p4), .val (.int (3 : Int32)), .val (.int v7), .val (.int v11), .val (.int v15), .val (.ref b45), .val (.ref b53), .unset] [(.int ((v11 ^^^ (-1 : Int32)).toInt8.toInt32)), (.int (1 : Int32)), (.ref b45)])) _
          exact k
        obtain ⟨T57, h57, X57, e57, W57, V57, st57⟩ := own_stB X55 hx hZ e55 U55 (by decide) (by decide) (g := (mkF m 93 #[.val (.int p1), .val (.int p2), .val (.int p3), .val (.int p4), .val (.int (3 : Int32)), .val (.int v7), .val (.int v11), .val (.int v15), .val (.ref b45), .val (.ref b53), .unset] [(.int ((v11 ^^^ (-1 : Int32)).toInt8.toInt32)), (.int (1 : Int32)), (.ref b45)])) rfl rfl (hb hby at_93)
        have F57_0 := F55_0.other W57 (Or.inl (Ne.symm nf53))
        have F57_1 := F55_1.other W57 (Or.inl (Ne.symm nf53))
        have F57_2 := F55_2.wr W57
        have F57_3 := F55_3.wr W57
        have F57_4 := F55_4.wr W57
        have F57_5 := V57
        have F57_6 := F55_6.other W57 (Ne.symm ne53)
        have Z57 : n0 ≤ h57.size := Nat.le_trans Z55 (Keep.of_wr W57).1
        have hk57 := Nat.le_trans hk55 (Keep.of_wr W57).1
        have N57 := Fr.snoc X57 N55 gg45
        have U57 : own_AI Z h57 b45 .byte (3 : Int32) (own_3 (nar .byte ((v7 ^^^ (-1 : Int32)).toInt8.toInt32)) (nar .byte ((v11 ^^^ (-1 : Int32)).toInt8.toInt32)) (nar .byte v15)) := own_AI.t1 (by decide) F57_5
        have pre57 : ∀ t, Steps p.tables e below (T57.setTop (mkF m 94 #[.val (.int p1), .val (.int p2), .val (.int p3), .val (.int p4), .val (.int (3 : Int32)), .val (.int v7), .val (.int v11), .val (.int v15), .val (.ref b45), .val (.ref b53), .unset] [])) t → Steps p.tables e below (s₁.setTop (entryFrame m #[(.int p1), (.int p2), (.int p3), (.int p4)] maxLocals)) t := fun t k => pre56 t (st57 _ k)
        have pre58 : ∀ t, Steps p.tables e below (T57.setTop (mkF m 108 #[.val (.int p1), .val (.int p2), .val (.int p3), .val (.int p4), .val (.int (3 : Int32)), .val (.int v7), .val (.int v11), .val (.int v15), .val (.ref b45), .val (.ref b53), .unset] [(.int ((v15 ^^^ (-1 : Int32)).toInt8.toInt32)), (.int (2 : Int32)), (.ref b45)])) t → Steps p.tables e below (s₁.setTop (entryFrame m #[(.int p1), (.int p2), (.int p3), (.int p4)] maxLocals)) t := by
          intro t k
          refine pre57 t ?_
          refine XS.iload X57.here hx rfl (hb hby at_94) rfl ?_
          show Steps p.tables e below (T57.setTop (mkF m 96 #[.val (.int p1), .val (.int p2), .val (.int p3), .val (.int p4), .val (.int (3 : Int32)), .val (.int v7), .val (.int v11), .val (.int v15), .val (.ref b45), .val (.ref b53), .unset] [(.int (3 : Int32))])) _
          refine XS.iconst X57.here hx rfl (hb hby at_96) ?_
          show Steps p.tables e below (T57.setTop (mkF m 97 #[.val (.int p1), .val (.int p2), .val (.int p3), .val (.int p4), .val (.int (3 : Int32)), .val (.int v7), .val (.int v11), .val (.int v15), .val (.ref b45), .val (.ref b53), .unset] [(.int (2 : Int32)), (.int (3 : Int32))])) _
          refine XS.icmpNo X57.here hx rfl (hb hby at_97) rfl (tlt (by decide : (2 : Int32) < (3 : Int32))).2.2.2 ?_
          show Steps p.tables e below (T57.setTop (mkF m 100 #[.val (.int p1), .val (.int p2), .val (.int p3), .val (.int p4), .val (.int (3 : Int32)), .val (.int v7), .val (.int v11), .val (.int v15), .val (.ref b45), .val (.ref b53), .unset] [])) _
          refine XS.aload X57.here hx rfl (hb hby at_100) rfl rfl ?_
          show Steps p.tables e below (T57.setTop (mkF m 102 #[.val (.int p1), .val (.int p2), .val (.int p3), .val (.int p4), .val (.int (3 : Int32)), .val (.int v7), .val (.int v11), .val (.int v15), .val (.ref b45), .val (.ref b53), .unset] [(.ref b45)])) _
          refine XS.iconst X57.here hx rfl (hb hby at_102) ?_
          show Steps p.tables e below (T57.setTop (mkF m 103 #[.val (.int p1), .val (.int p2), .val (.int p3), .val (.int p4), .val (.int (3 : Int32)), .val (.int v7), .val (.int v11), .val (.int v15), .val (.ref b45), .val (.ref b53), .unset] [(.int (2 : Int32)), (.ref b45)])) _
          refine XS.iload X57.here hx rfl (hb hby at_103) rfl ?_
          show Steps p.tables e below (T57.setTop (mkF m 105 #[.val (.int p1), .val (.int p2), .val (.int p3), .val (.int p4), .val (.int (3 : Int32)), .val (.int v7), .val (.int v11), .val (.int v15), .val (.ref b45), .val (.ref b53), .unset] [(.int v15), (.int (2 : Int32)), (.ref b45)])) _
          refine XS.iconst X57.here hx rfl (hb hby at_105) ?_
          show Steps p.tables e below (T57.setTop (mkF m 106 #[.val (.int p1), .val (.int p2), .val (.int p3), .val (.int p4), .val (.int (3 : Int32)), .val (.int v7), .val (.int v11), .val (.int v15), .val (.ref b45), .val (.ref b53), .unset] [(.int (-1 : Int32)), (.int v15), (.int (2 : Int32)), (.ref b45)])) _
          refine XS.ixor X57.here hx rfl (hb hby at_106) rfl ?_
          show Steps p.tables e below (T57.setTop (mkF m 107 #[.val (.int p1), .val (.int p2), .val (.int p3), .val (.int p4), .val (.int (3 : Int32)), .val (.int v7), .val (.int v11), .val (.int v15), .val (.ref b45), .val (.ref b53), .unset] [(.int (v15 ^^^ (-1 : Int32))), (.int (2 : Int32)), (.ref b45)])) _
          refine XS.i2b X57.here hx rfl (hb hby at_107) rfl ?_
          show Steps p.tables e below (T57.setTop (mkF m 108 #[.val (.int p1), .val (.int p2), .val (.int p3), .val (.int p4), .val (.int (3 : Int32)), .val (.int v7), .val (.int v11), .val (.int v15), .val (.ref b45), .val (.ref b53), .unset] [(.int ((v15 ^^^ (-1 : Int32)).toInt8.toInt32)), (.int (2 : Int32)), (.ref b45)])) _
          exact k
        obtain ⟨T59, h59, X59, e59, W59, V59, st59⟩ := own_stB X57 hx hZ e57 U57 (by decide) (by decide) (g := (mkF m 108 #[.val (.int p1), .val (.int p2), .val (.int p3), .val (.int p4), .val (.int (3 : Int32)), .val (.int v7), .val (.int v11), .val (.int v15), .val (.ref b45), .val (.ref b53), .unset] [(.int ((v15 ^^^ (-1 : Int32)).toInt8.toInt32)), (.int (2 : Int32)), (.ref b45)])) rfl rfl (hb hby at_108)
        have F59_0 := F57_0.other W59 (Or.inl (Ne.symm nf53))
        have F59_1 := F57_1.other W59 (Or.inl (Ne.symm nf53))
        have F59_2 := F57_2.wr W59
        have F59_3 := F57_3.wr W59
        have F59_4 := F57_4.wr W59
        have F59_5 := V59
        have F59_6 := F57_6.other W59 (Ne.symm ne53)
        have Z59 : n0 ≤ h59.size := Nat.le_trans Z57 (Keep.of_wr W59).1
        have hk59 := Nat.le_trans hk57 (Keep.of_wr W59).1
        have N59 := Fr.snoc X59 N57 gg45
        have U59 : own_AI Z h59 b45 .byte (3 : Int32) (own_3 (nar .byte ((v7 ^^^ (-1 : Int32)).toInt8.toInt32)) (nar .byte ((v11 ^^^ (-1 : Int32)).toInt8.toInt32)) (nar .byte ((v15 ^^^ (-1 : Int32)).toInt8.toInt32))) := own_AI.t2 (by decide) F59_5
        have pre59 : ∀ t, Steps p.tables e below (T59.setTop (mkF m 109 #[.val (.int p1), .val (.int p2), .val (.int p3), .val (.int p4), .val (.int (3 : Int32)), .val (.int v7), .val (.int v11), .val (.int v15), .val (.ref b45), .val (.ref b53), .unset] [])) t → Steps p.tables e below (s₁.setTop (entryFrame m #[(.int p1), (.int p2), (.int p3), (.int p4)] maxLocals)) t := fun t k => pre58 t (st59 _ k)
        have pre60 : ∀ t, Steps p.tables e below (T59.setTop (mkF m 111 #[.val (.int p1), .val (.int p2), .val (.int p3), .val (.int p4), .val (.int (3 : Int32)), .val (.int v7), .val (.int v11), .val (.int v15), .val (.ref b45), .val (.ref b53), .unset] [(.ref b53)])) t → Steps p.tables e below (s₁.setTop (entryFrame m #[(.int p1), (.int p2), (.int p3), (.int p4)] maxLocals)) t := by
          intro t k
          refine pre59 t ?_
          refine XS.aload X59.here hx rfl (hb hby at_109) rfl rfl ?_
          show Steps p.tables e below (T59.setTop (mkF m 111 #[.val (.int p1), .val (.int p2), .val (.int p3), .val (.int p4), .val (.int (3 : Int32)), .val (.int v7), .val (.int v11), .val (.int v15), .val (.ref b45), .val (.ref b53), .unset] [(.ref b53)])) _
          exact k
        obtain ⟨cq61, kq61, qa61, qb61, qc61⟩ := isOf hZ e59 F59_3
        obtain ⟨_, _, ⟨T61, L61, k61, n61⟩, -, X61, ⟨Lc61, hQ61, l61, y61, z61⟩, st61⟩ := X59.virtualBack hx (y := (⟨"com/example/tally/tally/model/Outcome", "failed", "()Z"⟩ : MethodName)) (z := (⟨"com/example/tally/tally/model/Outcome", "failed", "()Z"⟩ : MethodName)) hown (mvT hZ (hw _ (List.mem_of_getElem? (i := 37) rfl))) (mvT hZ (hw _ (List.mem_of_getElem? (i := 38) rfl))) (notFace_of_selects (args := #[]) (mvT hZ (hw _ (List.mem_of_getElem? (i := 40) rfl)))) (mvT hZ (hw _ (List.mem_of_getElem? (i := 40) rfl))) (mvT hZ (hw _ (List.mem_of_getElem? (i := 39) rfl))) (by decide) (backOf (W := 0) (rmG l Z a0 hw [] b53 (nar .boolean (1 : Int32)) h59 n0 Z59 F59_1) hZ (hw _ (List.mem_of_getElem? (i := 41) rfl)) (hw _ (List.mem_of_getElem? (i := 3) rfl)) (by decide) (by decide)) qa61 qc61 (g := (mkF m 111 #[.val (.int p1), .val (.int p2), .val (.int p3), .val (.int p4), .val (.int (3 : Int32)), .val (.int v7), .val (.int v11), .val (.int v15), .val (.ref b45), .val (.ref b53), .unset] [(.ref b53)])) rfl (by rw [hml]; rfl) (Steps.refl _) (argsL := []) (rest := []) (lenOf pd0_1 rfl) rfl (by show 2 * 0 + _ ≤ _; exact Nat.le_of_eq rfl) (hb hby at_111) (fun _ _ => ⟨rfl, e59, (by decide : 5 + 0 ≤ _), (by decide : 32 + 0 ≤ _)⟩)
        dsimp only [Pt.U, Pt.locs, Pt.cells, Pt.slots] at X61 l61 y61 z61 st61 hQ61
        subst l61 y61 z61
        obtain ⟨rfl, Nq61, e61⟩ := hQ61
        have N61 := Fr.app N59 Nq61
        have pre61 : ∀ t, Steps p.tables e below (T61.setTop (mkF m 114 #[.val (.int p1), .val (.int p2), .val (.int p3), .val (.int p4), .val (.int (3 : Int32)), .val (.int v7), .val (.int v11), .val (.int v15), .val (.ref b45), .val (.ref b53), .unset] [(.int (fnG (nar .boolean (1 : Int32))))])) t → Steps p.tables e below (s₁.setTop (entryFrame m #[(.int p1), (.int p2), (.int p3), (.int p4)] maxLocals)) t := fun t k => pre60 t (st61.trans k)
        have pre62 : ∀ t, Steps p.tables e below (T61.setTop (mkF m 121 #[.val (.int p1), .val (.int p2), .val (.int p3), .val (.int p4), .val (.int (3 : Int32)), .val (.int v7), .val (.int v11), .val (.int v15), .val (.ref b45), .val (.ref b53), .unset] [(.ref b53)])) t → Steps p.tables e below (s₁.setTop (entryFrame m #[(.int p1), (.int p2), (.int p3), (.int p4)] maxLocals)) t := by
          intro t k
          refine pre61 t ?_
          refine XS.ifYes X61.here hx rfl (pc0 := 114) (pc' := 119) rfl (hb hby at_114) rfl ((if0 _ _).trans (feq (by decide : ¬ fnG (nar .boolean (1 : Int32)) = (0 : Int32))).2) (by decide) (by decide) ?_
          show Steps p.tables e below (T61.setTop (mkF m 119 #[.val (.int p1), .val (.int p2), .val (.int p3), .val (.int p4), .val (.int (3 : Int32)), .val (.int v7), .val (.int v11), .val (.int v15), .val (.ref b45), .val (.ref b53), .unset] [])) _
          refine XS.aload X61.here hx rfl (hb hby at_119) rfl rfl ?_
          show Steps p.tables e below (T61.setTop (mkF m 121 #[.val (.int p1), .val (.int p2), .val (.int p3), .val (.int p4), .val (.int (3 : Int32)), .val (.int v7), .val (.int v11), .val (.int v15), .val (.ref b45), .val (.ref b53), .unset] [(.ref b53)])) _
          exact k
        obtain ⟨cq63, kq63, qa63, qb63, qc63⟩ := isOf hZ e61 F59_3
        obtain ⟨_, _, ⟨T63, L63, k63, n63⟩, -, X63, ⟨Lc63, hQ63, l63, y63, z63⟩, st63⟩ := X61.virtualBack hx (y := (⟨"com/example/tally/tally/model/Outcome", "bytes", "()[B"⟩ : MethodName)) (z := (⟨"com/example/tally/tally/model/Outcome", "bytes", "()[B"⟩ : MethodName)) hown (mvT hZ (hw _ (List.mem_of_getElem? (i := 42) rfl))) (mvT hZ (hw _ (List.mem_of_getElem? (i := 43) rfl))) (notFace_of_selects (args := #[]) (mvT hZ (hw _ (List.mem_of_getElem? (i := 45) rfl)))) (mvT hZ (hw _ (List.mem_of_getElem? (i := 45) rfl))) (mvT hZ (hw _ (List.mem_of_getElem? (i := 44) rfl))) (by decide) (backOf (W := 0) (rmB l Z a0 hw [] b53 d53 (3 : Int32) (own_3 (nar .byte v7) (nar .byte v11) (nar .byte v15)) h59 n0 Z59 F59_0 F59_6 F59_4 (own_fit3 (fits_nar_byte _) (fits_nar_byte _) (fits_nar_byte _)) (by decide)) hZ (hw _ (List.mem_of_getElem? (i := 46) rfl)) (hw _ (List.mem_of_getElem? (i := 3) rfl)) (by decide) (by decide)) qa63 qc63 (g := (mkF m 121 #[.val (.int p1), .val (.int p2), .val (.int p3), .val (.int p4), .val (.int (3 : Int32)), .val (.int v7), .val (.int v11), .val (.int v15), .val (.ref b45), .val (.ref b53), .unset] [(.ref b53)])) rfl (by rw [hml]; rfl) (Steps.refl _) (argsL := []) (rest := []) (lenOf pd0_2 rfl) rfl (by show 2 * 0 + _ ≤ _; exact Nat.le_of_eq rfl) (hb hby at_121) (fun _ _ => ⟨rfl, e61, (by decide : 5 + 1 ≤ _), (by decide : 32 + 3 ≤ _)⟩)
        dsimp only [Pt.U, Pt.locs, Pt.cells, Pt.slots] at X63 l63 y63 z63 st63 hQ63
        subst l63 y63 z63
        obtain ⟨b63, rfl, Nq63, Kc63, V63⟩ := hQ63
        have F63_0 := F59_0.keep Kc63 nin0
        have F63_1 := F59_1.keep Kc63 nin0
        have F63_2 := F59_2.keep Kc63
        have F63_3 := F59_3.keep Kc63
        have F63_4 := F59_4.keep Kc63
        have F63_5 := U59.keep Kc63 nin0
        have F63_6 := F59_6.keep Kc63 nin0
        have Z63 : n0 ≤ T63.heap.size := Nat.le_trans Z59 Kc63.1
        have hk63 := Nat.le_trans hk59 Kc63.1
        have N63 := Fr.app N61 Nq63
        have pre63 : ∀ t, Steps p.tables e below (T63.setTop (mkF m 124 #[.val (.int p1), .val (.int p2), .val (.int p3), .val (.int p4), .val (.int (3 : Int32)), .val (.int v7), .val (.int v11), .val (.int v15), .val (.ref b45), .val (.ref b53), .unset] [(.ref b63)])) t → Steps p.tables e below (s₁.setTop (entryFrame m #[(.int p1), (.int p2), (.int p3), (.int p4)] maxLocals)) t := fun t k => pre62 t (st63.trans k)
        have pre64 : ∀ t, Steps p.tables e below (T63.setTop (mkF m 187 #[.val (.int p1), .val (.int p2), .val (.int p3), .val (.int p4), .val (.int (3 : Int32)), .val (.int v7), .val (.int v11), .val (.int v15), .val (.ref b45), .val (.ref b53), .val (.ref b63)] [(.int (1 : Int32))])) t → Steps p.tables e below (s₁.setTop (entryFrame m #[(.int p1), (.int p2), (.int p3), (.int p4)] maxLocals)) t := by
          intro t k
          refine pre63 t ?_
          refine XS.astore X63.here hx rfl (hb hby at_124) rfl rfl (l' := #[.val (.int p1), .val (.int p2), .val (.int p3), .val (.int p4), .val (.int (3 : Int32)), .val (.int v7), .val (.int v11), .val (.int v15), .val (.ref b45), .val (.ref b53), .val (.ref b63)]) rfl ?_
          show Steps p.tables e below (T63.setTop (mkF m 126 #[.val (.int p1), .val (.int p2), .val (.int p3), .val (.int p4), .val (.int (3 : Int32)), .val (.int v7), .val (.int v11), .val (.int v15), .val (.ref b45), .val (.ref b53), .val (.ref b63)] [])) _
          refine XS.aload X63.here hx rfl (hb hby at_126) rfl rfl ?_
          show Steps p.tables e below (T63.setTop (mkF m 128 #[.val (.int p1), .val (.int p2), .val (.int p3), .val (.int p4), .val (.int (3 : Int32)), .val (.int v7), .val (.int v11), .val (.int v15), .val (.ref b45), .val (.ref b53), .val (.ref b63)] [(.ref b63)])) _
          refine own_lenI X63 hx hZ rfl V63 (g := (mkF m 128 #[.val (.int p1), .val (.int p2), .val (.int p3), .val (.int p4), .val (.int (3 : Int32)), .val (.int v7), .val (.int v11), .val (.int v15), .val (.ref b45), .val (.ref b53), .val (.ref b63)] [(.ref b63)])) rfl rfl (hb hby at_128) _ ?_
          show Steps p.tables e below (T63.setTop (mkF m 129 #[.val (.int p1), .val (.int p2), .val (.int p3), .val (.int p4), .val (.int (3 : Int32)), .val (.int v7), .val (.int v11), .val (.int v15), .val (.ref b45), .val (.ref b53), .val (.ref b63)] [(.int (3 : Int32))])) _
          refine XS.iload X63.here hx rfl (hb hby at_129) rfl ?_
          show Steps p.tables e below (T63.setTop (mkF m 131 #[.val (.int p1), .val (.int p2), .val (.int p3), .val (.int p4), .val (.int (3 : Int32)), .val (.int v7), .val (.int v11), .val (.int v15), .val (.ref b45), .val (.ref b53), .val (.ref b63)] [(.int (3 : Int32)), (.int (3 : Int32))])) _
          refine XS.icmpYes X63.here hx rfl (pc0 := 131) (pc' := 136) rfl (hb hby at_131) rfl (teq (by decide : (3 : Int32) = (3 : Int32))).1 (by decide) (by decide) ?_
          show Steps p.tables e below (T63.setTop (mkF m 136 #[.val (.int p1), .val (.int p2), .val (.int p3), .val (.int p4), .val (.int (3 : Int32)), .val (.int v7), .val (.int v11), .val (.int v15), .val (.ref b45), .val (.ref b53), .val (.ref b63)] [])) _
          refine XS.iload X63.here hx rfl (hb hby at_136) rfl ?_
          show Steps p.tables e below (T63.setTop (mkF m 138 #[.val (.int p1), .val (.int p2), .val (.int p3), .val (.int p4), .val (.int (3 : Int32)), .val (.int v7), .val (.int v11), .val (.int v15), .val (.ref b45), .val (.ref b53), .val (.ref b63)] [(.int (3 : Int32))])) _
          refine XS.ifNo X63.here hx rfl (hb hby at_138) rfl ((if0 _ _).trans (tlt (by decide : (0 : Int32) < (3 : Int32))).2.2.2) ?_
          show Steps p.tables e below (T63.setTop (mkF m 141 #[.val (.int p1), .val (.int p2), .val (.int p3), .val (.int p4), .val (.int (3 : Int32)), .val (.int v7), .val (.int v11), .val (.int v15), .val (.ref b45), .val (.ref b53), .val (.ref b63)] [])) _
          refine XS.aload X63.here hx rfl (hb hby at_141) rfl rfl ?_
          show Steps p.tables e below (T63.setTop (mkF m 143 #[.val (.int p1), .val (.int p2), .val (.int p3), .val (.int p4), .val (.int (3 : Int32)), .val (.int v7), .val (.int v11), .val (.int v15), .val (.ref b45), .val (.ref b53), .val (.ref b63)] [(.ref b63)])) _
          refine XS.iconst X63.here hx rfl (hb hby at_143) ?_
          show Steps p.tables e below (T63.setTop (mkF m 144 #[.val (.int p1), .val (.int p2), .val (.int p3), .val (.int p4), .val (.int (3 : Int32)), .val (.int v7), .val (.int v11), .val (.int v15), .val (.ref b45), .val (.ref b53), .val (.ref b63)] [(.int (0 : Int32)), (.ref b63)])) _
          refine own_ldB X63 hx hZ rfl V63 (by decide) (by decide) (g := (mkF m 144 #[.val (.int p1), .val (.int p2), .val (.int p3), .val (.int p4), .val (.int (3 : Int32)), .val (.int v7), .val (.int v11), .val (.int v15), .val (.ref b45), .val (.ref b53), .val (.ref b63)] [(.int (0 : Int32)), (.ref b63)])) rfl rfl (hb hby at_144) _ ?_
          show Steps p.tables e below (T63.setTop (mkF m 145 #[.val (.int p1), .val (.int p2), .val (.int p3), .val (.int p4), .val (.int (3 : Int32)), .val (.int v7), .val (.int v11), .val (.int v15), .val (.ref b45), .val (.ref b53), .val (.ref b63)] [(.int (nar .byte v7))])) _
          refine XS.iload X63.here hx rfl (hb hby at_145) rfl ?_
          show Steps p.tables e below (T63.setTop (mkF m 147 #[.val (.int p1), .val (.int p2), .val (.int p3), .val (.int p4), .val (.int (3 : Int32)), .val (.int v7), .val (.int v11), .val (.int v15), .val (.ref b45), .val (.ref b53), .val (.ref b63)] [(.int v7), (.int (nar .byte v7))])) _
          refine XS.icmpYes X63.here hx rfl (pc0 := 147) (pc' := 152) rfl (hb hby at_147) rfl (teq (own_nb hv7)).1 (by decide) (by decide) ?_
          show Steps p.tables e below (T63.setTop (mkF m 152 #[.val (.int p1), .val (.int p2), .val (.int p3), .val (.int p4), .val (.int (3 : Int32)), .val (.int v7), .val (.int v11), .val (.int v15), .val (.ref b45), .val (.ref b53), .val (.ref b63)] [])) _
          refine XS.iload X63.here hx rfl (hb hby at_152) rfl ?_
          show Steps p.tables e below (T63.setTop (mkF m 154 #[.val (.int p1), .val (.int p2), .val (.int p3), .val (.int p4), .val (.int (3 : Int32)), .val (.int v7), .val (.int v11), .val (.int v15), .val (.ref b45), .val (.ref b53), .val (.ref b63)] [(.int (3 : Int32))])) _
          refine XS.iconst X63.here hx rfl (hb hby at_154) ?_
          show Steps p.tables e below (T63.setTop (mkF m 155 #[.val (.int p1), .val (.int p2), .val (.int p3), .val (.int p4), .val (.int (3 : Int32)), .val (.int v7), .val (.int v11), .val (.int v15), .val (.ref b45), .val (.ref b53), .val (.ref b63)] [(.int (1 : Int32)), (.int (3 : Int32))])) _
          refine XS.icmpNo X63.here hx rfl (hb hby at_155) rfl (tlt (by decide : (1 : Int32) < (3 : Int32))).2.2.2 ?_
          show Steps p.tables e below (T63.setTop (mkF m 158 #[.val (.int p1), .val (.int p2), .val (.int p3), .val (.int p4), .val (.int (3 : Int32)), .val (.int v7), .val (.int v11), .val (.int v15), .val (.ref b45), .val (.ref b53), .val (.ref b63)] [])) _
          refine XS.aload X63.here hx rfl (hb hby at_158) rfl rfl ?_
          show Steps p.tables e below (T63.setTop (mkF m 160 #[.val (.int p1), .val (.int p2), .val (.int p3), .val (.int p4), .val (.int (3 : Int32)), .val (.int v7), .val (.int v11), .val (.int v15), .val (.ref b45), .val (.ref b53), .val (.ref b63)] [(.ref b63)])) _
          refine XS.iconst X63.here hx rfl (hb hby at_160) ?_
          show Steps p.tables e below (T63.setTop (mkF m 161 #[.val (.int p1), .val (.int p2), .val (.int p3), .val (.int p4), .val (.int (3 : Int32)), .val (.int v7), .val (.int v11), .val (.int v15), .val (.ref b45), .val (.ref b53), .val (.ref b63)] [(.int (1 : Int32)), (.ref b63)])) _
          refine own_ldB X63 hx hZ rfl V63 (by decide) (by decide) (g := (mkF m 161 #[.val (.int p1), .val (.int p2), .val (.int p3), .val (.int p4), .val (.int (3 : Int32)), .val (.int v7), .val (.int v11), .val (.int v15), .val (.ref b45), .val (.ref b53), .val (.ref b63)] [(.int (1 : Int32)), (.ref b63)])) rfl rfl (hb hby at_161) _ ?_
          show Steps p.tables e below (T63.setTop (mkF m 162 #[.val (.int p1), .val (.int p2), .val (.int p3), .val (.int p4), .val (.int (3 : Int32)), .val (.int v7), .val (.int v11), .val (.int v15), .val (.ref b45), .val (.ref b53), .val (.ref b63)] [(.int (nar .byte v11))])) _
          refine XS.iload X63.here hx rfl (hb hby at_162) rfl ?_
          show Steps p.tables e below (T63.setTop (mkF m 164 #[.val (.int p1), .val (.int p2), .val (.int p3), .val (.int p4), .val (.int (3 : Int32)), .val (.int v7), .val (.int v11), .val (.int v15), .val (.ref b45), .val (.ref b53), .val (.ref b63)] [(.int v11), (.int (nar .byte v11))])) _
          refine XS.icmpYes X63.here hx rfl (pc0 := 164) (pc' := 169) rfl (hb hby at_164) rfl (teq (own_nb hv11)).1 (by decide) (by decide) ?_
          show Steps p.tables e below (T63.setTop (mkF m 169 #[.val (.int p1), .val (.int p2), .val (.int p3), .val (.int p4), .val (.int (3 : Int32)), .val (.int v7), .val (.int v11), .val (.int v15), .val (.ref b45), .val (.ref b53), .val (.ref b63)] [])) _
          refine XS.iload X63.here hx rfl (hb hby at_169) rfl ?_
          show Steps p.tables e below (T63.setTop (mkF m 171 #[.val (.int p1), .val (.int p2), .val (.int p3), .val (.int p4), .val (.int (3 : Int32)), .val (.int v7), .val (.int v11), .val (.int v15), .val (.ref b45), .val (.ref b53), .val (.ref b63)] [(.int (3 : Int32))])) _
          refine XS.iconst X63.here hx rfl (hb hby at_171) ?_
          show Steps p.tables e below (T63.setTop (mkF m 172 #[.val (.int p1), .val (.int p2), .val (.int p3), .val (.int p4), .val (.int (3 : Int32)), .val (.int v7), .val (.int v11), .val (.int v15), .val (.ref b45), .val (.ref b53), .val (.ref b63)] [(.int (2 : Int32)), (.int (3 : Int32))])) _
          refine XS.icmpNo X63.here hx rfl (hb hby at_172) rfl (tlt (by decide : (2 : Int32) < (3 : Int32))).2.2.2 ?_
          show Steps p.tables e below (T63.setTop (mkF m 175 #[.val (.int p1), .val (.int p2), .val (.int p3), .val (.int p4), .val (.int (3 : Int32)), .val (.int v7), .val (.int v11), .val (.int v15), .val (.ref b45), .val (.ref b53), .val (.ref b63)] [])) _
          refine XS.aload X63.here hx rfl (hb hby at_175) rfl rfl ?_
          show Steps p.tables e below (T63.setTop (mkF m 177 #[.val (.int p1), .val (.int p2), .val (.int p3), .val (.int p4), .val (.int (3 : Int32)), .val (.int v7), .val (.int v11), .val (.int v15), .val (.ref b45), .val (.ref b53), .val (.ref b63)] [(.ref b63)])) _
          refine XS.iconst X63.here hx rfl (hb hby at_177) ?_
          show Steps p.tables e below (T63.setTop (mkF m 178 #[.val (.int p1), .val (.int p2), .val (.int p3), .val (.int p4), .val (.int (3 : Int32)), .val (.int v7), .val (.int v11), .val (.int v15), .val (.ref b45), .val (.ref b53), .val (.ref b63)] [(.int (2 : Int32)), (.ref b63)])) _
          refine own_ldB X63 hx hZ rfl V63 (by decide) (by decide) (g := (mkF m 178 #[.val (.int p1), .val (.int p2), .val (.int p3), .val (.int p4), .val (.int (3 : Int32)), .val (.int v7), .val (.int v11), .val (.int v15), .val (.ref b45), .val (.ref b53), .val (.ref b63)] [(.int (2 : Int32)), (.ref b63)])) rfl rfl (hb hby at_178) _ ?_
          show Steps p.tables e below (T63.setTop (mkF m 179 #[.val (.int p1), .val (.int p2), .val (.int p3), .val (.int p4), .val (.int (3 : Int32)), .val (.int v7), .val (.int v11), .val (.int v15), .val (.ref b45), .val (.ref b53), .val (.ref b63)] [(.int (nar .byte v15))])) _
          refine XS.iload X63.here hx rfl (hb hby at_179) rfl ?_
          show Steps p.tables e below (T63.setTop (mkF m 181 #[.val (.int p1), .val (.int p2), .val (.int p3), .val (.int p4), .val (.int (3 : Int32)), .val (.int v7), .val (.int v11), .val (.int v15), .val (.ref b45), .val (.ref b53), .val (.ref b63)] [(.int v15), (.int (nar .byte v15))])) _
          refine XS.icmpYes X63.here hx rfl (pc0 := 181) (pc' := 186) rfl (hb hby at_181) rfl (teq (own_nb hv15)).1 (by decide) (by decide) ?_
          show Steps p.tables e below (T63.setTop (mkF m 186 #[.val (.int p1), .val (.int p2), .val (.int p3), .val (.int p4), .val (.int (3 : Int32)), .val (.int v7), .val (.int v11), .val (.int v15), .val (.ref b45), .val (.ref b53), .val (.ref b63)] [])) _
          refine XS.iconst X63.here hx rfl (hb hby at_186) ?_
          show Steps p.tables e below (T63.setTop (mkF m 187 #[.val (.int p1), .val (.int p2), .val (.int p3), .val (.int p4), .val (.int (3 : Int32)), .val (.int v7), .val (.int v11), .val (.int v15), .val (.ref b45), .val (.ref b53), .val (.ref b63)] [(.int (1 : Int32))])) _
          exact k
        obtain ⟨fs, hr, hrun, hended, hREW⟩ := Stand.leaveW (s := s) (vm₁ := T53.vm) X63 hS53 hk63 (v := some (.int (nar .boolean (1 : Int32)))) (fun h => by rw [Bd.returns] at h; cases h)
        refine ⟨_, _, pre64 _ ?_, hrun, hended, _, _, rfl, ?_, hREW.1, hREW.2.1, hREW.2.2.1, hREW.2.2.2.mono (by decide) (by decide)⟩
        · show Steps p.tables e below (T63.setTop (mkF m 187 #[.val (.int p1), .val (.int p2), .val (.int p3), .val (.int p4), .val (.int (3 : Int32)), .val (.int v7), .val (.int v11), .val (.int v15), .val (.ref b45), .val (.ref b53), .val (.ref b63)] [(.int (1 : Int32))])) _
          exact retN X63 hx (t := .boolean) Bd.returns (by simp) (hb hby at_187) hr
        · show Q0 Z p1 p2 p3 p4 h0 n0 _ T63.heap _
          exact ⟨rfl, N63⟩
set_option maxRecDepth 65536 in
set_option maxHeartbeats 40000000 in
theorem comes_1 {Post : Tables → Env → Array Value → State → Outcome → State → Prop} (hpost : ∀ tb e args s v u, (limb_1_1.after args s (.returned v) u = true ∧ limb_1_2.after args s (.returned v) u = true ∧ True) → ReturnedEndW s (.returned v) u (Jvm.fieldLocs frame_1_writes args s ++ Jvm.arrayLocs frame_1_arrays args s ++ Jvm.staticLocs frame_1_statics s) 24 1152 → Post tb e args s (.returned v) u) :
    ArmFor flags0 classFile x code maxLocals ret World_1 tables_1 room_1 Calls_1 rest_1 Pre_1 Post := by
  intro l hfl _ _ p e ha hc hk s m args below hf hA hF happ hP
  obtain ⟨hcalls, hrest, hpre⟩ := hP
  obtain ⟨-, -, -, hnamed, -, -, -, hat⟩ := (Spec.applies_iff hf).mp happ
  obtain ⟨hg, hn⟩ := and_e (Cond.before_iff.mp (show (Jvm.Cond.and given_1 narrow_1).before args s = true from hpre))
  obtain ⟨hcount, g0⟩ := and_e hg
  obtain ⟨a0, g1⟩ := and_e g0
  obtain ⟨a1, g2⟩ := and_e g1
  obtain ⟨a2, g3⟩ := and_e g2
  have a3 := g3
  obtain ⟨w0, w1, w2, w3, rfl⟩ : ∃ w0 w1 w2 w3 : Value, args = #[w0, w1, w2, w3] := by
    have hs : args.size = 4 := by simpa [Cond.value, given_1] using hcount
    obtain ⟨L⟩ := args
    match L, hs with
    | [w0, w1, w2, w3], _ => exact ⟨w0, w1, w2, w3, rfl⟩
  have hw := fun d (hd : d ∈ tables_1) => atoms_spec (ws := Jvm.Cond.code x code maxLocals ret :: tables_1) hat d (List.mem_cons_of_mem _ hd)
  obtain ⟨i0, ei0⟩ := is_v a0
  obtain rfl : w0 = (.int i0) := Option.some.inj ei0
  obtain ⟨i1, ei1⟩ := is_v a1
  obtain rfl : w1 = (.int i1) := Option.some.inj ei1
  obtain ⟨i2, ei2⟩ := is_v a2
  obtain rfl : w2 = (.int i2) := Option.some.inj ei2
  obtain ⟨i3, ei3⟩ := is_v a3
  obtain rfl : w3 = (.int i3) := Option.some.inj ei3
  obtain ⟨n, o, h1, h2, h3, v, L, rfl, ⟨hv, N⟩, hq⟩ := rm0 l s _ hw tables_1 i0 i1 i2 i3 s.heap s.heap.size (Nat.le_refl _) p e ha hc hk s m _ below hf ((Spec.applies_iff_loose hf).mp happ).1 ⟨rfl, State.Warmed39.refl s, rfl⟩ trivial
  skip
  subst hv
  refine ⟨n, _, h1, h2, h3, hpost _ _ _ _ _ _ ⟨Cond.after_iff.mpr rfl, Cond.after_iff.mpr (eq_i res_at (Term.int_eval (1)) rfl), trivial⟩ ⟨hq.1, hq.2.1, hq.2.2.1, (hq.2.2.2.sift fun y hy => Or.inr (N y hy)).mono (by decide) (by decide)⟩⟩
theorem main_1_1 : Claimed_1_1 := comes_1 fun _ _ _ _ _ _ h hF => ⟨h.1, hF⟩
theorem main_1_2 : Claimed_1_2 := comes_1 fun _ _ _ _ _ _ h hF => ⟨h.2.1, hF⟩
end Jvm.Pilot.@@N@@
namespace Jvm.Pilot.@@N@@
open Jvm Jvm.ClassFile Sem Op Lib Jvm.Free Jvm.Stand Jvm.Pilot.@@N@@.Jvm.D
/-! MADE BY PROGRAM (witnessworld.py) out of the Statement's table words and the real class files: 15 classes; the members and pool entries that the words name. The judged class is class 1, her method 1. -/
namespace start1
open Jvm.ClassFile
def u (s : String) : CpInfo := .utf8 (stringToUtf16 s)
/-- a pool by its gaps: so many unusable entries, then the entry; so many at the end -/
def gap : Nat → List CpInfo → List CpInfo
  | 0, r => r
  | n + 1, r => .unusable :: gap n r
def poolList (es : List (Nat × CpInfo)) (last : Nat) : List CpInfo := es.foldr (fun e r => gap e.1 (e.2 :: r)) (gap last [])
def pool (es : List (Nat × CpInfo)) (last : Nat) : Array CpInfo := ⟨poolList es last⟩
def fileOf (pool : Array CpInfo) (this : Nat) (attrs : Array Attribute := #[]) (ms : Array MethodInfo := #[]) (fl : Nat := 33) (sup : Nat := 0) (ifs : Array Nat := #[]) (fds : Array FieldInfo := #[]) : ClassFile where
  minorVersion := 0
  majorVersion := 65
  constantPool := pool
  accessFlags := fl
  thisClass := this
  superClass := sup
  interfaces := ifs
  fields := fds
  methods := ms
  attributes := attrs
def plain (name : String) (sup : Option ClassId) : Class where
  name := name
  kind := .ordinary
  loader := none
  accessFlags := 33
  super := sup
  interfaces := #[]
  cf := none
  fields := #[]
  methods := #[]
  instanceTypes := #[]
  staticTypes := #[]
  resolved := #[]
  callSites := []
  init := .initialized
  statics := none
  mirror := none

def pool0 : Array CpInfo := pool [(5, u "<init>"), (0, u "()V"), (1, .class_ 10), (1, u "java/lang/Object"), (85, u "clone"), (0, u "()Ljava/lang/Object;")] 26

def k0c0 : Code := { maxStack := 0, maxLocals := 1, code := object_method_1_code, exceptionTable := #[], attributes := #[] }
def k0m0 : Method := { name := "<init>", desc := "()V", sig := { parameters := [], returnType := none }, accessFlags := 1, code := some k0c0 }
def k0m1 : Method := { name := "clone", desc := "()Ljava/lang/Object;", sig := { parameters := [], returnType := some (.object "java/lang/Object") }, accessFlags := 260, code := none }
/-- java/lang/Object -/
def k0 : Class := { plain "java/lang/Object" none with
  accessFlags := 33
  interfaces := #[]
  cf := some (fileOf pool0 8 #[] #[{ accessFlags := 1, nameIndex := 5, descriptorIndex := 6, attributes := #[] }, { accessFlags := 260, nameIndex := 96, descriptorIndex := 97, attributes := #[] }] 33 0 #[] #[])
  fields := #[]
  methods := #[k0m0, k0m1]
  instanceTypes := #[]
  staticTypes := #[]
  resolved := Array.replicate 124 none
  statics := none }

def pool1 : Array CpInfo := pool [(2, .class_ 4), (1, u "java/lang/Object"), (0, u "<init>"), (0, u "()V"), (0, .methodref 8 9), (0, .class_ 10), (0, .nameAndType 11 12), (0, u "com/example/tally/tally/model/Outcome"), (0, u "failure"), (0, u "([B)Lcom/example/tally/tally/model/Outcome;"), (0, .methodref 8 14), (0, .nameAndType 15 16), (0, u "failed"), (0, u "()Z"), (0, .methodref 8 18), (0, .nameAndType 19 20), (0, u "bytes"), (0, u "()[B"), (0, .class_ 22), (0, u "com/example/tally/tally/model/OutcomeFailurePinLaw"), (2, u "law"), (0, u "(IIII)Z")] 5

def k1m0 : Method := { name := "<init>", desc := "()V", sig := { parameters := [], returnType := none }, accessFlags := 1, code := none }
def k1c1 : Code := { maxStack := 4, maxLocals := 11, code := code, exceptionTable := #[], attributes := #[] }
def k1m1 : Method := { name := "law", desc := "(IIII)Z", sig := { parameters := [.int, .int, .int, .int], returnType := some .boolean }, accessFlags := 9, code := some k1c1 }
/-- com/example/tally/tally/model/OutcomeFailurePinLaw -/
def k1 : Class := { plain "com/example/tally/tally/model/OutcomeFailurePinLaw" (some 0) with
  accessFlags := 49
  interfaces := #[]
  cf := some (fileOf pool1 21 #[] #[{ accessFlags := 1, nameIndex := 5, descriptorIndex := 6, attributes := #[] }, { accessFlags := 9, nameIndex := 25, descriptorIndex := 26, attributes := #[] }] 49 2 #[] #[])
  fields := #[]
  methods := #[k1m0, k1m1]
  instanceTypes := #[]
  staticTypes := #[]
  resolved := Array.replicate 32 none
  statics := none }

def pool2 : Array CpInfo := pool [(1, .methodref 2 3), (0, .class_ 4), (0, .nameAndType 5 6), (0, u "java/lang/Object"), (0, u "<init>"), (0, u "()V"), (0, .fieldref 8 9), (0, .class_ 10), (0, .nameAndType 11 12), (0, u "com/example/tally/tally/model/Outcome"), (0, u "bytes"), (0, u "[B"), (0, .fieldref 8 14), (0, .nameAndType 15 16), (0, u "failed"), (0, u "Z"), (0, .string 11), (0, .methodref 19 20), (0, .class_ 21), (0, .nameAndType 22 23), (0, u "java/util/Objects"), (0, u "requireNonNull"), (0, u "(Ljava/lang/Object;Ljava/lang/String;)Ljava/lang/Object;"), (0, .methodref 25 26), (0, .class_ 12), (0, .nameAndType 27 28), (0, u "clone"), (0, u "()Ljava/lang/Object;"), (0, .methodref 8 30), (0, .nameAndType 5 31), (0, u "([BZ)V"), (26, u "([B)Lcom/example/tally/tally/model/Outcome;"), (0, u "failure"), (0, u "()[B"), (0, u "()Z")] 24

def k2c0 : Code := { maxStack := 2, maxLocals := 3, code := prog_19_method_1_code, exceptionTable := #[], attributes := #[] }
def k2m0 : Method := { name := "<init>", desc := "([BZ)V", sig := { parameters := [(.array .byte), .boolean], returnType := none }, accessFlags := 2, code := some k2c0 }
def k2c1 : Code := { maxStack := 4, maxLocals := 1, code := prog_19_method_3_code, exceptionTable := #[], attributes := #[] }
def k2m1 : Method := { name := "failure", desc := "([B)Lcom/example/tally/tally/model/Outcome;", sig := { parameters := [(.array .byte)], returnType := some (.object "com/example/tally/tally/model/Outcome") }, accessFlags := 9, code := some k2c1 }
def k2c2 : Code := { maxStack := 1, maxLocals := 1, code := prog_19_method_4_code, exceptionTable := #[], attributes := #[] }
def k2m2 : Method := { name := "bytes", desc := "()[B", sig := { parameters := [], returnType := some (.array .byte) }, accessFlags := 1, code := some k2c2 }
def k2c3 : Code := { maxStack := 1, maxLocals := 1, code := prog_19_method_5_code, exceptionTable := #[], attributes := #[] }
def k2m3 : Method := { name := "failed", desc := "()Z", sig := { parameters := [], returnType := some .boolean }, accessFlags := 1, code := some k2c3 }
/-- com/example/tally/tally/model/Outcome -/
def k2 : Class := { plain "com/example/tally/tally/model/Outcome" (some 0) with
  accessFlags := 33
  interfaces := #[]
  cf := some (fileOf pool2 8 #[] #[{ accessFlags := 2, nameIndex := 5, descriptorIndex := 31, attributes := #[] }, { accessFlags := 9, nameIndex := 59, descriptorIndex := 58, attributes := #[] }, { accessFlags := 1, nameIndex := 11, descriptorIndex := 60, attributes := #[] }, { accessFlags := 1, nameIndex := 15, descriptorIndex := 61, attributes := #[] }] 33 2 #[] #[{ accessFlags := 18, nameIndex := 11, descriptorIndex := 12, attributes := #[] }, { accessFlags := 18, nameIndex := 15, descriptorIndex := 16, attributes := #[] }])
  fields := #[{ name := "bytes", type := (.array .byte), accessFlags := 18, slot := 0, constantValue := 0 }, { name := "failed", type := .boolean, accessFlags := 18, slot := 1, constantValue := 0 }]
  methods := #[k2m0, k2m1, k2m2, k2m3]
  instanceTypes := #[(.array .byte), .boolean]
  staticTypes := #[]
  resolved := Array.replicate 86 none
  statics := none }

def pool3 : Array CpInfo := pool [(1, .class_ 2), (0, u "java/io/Serializable"), (0, .class_ 4), (0, u "java/lang/Object")] 2

/-- java/io/Serializable -/
def k3 : Class := { plain "java/io/Serializable" (some 0) with
  accessFlags := 1537
  interfaces := #[]
  cf := some (fileOf pool3 1 #[] #[] 1537 3 #[] #[])
  fields := #[]
  methods := #[]
  instanceTypes := #[]
  staticTypes := #[]
  resolved := Array.replicate 7 none
  statics := none }

def pool4 : Array CpInfo := pool [(1, .class_ 2), (0, u "java/lang/Comparable"), (0, .class_ 4), (0, u "java/lang/Object")] 7

/-- java/lang/Comparable -/
def k4 : Class := { plain "java/lang/Comparable" (some 0) with
  accessFlags := 1537
  interfaces := #[]
  cf := some (fileOf pool4 1 #[] #[] 1537 3 #[] #[])
  fields := #[]
  methods := #[]
  instanceTypes := #[]
  staticTypes := #[]
  resolved := Array.replicate 12 none
  statics := none }

def pool5 : Array CpInfo := pool [(2, .class_ 4), (1, u "java/lang/CharSequence"), (42, .class_ 48), (0, u "java/lang/CharSequence$1CodePointIterator"), (10, .class_ 60), (0, u "java/lang/CharSequence$1CharIterator"), (5, .class_ 67), (0, u "java/lang/Object")] 63

/-- java/lang/CharSequence -/
def k5 : Class := { plain "java/lang/CharSequence" (some 0) with
  accessFlags := 1537
  interfaces := #[]
  cf := some (fileOf pool5 2 #[.nestMembers #[47, 59]] #[] 1537 66 #[] #[])
  fields := #[]
  methods := #[]
  instanceTypes := #[]
  staticTypes := #[]
  resolved := Array.replicate 131 none
  statics := none }

def pool6 : Array CpInfo := pool [(1, .class_ 2), (0, u "java/lang/constant/Constable"), (0, .class_ 4), (0, u "java/lang/Object")] 6

/-- java/lang/constant/Constable -/
def k6 : Class := { plain "java/lang/constant/Constable" (some 0) with
  accessFlags := 1537
  interfaces := #[]
  cf := some (fileOf pool6 1 #[] #[] 1537 3 #[] #[])
  fields := #[]
  methods := #[]
  instanceTypes := #[]
  staticTypes := #[]
  resolved := Array.replicate 11 none
  statics := none }

def pool7 : Array CpInfo := pool [(1, .class_ 2), (0, u "java/lang/constant/ConstantDesc"), (0, .class_ 4), (0, u "java/lang/Object")] 32

/-- java/lang/constant/ConstantDesc -/
def k7 : Class := { plain "java/lang/constant/ConstantDesc" (some 0) with
  accessFlags := 1537
  interfaces := #[]
  cf := some (fileOf pool7 1 #[] #[] 1537 3 #[] #[])
  fields := #[]
  methods := #[]
  instanceTypes := #[]
  staticTypes := #[]
  resolved := Array.replicate 37 none
  statics := none }

def pool8 : Array CpInfo := pool [(2, .class_ 4), (1, u "java/lang/Object"), (0, u "<init>"), (0, u "()V"), (3, .class_ 12), (1, u "java/lang/String"), (0, u "value"), (0, u "[B"), (2, u "coder"), (0, u "B"), (2, u "hash"), (0, u "I"), (2, u "hashIsZero"), (0, u "Z"), (13, u "COMPACT_STRINGS"), (534, .class_ 576), (0, u "java/lang/CharSequence"), (22, u "CASE_INSENSITIVE_ORDER"), (0, u "Ljava/util/Comparator;"), (500, u "serialPersistentFields"), (0, u "[Ljava/io/ObjectStreamField;"), (0, .class_ 1104), (0, u "java/lang/String$CaseInsensitiveComparator"), (1, .class_ 1107), (0, u "java/io/Serializable"), (0, .class_ 1109), (0, u "java/lang/Comparable"), (0, .class_ 1111), (0, u "java/lang/constant/Constable"), (0, .class_ 1113), (0, u "java/lang/constant/ConstantDesc"), (2, u "serialVersionUID"), (0, u "J"), (3, u "REPL"), (0, u "C"), (2, u "LATIN1"), (1, u "UTF16")] 323

def k8m0 : Method := { name := "<init>", desc := "()V", sig := { parameters := [], returnType := none }, accessFlags := 1, code := none }
/-- java/lang/String -/
def k8 : Class := { plain "java/lang/String" (some 0) with
  accessFlags := 49
  interfaces := #[3, 4, 5, 6, 7]
  cf := some (fileOf pool8 10 #[.nestMembers #[1103]] #[{ accessFlags := 1, nameIndex := 5, descriptorIndex := 6, attributes := #[] }] 49 2 #[1106, 1108, 575, 1110, 1112] #[{ accessFlags := 18, nameIndex := 13, descriptorIndex := 14, attributes := #[] }, { accessFlags := 18, nameIndex := 17, descriptorIndex := 18, attributes := #[] }, { accessFlags := 2, nameIndex := 21, descriptorIndex := 22, attributes := #[] }, { accessFlags := 2, nameIndex := 25, descriptorIndex := 26, attributes := #[] }, { accessFlags := 26, nameIndex := 1116, descriptorIndex := 1117, attributes := #[] }, { accessFlags := 24, nameIndex := 40, descriptorIndex := 26, attributes := #[] }, { accessFlags := 26, nameIndex := 1101, descriptorIndex := 1102, attributes := #[] }, { accessFlags := 26, nameIndex := 1121, descriptorIndex := 1122, attributes := #[] }, { accessFlags := 25, nameIndex := 599, descriptorIndex := 600, attributes := #[] }, { accessFlags := 24, nameIndex := 1125, descriptorIndex := 18, attributes := #[] }, { accessFlags := 24, nameIndex := 1127, descriptorIndex := 18, attributes := #[] }])
  fields := #[{ name := "value", type := (.array .byte), accessFlags := 18, slot := 0, constantValue := 0 }, { name := "coder", type := .byte, accessFlags := 18, slot := 1, constantValue := 0 }, { name := "hash", type := .int, accessFlags := 2, slot := 2, constantValue := 0 }, { name := "hashIsZero", type := .boolean, accessFlags := 2, slot := 3, constantValue := 0 }, { name := "serialVersionUID", type := .long, accessFlags := 26, slot := 0, constantValue := 0 }, { name := "COMPACT_STRINGS", type := .boolean, accessFlags := 24, slot := 1, constantValue := 0 }, { name := "serialPersistentFields", type := (.array (.object "java/io/ObjectStreamField")), accessFlags := 26, slot := 2, constantValue := 0 }, { name := "REPL", type := .char, accessFlags := 26, slot := 3, constantValue := 0 }, { name := "CASE_INSENSITIVE_ORDER", type := (.object "java/util/Comparator"), accessFlags := 25, slot := 4, constantValue := 0 }, { name := "LATIN1", type := .byte, accessFlags := 24, slot := 5, constantValue := 0 }, { name := "UTF16", type := .byte, accessFlags := 24, slot := 6, constantValue := 0 }]
  methods := #[k8m0]
  instanceTypes := #[(.array .byte), .byte, .int, .boolean]
  staticTypes := #[.long, .boolean, (.array (.object "java/io/ObjectStreamField")), .char, (.object "java/util/Comparator"), .byte, .byte]
  resolved := Array.replicate 1451 none
  statics := none }

def pool9 : Array CpInfo := pool [(2, .class_ 4), (1, u "java/lang/Object"), (0, u "<init>"), (0, u "()V"), (35, .class_ 44), (1, u "java/util/Objects"), (0, u "requireNonNull"), (48, u "(Ljava/lang/Object;Ljava/lang/String;)Ljava/lang/Object;")] 89

def k9m0 : Method := { name := "<init>", desc := "()V", sig := { parameters := [], returnType := none }, accessFlags := 2, code := none }
def k9c1 : Code := { maxStack := 3, maxLocals := 2, code := jdk_31_method_11_code, exceptionTable := #[], attributes := #[] }
def k9m1 : Method := { name := "requireNonNull", desc := "(Ljava/lang/Object;Ljava/lang/String;)Ljava/lang/Object;", sig := { parameters := [(.object "java/lang/Object"), (.object "java/lang/String")], returnType := some (.object "java/lang/Object") }, accessFlags := 9, code := some k9c1 }
/-- java/util/Objects -/
def k9 : Class := { plain "java/util/Objects" (some 0) with
  accessFlags := 49
  interfaces := #[]
  cf := some (fileOf pool9 42 #[] #[{ accessFlags := 2, nameIndex := 5, descriptorIndex := 6, attributes := #[] }, { accessFlags := 9, nameIndex := 45, descriptorIndex := 94, attributes := #[] }] 49 2 #[] #[])
  fields := #[]
  methods := #[k9m0, k9m1]
  instanceTypes := #[]
  staticTypes := #[]
  resolved := Array.replicate 184 none
  statics := none }

def pool10 : Array CpInfo := pool [(1, .class_ 2), (0, u "java/lang/Cloneable"), (0, .class_ 4), (0, u "java/lang/Object")] 2

/-- java/lang/Cloneable -/
def k10 : Class := { plain "java/lang/Cloneable" (some 0) with
  accessFlags := 1537
  interfaces := #[]
  cf := some (fileOf pool10 1 #[] #[] 1537 3 #[] #[])
  fields := #[]
  methods := #[]
  instanceTypes := #[]
  staticTypes := #[]
  resolved := Array.replicate 7 none
  statics := none }

/-- the primitive byte -/
def k11 : Class := { plain "byte" none with kind := .primitive 'B', accessFlags := 0x411 }
/-- [B -/
def k12 : Class := { plain "[B" (some 0) with kind := .array 11 .byte, interfaces := #[10, 3], accessFlags := 1041 }

/-- the primitive int -/
def k13 : Class := { plain "int" none with kind := .primitive 'I', accessFlags := 0x411 }
/-- [I -/
def k14 : Class := { plain "[I" (some 0) with kind := .array 13 .int, interfaces := #[10, 3], accessFlags := 1041 }

def heap : Heap := #[]
def classes : Array Class := #[k0, k1, k2, k3, k4, k5, k6, k7, k8, k9, k10, k11, k12, k13, k14]
def interned : List (Array UInt16 × Addr) := []
def slotsUsed : Nat := 0
def theMethod : MethodId := ⟨1, 1⟩
def args0 : Array Value := #[.int 2, .int 4, .int 7, .int 5]
def aboutOver (below : List Frame) : State where
  vm := { classes := classes, interned := interned.toArray }
  heap := heap
  slotsUsed := slotsUsed
  threads := #[{ frames := .invoking theMethod args0 :: below }]
def below0 : List Frame := [.native { method := ⟨0, 0⟩, args := #[] }]
def about1 : State := aboutOver below0
def p0 : Program := .bare "" "" ""
def e0 : Env := launch0.env 0 0 0
theorem w_frames : about1.frames = Frame.invoking theMethod args0 :: below0 := rfl
set_option maxRecDepth 65536 in
theorem w_args : argsFit about1.vm theMethod args0 = true := by decide +kernel
set_option maxRecDepth 65536 in
theorem w_heap : heapFits about1 = true := by decide +kernel
set_option maxRecDepth 65536 in
theorem w_runnable : about1.curStatus? = some .runnable := by decide +kernel
set_option maxRecDepth 65536 in
theorem w_alone : about1.alone = true := by decide +kernel
set_option maxRecDepth 65536 in
theorem w_named : about1.methodNamed? x = some theMethod := by decide +kernel
set_option maxRecDepth 65536 in
theorem w_hears : about1.hears theMethod below0 = true := by decide +kernel
set_option maxRecDepth 65536 in
theorem w_ripe : about1.ripe theMethod args0 below0 = true := by decide +kernel
theorem w_running : about1.status = .running := rfl
set_option maxRecDepth 65536 in
theorem w_room : about1.hasRoom e0.platform room_1 = true :=
  launch0.hasRoom_least _ room_1 (by decide +kernel) (by decide +kernel) (by decide +kernel) (by decide +kernel) (by decide +kernel) (by decide +kernel)
theorem allAtoms_all (ts : List Jvm.Cond) (a : Array Jvm.Value) (st : Jvm.State) : (allAtoms ts).before a st = ts.all (fun c => c.before a st) := by
  induction ts with
  | nil => rfl
  | cons c t ih =>
    show (Jvm.Cond.and c (allAtoms t)).before a st = _
    rw [Jvm.Cond.before_and, ih, List.all_cons]
def words1 : List Jvm.Cond := Jvm.Cond.code x code maxLocals ret :: tables_1
/-- a 'code' word, met by the world's own term for the bytes: nothing is compared byte by byte -/
theorem code_word {y : MethodName} {bytes : ByteArray} {mx : Nat} {rt : Option FieldType} {a : Array Value} {s : State} {m : MethodId} {meth : Method} {c : Code} (h1 : s.methodNamed? y = some m) (h2 : s.vm.method? m = some meth) (h3 : meth.code = some c) (h4 : c.code = bytes)
    (h5 : (c.maxLocals == mx && c.exceptionTable.isEmpty && decide (c.maxStack ≤ mostOperands) && decide (meth.sig.returnType = rt) && !meth.locks && decide (parseMethodDescriptor y.desc = some meth.sig)) = true) : (Jvm.Cond.code y bytes mx rt).before a s = true := by
  simp only [Bool.and_eq_true, beq_iff_eq, Bool.not_eq_true', decide_eq_true_eq] at h5
  obtain ⟨⟨⟨⟨⟨g1, g2⟩, g3⟩, g4⟩, g5⟩, g6⟩ := h5
  simp [Cond.before, Cond.holds, Cond.value, h1, h2, h3, h4, g1, g2, g3, g4, g5, g6]
def isCode : Jvm.Cond → Bool
  | .code _ _ _ _ => true
  | _ => false
theorem all_split {L : List Jvm.Cond} {P : Jvm.Cond → Bool} (h1 : L.all (fun c => isCode c || P c) = true) (h2 : ∀ c ∈ L.filter isCode, P c = true) : L.all P = true := by
  refine List.all_eq_true.mpr fun c hc => ?_
  have h := List.all_eq_true.mp h1 c hc
  rcases Bool.eq_false_or_eq_true (isCode c) with hi | hi
  · exact h2 c (List.mem_filter.mpr ⟨hc, hi⟩)
  · simpa [hi] using h
set_option maxRecDepth 65536 in
theorem w_c0 : (Jvm.Cond.code x code maxLocals ret).before args0 about1 = true := code_word (m := ⟨1, 1⟩) (meth := k1m1) (c := k1c1) (by decide +kernel) rfl rfl rfl (by decide +kernel)
set_option maxRecDepth 65536 in
theorem w_c1 : (Jvm.Cond.code ({ cls := "com/example/tally/tally/model/Outcome", name := "failure", desc := "([B)Lcom/example/tally/tally/model/Outcome;" } : Jvm.MethodName) prog_19_method_3_code (1 : Nat) (Option.some (Jvm.ClassFile.FieldType.object "com/example/tally/tally/model/Outcome"))).before args0 about1 = true := code_word (m := ⟨2, 1⟩) (meth := k2m1) (c := k2c1) (by decide +kernel) rfl rfl rfl (by decide +kernel)
set_option maxRecDepth 65536 in
theorem w_c2 : (Jvm.Cond.code ({ cls := "java/util/Objects", name := "requireNonNull", desc := "(Ljava/lang/Object;Ljava/lang/String;)Ljava/lang/Object;" } : Jvm.MethodName) jdk_31_method_11_code (2 : Nat) (Option.some (Jvm.ClassFile.FieldType.object "java/lang/Object"))).before args0 about1 = true := code_word (m := ⟨9, 1⟩) (meth := k9m1) (c := k9c1) (by decide +kernel) rfl rfl rfl (by decide +kernel)
set_option maxRecDepth 65536 in
theorem w_c3 : (Jvm.Cond.code ({ cls := "com/example/tally/tally/model/Outcome", name := "<init>", desc := "([BZ)V" } : Jvm.MethodName) prog_19_method_1_code (3 : Nat) (Option.none : Option Jvm.ClassFile.FieldType)).before args0 about1 = true := code_word (m := ⟨2, 0⟩) (meth := k2m0) (c := k2c0) (by decide +kernel) rfl rfl rfl (by decide +kernel)
set_option maxRecDepth 65536 in
theorem w_c4 : (Jvm.Cond.code ({ cls := "java/lang/Object", name := "<init>", desc := "()V" } : Jvm.MethodName) object_method_1_code (1 : Nat) (Option.none : Option Jvm.ClassFile.FieldType)).before args0 about1 = true := code_word (m := ⟨0, 0⟩) (meth := k0m0) (c := k0c0) (by decide +kernel) rfl rfl rfl (by decide +kernel)
set_option maxRecDepth 65536 in
theorem w_c5 : (Jvm.Cond.code ({ cls := "com/example/tally/tally/model/Outcome", name := "failed", desc := "()Z" } : Jvm.MethodName) prog_19_method_5_code (1 : Nat) (Option.some Jvm.ClassFile.FieldType.boolean)).before args0 about1 = true := code_word (m := ⟨2, 3⟩) (meth := k2m3) (c := k2c3) (by decide +kernel) rfl rfl rfl (by decide +kernel)
set_option maxRecDepth 65536 in
theorem w_c6 : (Jvm.Cond.code ({ cls := "com/example/tally/tally/model/Outcome", name := "bytes", desc := "()[B" } : Jvm.MethodName) prog_19_method_4_code (1 : Nat) (Option.some (Jvm.ClassFile.FieldType.array Jvm.ClassFile.FieldType.byte))).before args0 about1 = true := code_word (m := ⟨2, 2⟩) (meth := k2m2) (c := k2c2) (by decide +kernel) rfl rfl rfl (by decide +kernel)
def codes1 : List Jvm.Cond := [Jvm.Cond.code x code maxLocals ret, Jvm.Cond.code ({ cls := "com/example/tally/tally/model/Outcome", name := "failure", desc := "([B)Lcom/example/tally/tally/model/Outcome;" } : Jvm.MethodName) prog_19_method_3_code (1 : Nat) (Option.some (Jvm.ClassFile.FieldType.object "com/example/tally/tally/model/Outcome")), Jvm.Cond.code ({ cls := "java/util/Objects", name := "requireNonNull", desc := "(Ljava/lang/Object;Ljava/lang/String;)Ljava/lang/Object;" } : Jvm.MethodName) jdk_31_method_11_code (2 : Nat) (Option.some (Jvm.ClassFile.FieldType.object "java/lang/Object")), Jvm.Cond.code ({ cls := "com/example/tally/tally/model/Outcome", name := "<init>", desc := "([BZ)V" } : Jvm.MethodName) prog_19_method_1_code (3 : Nat) (Option.none : Option Jvm.ClassFile.FieldType), Jvm.Cond.code ({ cls := "java/lang/Object", name := "<init>", desc := "()V" } : Jvm.MethodName) object_method_1_code (1 : Nat) (Option.none : Option Jvm.ClassFile.FieldType), Jvm.Cond.code ({ cls := "com/example/tally/tally/model/Outcome", name := "failed", desc := "()Z" } : Jvm.MethodName) prog_19_method_5_code (1 : Nat) (Option.some Jvm.ClassFile.FieldType.boolean), Jvm.Cond.code ({ cls := "com/example/tally/tally/model/Outcome", name := "bytes", desc := "()[B" } : Jvm.MethodName) prog_19_method_4_code (1 : Nat) (Option.some (Jvm.ClassFile.FieldType.array Jvm.ClassFile.FieldType.byte))]
set_option maxRecDepth 65536 in
theorem codes_eq : words1.filter isCode = codes1 := rfl
theorem w_codes : ∀ c ∈ words1.filter isCode, c.before args0 about1 = true := by
  rw [codes_eq]
  intro c hc
  simp only [codes1, List.mem_cons, List.not_mem_nil, or_false] at hc
  rcases hc with rfl | rfl | rfl | rfl | rfl | rfl | rfl
  · exact w_c0
  · exact w_c1
  · exact w_c2
  · exact w_c3
  · exact w_c4
  · exact w_c5
  · exact w_c6
set_option maxRecDepth 65536 in
theorem w_t1 : (words1.take 24).all (fun c => isCode c || c.before args0 about1) = true := by decide +kernel
set_option maxRecDepth 65536 in
theorem w_t2 : (words1.drop 24).all (fun c => isCode c || c.before args0 about1) = true := by decide +kernel
theorem w_tables : (allAtoms (Jvm.Cond.code x code maxLocals ret :: tables_1)).before args0 about1 = true := by
  rw [allAtoms_all]
  show words1.all (fun c => c.before args0 about1) = true
  refine all_split ?_ w_codes
  rw [← List.take_append_drop 24 words1, List.all_append, w_t1, w_t2]
  rfl
set_option maxRecDepth 65536 in
theorem w_case : (Jvm.Cond.and given_1 narrow_1).before args0 about1 = true := by decide +kernel
theorem w_applies : (headSpec (Jvm.Cond.code x code maxLocals ret :: tables_1) room_1).applies x e0.platform about1 = true :=
  (Spec.applies_iff w_frames).mpr ⟨w_running, w_runnable, w_alone, w_named, w_hears, w_ripe, w_room, w_tables⟩
theorem atStart : AtStart classFile x code maxLocals ret World_1 tables_1 room_1 Calls_1 rest_1 Pre_1 launch0 p0 e0 about1 theMethod args0 below0 :=
  ⟨lists_1, trivial, launch0.admits_env _ _ _, launch0.least_env, fairChoices_fair.cas, fairChoices_fair.clock, w_frames, w_args, w_heap, w_applies, trivial, trivial, w_case⟩
end start1
theorem witness_1 : WitnessClaimed_1 := ⟨start1.p0, start1.e0, start1.about1, start1.theMethod, start1.args0, start1.below0, start1.atStart⟩
end Jvm.Pilot.@@N@@
