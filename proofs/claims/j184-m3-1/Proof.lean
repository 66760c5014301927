import JvmDerived
import JvmDerived.Pilot.@@N@@Statement
import JvmDerived.Pilot.@@N@@Code
set_option linter.unusedVariables false
set_option linter.unusedSimpArgs false
@@BLOCK:NumsL.lean.txt@@
namespace Jvm.Pilot.@@N@@
open Jvm Jvm.ClassFile Sem Op Lib Jvm.Free Jvm.Stand Jvm.LawKit Jvm.RoadKit Bundle Jvm.Pilot.@@N@@.Jvm.D
/-! small laws of this text's own: returns, lrem as %, lcmp and the branch behind it -/
section Own
variable {p : Program} {l : Launch} {e : Env} {R : Room} {s : State} {m : MethodId} {args : Array Value} {below : List Frame} {meth : Method} {c : Code} {T : State} {locs : List Loc} {cells slots : Nat}
theorem own_retI (X : Stand p l e R s m args below meth c T locs cells slots) (hx : p.tables.exec = Jvm.exec) {pc : Nat} {Ls : Array Slot} {z : Int32} {rest : List Value} (hret : meth.sig.returnType = some .int) (hd : decode c.code pc = .ok (.ireturn, 1)) {fs : List Frame}
    (hl : ∀ (f : JFrame) (acts : List Action), f.method = m → f.locked = none → f.entered = [] → (doReturn e (T.setTop f) acts (some (.int z))).1 = T.setFrames fs) : Steps p.tables e below (T.setTop (mkF m pc Ls (.int z :: rest))) (T.setFrames fs) :=
  retOut X hx hret rfl (Or.inl ⟨rfl, Or.inl rfl, z, rfl⟩) hd hl
theorem own_retJ (X : Stand p l e R s m args below meth c T locs cells slots) (hx : p.tables.exec = Jvm.exec) {pc : Nat} {Ls : Array Slot} {z : Int64} {rest : List Value} (hret : meth.sig.returnType = some .long) (hd : decode c.code pc = .ok (.lreturn, 1)) {fs : List Frame}
    (hl : ∀ (f : JFrame) (acts : List Action), f.method = m → f.locked = none → f.entered = [] → (doReturn e (T.setTop f) acts (some (.long z))).1 = T.setFrames fs) : Steps p.tables e below (T.setTop (mkF m pc Ls (.long z :: rest))) (T.setFrames fs) :=
  retOut X hx hret rfl (Or.inr (Or.inl ⟨rfl, rfl, z, rfl⟩)) hd hl
theorem own_retR (X : Stand p l e R s m args below meth c T locs cells slots) (hx : p.tables.exec = Jvm.exec) {pc : Nat} {Ls : Array Slot} {b : Addr} {rest : List Value} {t : FieldType} (hret : meth.sig.returnType = some t) (ht : t.isReference = true) (hn : narrow t (.ref b) = .ref b) (hd : decode c.code pc = .ok (.areturn, 1)) {fs : List Frame}
    (hl : ∀ (f : JFrame) (acts : List Action), f.method = m → f.locked = none → f.entered = [] → (doReturn e (T.setTop f) acts (some (.ref b))).1 = T.setFrames fs) : Steps p.tables e below (T.setTop (mkF m pc Ls (.ref b :: rest))) (T.setFrames fs) :=
  retOut X hx hret hn (Or.inr (Or.inr (Or.inr (Or.inr ⟨rfl, ht, rfl⟩)))) hd hl
theorem own_lrem_mod (x y : Int64) : x - (x / y) * y = x % y := by
  apply Int64.toInt_inj.mp
  have h1 := Int64.le_toInt (x % y)
  have h2 := Int64.toInt_lt (x % y)
  rw [Int64.toInt_sub, Int64.toInt_mul, Int64.toInt_div, Int.bmod_mul_bmod, Int.sub_bmod_bmod, Int.mul_comm (x.toInt.tdiv y.toInt), ← Int.tmod_def, ← Int64.toInt_mod]
  exact Int.bmod_eq_of_le_mul_two (by omega) (by omega)
theorem own_lremM {tb : Tables} [Ours tb] {e : Env} {below : List Frame} {T target : State} {m : MethodId} {c : Code} {g : JFrame} (h : At T m c below) (hx : tb.exec = Jvm.exec) (hg : g.method = m) {x y : Int64} {rest : List Value} (hd : decode c.code g.pc = .ok (.lrem, 1)) (hs : g.stack = .long y :: .long x :: rest) (hy : y ≠ 0)
    (hr : Steps tb e below (T.setTop { g with pc := g.pc + 1, stack := .long (x % y) :: rest }) target) : Steps tb e below (T.setTop g) target :=
  XS.lrem h hx hg hd hs hy (by rw [own_lrem_mod]; exact hr)
end Own
theorem own_hgt (z : Int32) : ifCond.holds .gt z = decide (z > 0) := rfl
theorem own_hlt (z : Int32) : ifCond.holds .lt z = decide (z < 0) := rfl
theorem own_heq (z : Int32) : ifCond.holds .eq z = (z == 0) := rfl
theorem own_hge (z : Int32) : ifCond.holds .ge z = decide (z ≥ 0) := rfl
theorem own_hle (z : Int32) : ifCond.holds .le z = decide (z ≤ 0) := rfl
theorem own_hne (z : Int32) : ifCond.holds .ne z = (z != 0) := rfl
theorem own_lc1 {x y : Int64} (h : y < x) : lcmpW x y = 1 := if_pos h
theorem own_lc0 {x y : Int64} (h : x = y) : lcmpW x y = 0 := by
  have h1 : ¬ y < x := by rw [h, Int64.lt_iff_toInt_lt]; omega
  exact (if_neg h1).trans (if_pos h)
theorem own_lcm {x y : Int64} (h : x < y) : lcmpW x y = -1 := by
  have h1 : ¬ y < x := by rw [Int64.lt_iff_toInt_lt] at *; omega
  have h2 : ¬ x = y := fun q => by rw [q, Int64.lt_iff_toInt_lt] at h; omega
  exact (if_neg h1).trans (if_neg h2)
theorem own_tri (x y : Int64) : x < y ∨ x = y ∨ y < x := by
  rw [Int64.lt_iff_toInt_lt, Int64.lt_iff_toInt_lt, ← Int64.toInt_inj]; omega
theorem own_nlt {x y : Int64} (h : x < y) : ¬ y < x ∧ ¬ x = y := by
  rw [Int64.lt_iff_toInt_lt] at *
  exact ⟨by omega, fun q => by rw [q] at h; omega⟩
theorem own_Tlt {x y : Int64} (h : x < y) : ifCond.holds .lt (lcmpW x y) = true ∧ ifCond.holds .ge (lcmpW x y) = false := by rw [own_lcm h]; decide
theorem own_Flt {x y : Int64} (h : ¬ x < y) : ifCond.holds .lt (lcmpW x y) = false ∧ ifCond.holds .ge (lcmpW x y) = true := by
  rcases own_tri x y with q | q | q
  · exact absurd q h
  · rw [own_lc0 q]; decide
  · rw [own_lc1 q]; decide
theorem own_Tgt {x y : Int64} (h : y < x) : ifCond.holds .gt (lcmpW x y) = true ∧ ifCond.holds .le (lcmpW x y) = false := by rw [own_lc1 h]; decide
theorem own_Fgt {x y : Int64} (h : ¬ y < x) : ifCond.holds .gt (lcmpW x y) = false ∧ ifCond.holds .le (lcmpW x y) = true := by
  rcases own_tri x y with q | q | q
  · rw [own_lcm q]; decide
  · rw [own_lc0 q]; decide
  · exact absurd q h
theorem own_Teq {x y : Int64} (h : x = y) : ifCond.holds .eq (lcmpW x y) = true ∧ ifCond.holds .ne (lcmpW x y) = false := by rw [own_lc0 h]; decide
theorem own_Feq {x y : Int64} (h : ¬ x = y) : ifCond.holds .eq (lcmpW x y) = false ∧ ifCond.holds .ne (lcmpW x y) = true := by
  rcases own_tri x y with q | q | q
  · rw [own_lcm q]; decide
  · exact absurd q h
  · rw [own_lc1 q]; decide
/-! arrays as functions: what place i of the array holds -/
section OwnH
variable {p : Program} {l : Launch} {e : Env} {R : Room} {s : State} {m : MethodId} {args : Array Value} {below : List Frame} {meth : Method} {c : Code} {T : State} {locs : List Loc} {cells slots : Nat} {Z : State} {h h' : Heap} {a b : Addr} {z j : Int32} {ty : FieldType} {ws : List Addr} {sl : Nat} {w : Value}
def own_AI (Z : State) (h : Heap) (a : Addr) (ty : FieldType) (z : Int32) (f : Nat → Int32) : Prop := ∃ c : Cell, Arr Z h a c ty ∧ c.slots.size = z.toNatClampNeg ∧ ¬ z < 0 ∧ ∀ i, i < c.slots.size → c.slots[i]? = some (.int (f i))
def own_AJ (Z : State) (h : Heap) (a : Addr) (z : Int32) (f : Nat → Int64) : Prop := ∃ c : Cell, Arr Z h a c .long ∧ c.slots.size = z.toNatClampNeg ∧ ¬ z < 0 ∧ ∀ i, i < c.slots.size → c.slots[i]? = some (.long (f i))
def own_upd {α : Type} (f : Nat → α) (k : Nat) (v : α) : Nat → α := fun i => if i = k then v else f i
theorem own_slots (c : Cell) (k : Nat) (v : Value) : (c.setSlot k v).slots = c.slots.setIfInBounds k v := rfl
theorem own_AI.ext {f : Nat → Int32} (A : own_AI Z h a ty z f) (E : Ext h h') : own_AI Z h' a ty z f := by obtain ⟨c, A1, r⟩ := A; exact ⟨c, A1.ext E, r⟩
theorem own_AI.other {f : Nat → Int32} (A : own_AI Z h a ty z f) (W : Wr h h' b sl w) (q : a ≠ b) : own_AI Z h' a ty z f := by obtain ⟨c, A1, r⟩ := A; exact ⟨c, A1.other W q, r⟩
theorem own_AI.keep {f : Nat → Int32} (A : own_AI Z h a ty z f) (K : Keep h h' ws) (q : a ∉ ws) : own_AI Z h' a ty z f := by obtain ⟨c, A1, r⟩ := A; exact ⟨c, ⟨K.2.1 a c A1.1 q, A1.2⟩, r⟩
theorem own_AI.lt {f : Nat → Int32} (A : own_AI Z h a ty z f) : a < h.size := by obtain ⟨c, A1, -⟩ := A; exact A1.lt
theorem own_AI.set {f : Nat → Int32} {k : Nat} {v : Int32} (A : own_AI Z h a ty z f) (W : Wr h h' a k (.int v)) : own_AI Z h' a ty z (own_upd f k v) := by
  obtain ⟨c, A1, S, M, H⟩ := A
  refine ⟨_, A1.same W, by rw [sz_set]; exact S, M, fun i hi => ?_⟩
  rw [sz_set] at hi
  rw [own_slots]
  by_cases q : i = k
  · subst q
    rw [Array.getElem?_setIfInBounds_self_of_lt hi]
    exact congrArg (fun u => some (Value.int u)) (if_pos rfl).symm
  · rw [Array.getElem?_setIfInBounds_ne (fun u => q u.symm), H i hi]
    exact congrArg (fun u => some (Value.int u)) (if_neg q).symm
theorem own_AI.new {k : ClassId} (A : Arr Z h a (newA k ty z) ty) (q : ¬ z < 0) (hd : defaultValue ty = .int 0) : own_AI Z h a ty z (fun _ => 0) := by
  obtain ⟨c, A1, -, S, M, H, -⟩ := Arv.new A q
  refine ⟨c, A1, S, M, fun i hi => ?_⟩
  rw [H i hi, ← hd]; rfl
theorem own_AI.congr {f f' : Nat → Int32} (A : own_AI Z h a ty z f) (q : ∀ i, i < z.toNatClampNeg → f i = f' i) : own_AI Z h a ty z f' := by
  obtain ⟨c, A1, S, M, H⟩ := A
  exact ⟨c, A1, S, M, fun i hi => by rw [H i hi, q i (S ▸ hi)]⟩
theorem own_AJ.ext {f : Nat → Int64} (A : own_AJ Z h a z f) (E : Ext h h') : own_AJ Z h' a z f := by obtain ⟨c, A1, r⟩ := A; exact ⟨c, A1.ext E, r⟩
theorem own_AJ.other {f : Nat → Int64} (A : own_AJ Z h a z f) (W : Wr h h' b sl w) (q : a ≠ b) : own_AJ Z h' a z f := by obtain ⟨c, A1, r⟩ := A; exact ⟨c, A1.other W q, r⟩
theorem own_AJ.keep {f : Nat → Int64} (A : own_AJ Z h a z f) (K : Keep h h' ws) (q : a ∉ ws) : own_AJ Z h' a z f := by obtain ⟨c, A1, r⟩ := A; exact ⟨c, ⟨K.2.1 a c A1.1 q, A1.2⟩, r⟩
theorem own_AJ.lt {f : Nat → Int64} (A : own_AJ Z h a z f) : a < h.size := by obtain ⟨c, A1, -⟩ := A; exact A1.lt
theorem own_AJ.set {f : Nat → Int64} {k : Nat} {v : Int64} (A : own_AJ Z h a z f) (W : Wr h h' a k (.long v)) : own_AJ Z h' a z (own_upd f k v) := by
  obtain ⟨c, A1, S, M, H⟩ := A
  refine ⟨_, A1.same W, by rw [sz_set]; exact S, M, fun i hi => ?_⟩
  rw [sz_set] at hi
  rw [own_slots]
  by_cases q : i = k
  · subst q
    rw [Array.getElem?_setIfInBounds_self_of_lt hi]
    exact congrArg (fun u => some (Value.long u)) (if_pos rfl).symm
  · rw [Array.getElem?_setIfInBounds_ne (fun u => q u.symm), H i hi]
    exact congrArg (fun u => some (Value.long u)) (if_neg q).symm
theorem own_AJ.new {k : ClassId} (A : Arr Z h a (newA k .long z) .long) (q : ¬ z < 0) : own_AJ Z h a z (fun _ => 0) := by
  obtain ⟨c, A1, -, S, M, H, -⟩ := Arv.new A q
  refine ⟨c, A1, S, M, fun i hi => ?_⟩
  rw [H i hi]; rfl
theorem own_ldI {f : Nat → Int32} (X : Stand p l e R s m args below meth c T locs cells slots) (hx : p.tables.exec = Jvm.exec) (hZ : Z.Warmed39 s.vm) (eT : T.heap = h) (A : own_AI Z h a .int z f) (h0 : ¬ j < 0) (h1 : j < z) {g : JFrame} (hg : g.method = m) {rest : List Value} (hs : g.stack = .int j :: .ref a :: rest) (hd : decode c.code g.pc = .ok (.iaload, 1)) :
    ∀ t, Steps p.tables e below (T.setTop { g with pc := g.pc + 1, stack := .int (f j.toNatClampNeg) :: rest }) t → Steps p.tables e below (T.setTop g) t := by
  obtain ⟨c, A1, S, M, H⟩ := A
  have hin := inb_of S ⟨h0, h1⟩
  exact fun t k => X.iaload hx (by rw [eT]; exact A1.1) (State.isArrayOf_alike hZ.alike A1.2.1) A1.2.2 hin (H _ (Nat.lt_of_not_le fun q => hin (Or.inr q))) hg hs hd t k
theorem own_ldB {f : Nat → Int32} (X : Stand p l e R s m args below meth c T locs cells slots) (hx : p.tables.exec = Jvm.exec) (hZ : Z.Warmed39 s.vm) (eT : T.heap = h) (A : own_AI Z h a .byte z f) (h0 : ¬ j < 0) (h1 : j < z) {g : JFrame} (hg : g.method = m) {rest : List Value} (hs : g.stack = .int j :: .ref a :: rest) (hd : decode c.code g.pc = .ok (.baload, 1)) :
    ∀ t, Steps p.tables e below (T.setTop { g with pc := g.pc + 1, stack := .int (f j.toNatClampNeg) :: rest }) t → Steps p.tables e below (T.setTop g) t := by
  obtain ⟨c, A1, S, M, H⟩ := A
  have hin := inb_of S ⟨h0, h1⟩
  exact fun t k => X.baloadBytes hx (by rw [eT]; exact A1.1) (State.isArrayOf_alike hZ.alike A1.2.1) A1.2.2 hin (H _ (Nat.lt_of_not_le fun q => hin (Or.inr q))) hg hs hd t k
theorem own_ldJ {f : Nat → Int64} (X : Stand p l e R s m args below meth c T locs cells slots) (hx : p.tables.exec = Jvm.exec) (hZ : Z.Warmed39 s.vm) (eT : T.heap = h) (A : own_AJ Z h a z f) (h0 : ¬ j < 0) (h1 : j < z) {g : JFrame} (hg : g.method = m) {rest : List Value} (hs : g.stack = .int j :: .ref a :: rest) (hd : decode c.code g.pc = .ok (.laload, 1)) :
    ∀ t, Steps p.tables e below (T.setTop { g with pc := g.pc + 1, stack := .long (f j.toNatClampNeg) :: rest }) t → Steps p.tables e below (T.setTop g) t := by
  obtain ⟨c, A1, S, M, H⟩ := A
  have hin := inb_of S ⟨h0, h1⟩
  exact fun t k => X.laload hx (by rw [eT]; exact A1.1) (State.isArrayOf_alike hZ.alike A1.2.1) A1.2.2 hin (H _ (Nat.lt_of_not_le fun q => hin (Or.inr q))) hg hs hd t k
theorem own_lenI {f : Nat → Int32} (X : Stand p l e R s m args below meth c T locs cells slots) (hx : p.tables.exec = Jvm.exec) (hZ : Z.Warmed39 s.vm) (eT : T.heap = h) (A : own_AI Z h a ty z f) {g : JFrame} (hg : g.method = m) {rest : List Value} (hs : g.stack = .ref a :: rest) (hd : decode c.code g.pc = .ok (.arraylength, 1)) :
    ∀ t, Steps p.tables e below (T.setTop { g with pc := g.pc + 1, stack := .int z :: rest }) t → Steps p.tables e below (T.setTop g) t := by
  obtain ⟨c, A1, S, M, H⟩ := A
  exact fun t k => X.arraylength hx (by rw [eT]; exact A1.1) (State.isArrayOf_alike hZ.alike A1.2.1) hg hs hd t (by rw [len_of S M]; exact k)
theorem own_lenJ {f : Nat → Int64} (X : Stand p l e R s m args below meth c T locs cells slots) (hx : p.tables.exec = Jvm.exec) (hZ : Z.Warmed39 s.vm) (eT : T.heap = h) (A : own_AJ Z h a z f) {g : JFrame} (hg : g.method = m) {rest : List Value} (hs : g.stack = .ref a :: rest) (hd : decode c.code g.pc = .ok (.arraylength, 1)) :
    ∀ t, Steps p.tables e below (T.setTop { g with pc := g.pc + 1, stack := .int z :: rest }) t → Steps p.tables e below (T.setTop g) t := by
  obtain ⟨c, A1, S, M, H⟩ := A
  exact fun t k => X.arraylength hx (by rw [eT]; exact A1.1) (State.isArrayOf_alike hZ.alike A1.2.1) hg hs hd t (by rw [len_of S M]; exact k)
theorem own_stI {f : Nat → Int32} {x : Int32} (X : Stand p l e R s m args below meth c T locs cells slots) (hx : p.tables.exec = Jvm.exec) (hZ : Z.Warmed39 s.vm) (eT : T.heap = h) (A : own_AI Z h a .int z f) (h0 : ¬ j < 0) (h1 : j < z) {g : JFrame} (hg : g.method = m) {rest : List Value} (hs : g.stack = .int x :: .int j :: .ref a :: rest) (hd : decode c.code g.pc = .ok (.iastore, 1)) :
    ∃ T' h', Stand p l e R s m args below meth c T' (locs ++ [⟨a, j.toNatClampNeg⟩]) cells slots ∧ T'.heap = h' ∧ Wr h h' a j.toNatClampNeg (.int x) ∧ own_AI Z h' a .int z (own_upd f j.toNatClampNeg x) ∧ ∀ t, Steps p.tables e below (T'.setTop { g with pc := g.pc + 1, stack := rest }) t → Steps p.tables e below (T.setTop g) t := by
  obtain ⟨c, A1, S, M, H⟩ := A
  obtain ⟨T', h', X', e', W, st⟩ := stI X hx hZ eT A1 (inb_of S ⟨h0, h1⟩) hg hs hd
  exact ⟨T', h', X', e', W, own_AI.set ⟨c, A1, S, M, H⟩ W, st⟩
theorem own_stB {f : Nat → Int32} {x : Int32} (X : Stand p l e R s m args below meth c T locs cells slots) (hx : p.tables.exec = Jvm.exec) (hZ : Z.Warmed39 s.vm) (eT : T.heap = h) (A : own_AI Z h a .byte z f) (h0 : ¬ j < 0) (h1 : j < z) {g : JFrame} (hg : g.method = m) {rest : List Value} (hs : g.stack = .int x :: .int j :: .ref a :: rest) (hd : decode c.code g.pc = .ok (.bastore, 1)) :
    ∃ T' h', Stand p l e R s m args below meth c T' (locs ++ [⟨a, j.toNatClampNeg⟩]) cells slots ∧ T'.heap = h' ∧ Wr h h' a j.toNatClampNeg (.int (nar .byte x)) ∧ own_AI Z h' a .byte z (own_upd f j.toNatClampNeg (nar .byte x)) ∧ ∀ t, Steps p.tables e below (T'.setTop { g with pc := g.pc + 1, stack := rest }) t → Steps p.tables e below (T.setTop g) t := by
  obtain ⟨c, A1, S, M, H⟩ := A
  obtain ⟨T', h', X', e', W, st⟩ := stB X hx hZ eT A1 (inb_of S ⟨h0, h1⟩) hg hs hd
  exact ⟨T', h', X', e', W, own_AI.set ⟨c, A1, S, M, H⟩ W, st⟩
theorem own_stJ {f : Nat → Int64} {x : Int64} (X : Stand p l e R s m args below meth c T locs cells slots) (hx : p.tables.exec = Jvm.exec) (hZ : Z.Warmed39 s.vm) (eT : T.heap = h) (A : own_AJ Z h a z f) (h0 : ¬ j < 0) (h1 : j < z) {g : JFrame} (hg : g.method = m) {rest : List Value} (hs : g.stack = .long x :: .int j :: .ref a :: rest) (hd : decode c.code g.pc = .ok (.lastore, 1)) :
    ∃ T' h', Stand p l e R s m args below meth c T' (locs ++ [⟨a, j.toNatClampNeg⟩]) cells slots ∧ T'.heap = h' ∧ Wr h h' a j.toNatClampNeg (.long x) ∧ own_AJ Z h' a z (own_upd f j.toNatClampNeg x) ∧ ∀ t, Steps p.tables e below (T'.setTop { g with pc := g.pc + 1, stack := rest }) t → Steps p.tables e below (T.setTop g) t := by
  obtain ⟨c, A1, S, M, H⟩ := A
  obtain ⟨T', h', X', e', W, st⟩ := stJ X hx hZ eT A1 (inb_of S ⟨h0, h1⟩) hg hs hd
  exact ⟨T', h', X', e', W, own_AJ.set ⟨c, A1, S, M, H⟩ W, st⟩
end OwnH
theorem own_clamp {n : Nat} (h : n < 2147483648) : (Int32.ofNat n).toNatClampNeg = n := by
  have e : (Int32.ofNat n).toInt = n := Int32.toInt_ofNat_of_lt (by omega)
  show (Int32.ofNat n).toInt.toNat = n
  rw [e]; rfl
theorem own_ofNat {n : Nat} (h : n < 2147483648) : (Int32.ofNat n).toInt = n := Int32.toInt_ofNat_of_lt (by omega)
theorem own_nn {n : Nat} (h : n < 2147483648) : ¬ Int32.ofNat n < 0 := by
  have e0 : (0 : Int32).toInt = 0 := by decide
  rw [Int32.lt_iff_toInt_lt, own_ofNat h, e0]; omega
theorem own_ltN {i n : Nat} (h : i < n) (hn : n < 2147483648) : Int32.ofNat i < Int32.ofNat n := by
  rw [Int32.lt_iff_toInt_lt, own_ofNat (by omega), own_ofNat hn]; omega
theorem own_succ (i : Nat) : Int32.ofNat i + (1 : Int32) = Int32.ofNat (i + 1) := (Int32.ofNat_add i 1).symm
/-! body 2: init -/
theorem d2_0 : decode jdk_30_method_1_code 0 = .ok (.aload_n 0, 1) := by decide +kernel
theorem d2_1 : decode jdk_30_method_1_code 1 = .ok (.invokespecial 1, 3) := by decide +kernel
theorem d2_4 : decode jdk_30_method_1_code 4 = .ok (.return_, 1) := by decide +kernel
theorem pn2 : plainName "java/lang/Record" = true := by first | (simp [plainName, overriddenIn]; done) | decide +kernel
theorem ef2 (m : MethodId) (a1 : Addr) : entryFrame m #[(.ref a1)] 1 = mkF m 0 #[.val (.ref a1)] [] := by first | (simp [entryFrame, mkF, argsToLocals, Value.category]; done) | rfl
def Q2 (Z : State) (a1 : Addr) (h0 : Heap) (n0 : Nat) (v : Option Value) (h : Heap) (L : List Loc) : Prop := v = none ∧ Fr n0 L ∧ h = h0
set_option maxRecDepth 65536 in
set_option maxHeartbeats 40000000 in
theorem rm2 (l : Launch) (Z : State) (a0 : Array Value) (hw : ∀ d ∈ tables_1, d.before a0 Z = true) (ws : List Jvm.Cond) (a1 : Addr) (h0 : Heap) (n0 : Nat) (Z0 : n0 ≤ h0.size) :
    MetFree l (⟨"java/lang/Record", "<init>", "()V"⟩ : MethodName) (head1 (Jvm.Cond.code (⟨"java/lang/Record", "<init>", "()V"⟩ : MethodName) jdk_30_method_1_code 1 none :: ws) ({ frames := 1, cells := 0, slots := 0, locals := 12 } : Room)) (fun a U => a = #[(.ref a1)] ∧ Z.Warmed39 U.vm ∧ U.heap = h0) (fun _ _ _ _ _ => True) (fun _ U o U' => ∃ v L, o = .returned v ∧ Q2 Z a1 h0 n0 v U'.heap L ∧ FrameEnd U o U' L ({ frames := 1, cells := 0, slots := 0, locals := 12 } : Room).cells ({ frames := 1, cells := 0, slots := 0, locals := 12 } : Room).slots) := by
  refine MetFree.of_bodySF (plainFor_of_name pn2) hisR ?_
  intro p e s m args below meth c s₁ Bd hml0 hP hK
  obtain ⟨rfl, hZ, hh⟩ := hP
  have hx := Bd.exec
  have hby := Bd.bytes
  have hml : c.maxLocals = 1 := hml0
  have hown : s.vm.findClass "java/lang/Record" = some m.cls := findClass_of_methodNamed Bd.named
  have hnm := (name_of_methodNamed Bd.named Bd.method).1
  have X0 : Stand p l e ({ frames := 1, cells := 0, slots := 0, locals := 12 } : Room) s m #[(.ref a1)] below meth c s₁ [] 0 0 := Stand.of_body Bd
  have e0 : s₁.heap = h0 := by rw [← hh, Bd.state]; rfl
  have N0 := Fr.nil n0
  have pre0 : ∀ t, Steps p.tables e below (s₁.setTop (mkF m 0 #[.val (.ref a1)] [])) t → Steps p.tables e below (s₁.setTop (entryFrame m #[(.ref a1)] 1)) t := fun t k => castTop (ef2 m a1) k
  have pre1 : ∀ t, Steps p.tables e below (s₁.setTop (mkF m 1 #[.val (.ref a1)] [(.ref a1)])) t → Steps p.tables e below (s₁.setTop (entryFrame m #[(.ref a1)] 1)) t := by
    intro t k
    refine pre0 t ?_
    show Steps p.tables e below (s₁.setTop (mkF m 0 #[.val (.ref a1)] [])) _
    refine XS.aloadN X0.here hx rfl (hb hby d2_0) rfl rfl ?_
    show Steps p.tables e below (s₁.setTop (mkF m 1 #[.val (.ref a1)] [(.ref a1)])) _
    exact k
  obtain ⟨T2, X2, e2, st2⟩ := initO X0 hx hZ hown (hw _ (List.mem_of_getElem? (i := 12) rfl)) (hw _ (List.mem_of_getElem? (i := 13) rfl)) (hw _ (List.mem_of_getElem? (i := 14) rfl)) e0 (g := (mkF m 1 #[.val (.ref a1)] [(.ref a1)])) rfl (by rw [hml]; rfl) rfl (hb hby d2_1) (by decide) (W := 0) (by show 2 * 0 + _ ≤ _; exact Nat.le_of_eq rfl) (by decide)
  have pre2 : ∀ t, Steps p.tables e below (T2.setTop (mkF m 4 #[.val (.ref a1)] [])) t → Steps p.tables e below (s₁.setTop (entryFrame m #[(.ref a1)] 1)) t := fun t k => pre1 t (st2 _ k)
  obtain ⟨fs, hr, hrun, hended, hW, hsame⟩ := X2.leave (v := none) (fun _ => rfl)
  refine ⟨_, _, pre2 _ ?_, hrun, hended, _, _, rfl, ?_, ⟨_, rfl⟩, hW, hsame.mono (by decide) (by decide)⟩
  · show Steps p.tables e below (T2.setTop (mkF m 4 #[.val (.ref a1)] [])) _
    exact X2.returnOut hx Bd.returns (hb hby d2_4) hr
  · show Q2 Z a1 h0 n0 _ T2.heap _
    rw [e2]
    exact ⟨rfl, N0, rfl⟩
/-! body 4: mask -/
theorem d4_0 : decode prog_25_method_10_code 0 = .ok (.ldc2_w 91, 3) := by decide +kernel
theorem d4_3 : decode prog_25_method_10_code 3 = .ok (.bipush 64, 2) := by decide +kernel
theorem d4_5 : decode prog_25_method_10_code 5 = .ok (.iload_n 0, 1) := by decide +kernel
theorem d4_6 : decode prog_25_method_10_code 6 = .ok (.isub, 1) := by decide +kernel
theorem d4_7 : decode prog_25_method_10_code 7 = .ok (.lushr, 1) := by decide +kernel
theorem d4_8 : decode prog_25_method_10_code 8 = .ok (.lreturn, 1) := by decide +kernel
theorem pnM : plainName "com/example/rimefall/rimefall/model/Layout" = true := by first | (simp [plainName, overriddenIn]; done) | decide +kernel
theorem efM (m : MethodId) (p1 : Int32) : entryFrame m #[(.int p1)] 1 = mkF m 0 #[.val (.int p1)] [] := by first | (simp [entryFrame, mkF, argsToLocals, Value.category]; done) | rfl
def fnM (p1 : Int32) : Int64 :=
  (((-1 : Int64).toUInt64 >>> (((64 : Int32) - p1) &&& 0x3f).toInt64.toUInt64).toInt64)
def QM (Z : State) (p1 : Int32) (h0 : Heap) (n0 : Nat) (v : Option Value) (h : Heap) (L : List Loc) : Prop := v = some (.long (fnM p1)) ∧ Fr n0 L ∧ h = h0
set_option maxRecDepth 65536 in
set_option maxHeartbeats 40000000 in
theorem rmM (l : Launch) (Z : State) (a0 : Array Value) (hw : ∀ d ∈ tables_1, d.before a0 Z = true) (ws : List Jvm.Cond) (p1 : Int32) (h0 : Heap) (n0 : Nat) (Z0 : n0 ≤ h0.size) :
    MetFree l (⟨"com/example/rimefall/rimefall/model/Layout", "mask", "(I)J"⟩ : MethodName) (head1 (Jvm.Cond.code (⟨"com/example/rimefall/rimefall/model/Layout", "mask", "(I)J"⟩ : MethodName) prog_25_method_10_code 1 (some .long) :: ws) ({ frames := 0, cells := 0, slots := 0, locals := 0 } : Room)) (fun a U => a = #[(.int p1)] ∧ Z.Warmed39 U.vm ∧ U.heap = h0) (fun _ _ _ _ _ => True) (fun _ U o U' => ∃ v L, o = .returned v ∧ QM Z p1 h0 n0 v U'.heap L ∧ FrameEnd U o U' L ({ frames := 0, cells := 0, slots := 0, locals := 0 } : Room).cells ({ frames := 0, cells := 0, slots := 0, locals := 0 } : Room).slots) := by
  refine MetFree.of_bodySF (plainFor_of_name pnM) hisR ?_
  intro p e s m args below meth c s₁ Bd hml0 hP hK
  obtain ⟨rfl, hZ, hh⟩ := hP
  have hx := Bd.exec
  have hby := Bd.bytes
  have hml : c.maxLocals = 1 := hml0
  have hown : s.vm.findClass "com/example/rimefall/rimefall/model/Layout" = some m.cls := findClass_of_methodNamed Bd.named
  have hnm := (name_of_methodNamed Bd.named Bd.method).1
  have X0 : Stand p l e ({ frames := 0, cells := 0, slots := 0, locals := 0 } : Room) s m #[(.int p1)] below meth c s₁ [] 0 0 := Stand.of_body Bd
  have e0 : s₁.heap = h0 := by rw [← hh, Bd.state]; rfl
  have N0 := Fr.nil n0
  have pre0 : ∀ t, Steps p.tables e below (s₁.setTop (mkF m 0 #[.val (.int p1)] [])) t → Steps p.tables e below (s₁.setTop (entryFrame m #[(.int p1)] 1)) t := fun t k => castTop (efM m p1) k
  have pre1 : ∀ t, Steps p.tables e below (s₁.setTop (mkF m 8 #[.val (.int p1)] [(.long (((-1 : Int64).toUInt64 >>> (((64 : Int32) - p1) &&& 0x3f).toInt64.toUInt64).toInt64))])) t → Steps p.tables e below (s₁.setTop (entryFrame m #[(.int p1)] 1)) t := by
    intro t k
    refine pre0 t ?_
    show Steps p.tables e below (s₁.setTop (mkF m 0 #[.val (.int p1)] [])) _
    refine X0.ldc2Long hx hown (mvT hZ (hw _ (List.mem_of_getElem? (i := 20) rfl))) (g := (mkF m 0 #[.val (.int p1)] [])) rfl (hb hby d4_0) _ ?_
    show Steps p.tables e below (s₁.setTop (mkF m 3 #[.val (.int p1)] [(.long (-1 : Int64))])) _
    refine XS.bipush X0.here hx rfl (hb hby d4_3) ?_
    show Steps p.tables e below (s₁.setTop (mkF m 5 #[.val (.int p1)] [(.int (64 : Int32)), (.long (-1 : Int64))])) _
    refine XS.iloadN X0.here hx rfl (hb hby d4_5) rfl ?_
    show Steps p.tables e below (s₁.setTop (mkF m 6 #[.val (.int p1)] [(.int p1), (.int (64 : Int32)), (.long (-1 : Int64))])) _
    refine XS.isub X0.here hx rfl (hb hby d4_6) rfl ?_
    show Steps p.tables e below (s₁.setTop (mkF m 7 #[.val (.int p1)] [(.int ((64 : Int32) - p1)), (.long (-1 : Int64))])) _
    refine XS.lushr X0.here hx rfl (hb hby d4_7) rfl ?_
    show Steps p.tables e below (s₁.setTop (mkF m 8 #[.val (.int p1)] [(.long (((-1 : Int64).toUInt64 >>> (((64 : Int32) - p1) &&& 0x3f).toInt64.toUInt64).toInt64))])) _
    exact k
  obtain ⟨fs, hr, hrun, hended, hW, hsame⟩ := X0.leave (v := some (.long (((-1 : Int64).toUInt64 >>> (((64 : Int32) - p1) &&& 0x3f).toInt64.toUInt64).toInt64))) (fun h => by rw [Bd.returns] at h; cases h)
  refine ⟨_, _, pre1 _ ?_, hrun, hended, _, _, rfl, ?_, ⟨_, rfl⟩, hW, hsame.mono (by decide) (by decide)⟩
  · show Steps p.tables e below (s₁.setTop (mkF m 8 #[.val (.int p1)] [(.long (((-1 : Int64).toUInt64 >>> (((64 : Int32) - p1) &&& 0x3f).toInt64.toUInt64).toInt64))])) _
    exact own_retJ X0 hx Bd.returns (hb hby d4_8) hr
  · show QM Z p1 h0 n0 _ s₁.heap _
    rw [e0]
    refine ⟨?_, N0, rfl⟩
    simp only [fnM]
/-! body 1: init -/
theorem d1_0 : decode prog_25_method_1_code 0 = .ok (.aload_n 0, 1) := by decide +kernel
theorem d1_1 : decode prog_25_method_1_code 1 = .ok (.invokespecial 1, 3) := by decide +kernel
theorem d1_4 : decode prog_25_method_1_code 4 = .ok (.iload_n 1, 1) := by decide +kernel
theorem d1_5 : decode prog_25_method_1_code 5 = .ok (.iconst 1, 1) := by decide +kernel
theorem d1_6 : decode prog_25_method_1_code 6 = .ok (.if_icmp .lt 13, 3) := by decide +kernel
theorem d1_9 : decode prog_25_method_1_code 9 = .ok (.iload_n 2, 1) := by decide +kernel
theorem d1_10 : decode prog_25_method_1_code 10 = .ok (.iconst 1, 1) := by decide +kernel
theorem d1_11 : decode prog_25_method_1_code 11 = .ok (.if_icmp .lt 8, 3) := by decide +kernel
theorem d1_14 : decode prog_25_method_1_code 14 = .ok (.iload_n 3, 1) := by decide +kernel
theorem d1_15 : decode prog_25_method_1_code 15 = .ok (.iconst 1, 1) := by decide +kernel
theorem d1_16 : decode prog_25_method_1_code 16 = .ok (.if_icmp .ge 22, 3) := by decide +kernel
theorem d1_38 : decode prog_25_method_1_code 38 = .ok (.iload_n 1, 1) := by decide +kernel
theorem d1_39 : decode prog_25_method_1_code 39 = .ok (.i2l, 1) := by decide +kernel
theorem d1_40 : decode prog_25_method_1_code 40 = .ok (.iload_n 2, 1) := by decide +kernel
theorem d1_41 : decode prog_25_method_1_code 41 = .ok (.i2l, 1) := by decide +kernel
theorem d1_42 : decode prog_25_method_1_code 42 = .ok (.ladd, 1) := by decide +kernel
theorem d1_43 : decode prog_25_method_1_code 43 = .ok (.iload_n 3, 1) := by decide +kernel
theorem d1_44 : decode prog_25_method_1_code 44 = .ok (.i2l, 1) := by decide +kernel
theorem d1_45 : decode prog_25_method_1_code 45 = .ok (.ladd, 1) := by decide +kernel
theorem d1_46 : decode prog_25_method_1_code 46 = .ok (.lstore 6, 2) := by decide +kernel
theorem d1_48 : decode prog_25_method_1_code 48 = .ok (.lload 6, 2) := by decide +kernel
theorem d1_50 : decode prog_25_method_1_code 50 = .ok (.ldc2_w 24, 3) := by decide +kernel
theorem d1_53 : decode prog_25_method_1_code 53 = .ok (.lcmp, 1) := by decide +kernel
theorem d1_54 : decode prog_25_method_1_code 54 = .ok (.ifCond .le 24, 3) := by decide +kernel
theorem d1_78 : decode prog_25_method_1_code 78 = .ok (.lload 4, 2) := by decide +kernel
theorem d1_80 : decode prog_25_method_1_code 80 = .ok (.lconst 0, 1) := by decide +kernel
theorem d1_81 : decode prog_25_method_1_code 81 = .ok (.lcmp, 1) := by decide +kernel
theorem d1_82 : decode prog_25_method_1_code 82 = .ok (.ifCond .ge 18, 3) := by decide +kernel
theorem d1_100 : decode prog_25_method_1_code 100 = .ok (.lload 4, 2) := by decide +kernel
theorem d1_102 : decode prog_25_method_1_code 102 = .ok (.ldc2_w 32, 3) := by decide +kernel
theorem d1_105 : decode prog_25_method_1_code 105 = .ok (.iload_n 1, 1) := by decide +kernel
theorem d1_106 : decode prog_25_method_1_code 106 = .ok (.invokestatic 34, 3) := by decide +kernel
theorem d1_109 : decode prog_25_method_1_code 109 = .ok (.lsub, 1) := by decide +kernel
theorem d1_110 : decode prog_25_method_1_code 110 = .ok (.lcmp, 1) := by decide +kernel
theorem d1_111 : decode prog_25_method_1_code 111 = .ok (.ifCond .le 19, 3) := by decide +kernel
theorem d1_130 : decode prog_25_method_1_code 130 = .ok (.aload_n 0, 1) := by decide +kernel
theorem d1_131 : decode prog_25_method_1_code 131 = .ok (.iload_n 1, 1) := by decide +kernel
theorem d1_132 : decode prog_25_method_1_code 132 = .ok (.putfield 41, 3) := by decide +kernel
theorem d1_135 : decode prog_25_method_1_code 135 = .ok (.aload_n 0, 1) := by decide +kernel
theorem d1_136 : decode prog_25_method_1_code 136 = .ok (.iload_n 2, 1) := by decide +kernel
theorem d1_137 : decode prog_25_method_1_code 137 = .ok (.putfield 45, 3) := by decide +kernel
theorem d1_140 : decode prog_25_method_1_code 140 = .ok (.aload_n 0, 1) := by decide +kernel
theorem d1_141 : decode prog_25_method_1_code 141 = .ok (.iload_n 3, 1) := by decide +kernel
theorem d1_142 : decode prog_25_method_1_code 142 = .ok (.putfield 48, 3) := by decide +kernel
theorem d1_145 : decode prog_25_method_1_code 145 = .ok (.aload_n 0, 1) := by decide +kernel
theorem d1_146 : decode prog_25_method_1_code 146 = .ok (.lload 4, 2) := by decide +kernel
theorem d1_148 : decode prog_25_method_1_code 148 = .ok (.putfield 51, 3) := by decide +kernel
theorem d1_151 : decode prog_25_method_1_code 151 = .ok (.return_, 1) := by decide +kernel
theorem pdC_0 : parseMethodDescriptor "()V" = some ⟨[], none⟩ := by decide +kernel
theorem pdC_1 : parseMethodDescriptor "(I)J" = some ⟨[.int], some .long⟩ := by decide +kernel
theorem pnC : plainName "com/example/rimefall/rimefall/model/Layout" = true := by first | (simp [plainName, overriddenIn]; done) | decide +kernel
theorem efC (m : MethodId) (a1 : Addr) (p2 : Int32) (p3 : Int32) (p4 : Int32) (q5 : Int64) : entryFrame m #[(.ref a1), (.int p2), (.int p3), (.int p4), (.long q5)] 8 = mkF m 0 #[.val (.ref a1), .val (.int p2), .val (.int p3), .val (.int p4), .val (.long q5), .second, .unset, .unset] [] := by first | (simp [entryFrame, mkF, argsToLocals, Value.category]; done) | rfl
def QC (Z : State) (a1 : Addr) (p2 : Int32) (p3 : Int32) (p4 : Int32) (q5 : Int64) (h0 : Heap) (n0 : Nat) (v : Option Value) (h : Heap) (L : List Loc) : Prop := v = none ∧ Fr n0 L ∧ Keep h0 h [a1] ∧ Exa Z h a1 "com/example/rimefall/rimefall/model/Layout" ∧ Fld Z h a1 "com/example/rimefall/rimefall/model/Layout" "timestampBits" "I" (.int p2) ∧ Fld Z h a1 "com/example/rimefall/rimefall/model/Layout" "nodeBits" "I" (.int p3) ∧ Fld Z h a1 "com/example/rimefall/rimefall/model/Layout" "sequenceBits" "I" (.int p4) ∧ Fld Z h a1 "com/example/rimefall/rimefall/model/Layout" "epochMillis" "J" (.long q5)
set_option maxRecDepth 65536 in
set_option maxHeartbeats 40000000 in
theorem rmC (l : Launch) (Z : State) (a0 : Array Value) (hw : ∀ d ∈ tables_1, d.before a0 Z = true) (ws : List Jvm.Cond) (a1 : Addr) (p2 : Int32) (p3 : Int32) (p4 : Int32) (q5 : Int64) (h0 : Heap) (n0 : Nat) (Z0 : n0 ≤ h0.size) (E_a1 : Exa Z h0 a1 "com/example/rimefall/rimefall/model/Layout") (F_timestampBits : Fld Z h0 a1 "com/example/rimefall/rimefall/model/Layout" "timestampBits" "I" (.int (0 : Int32))) (F_nodeBits : Fld Z h0 a1 "com/example/rimefall/rimefall/model/Layout" "nodeBits" "I" (.int (0 : Int32))) (F_sequenceBits : Fld Z h0 a1 "com/example/rimefall/rimefall/model/Layout" "sequenceBits" "I" (.int (0 : Int32))) (F_epochMillis : Fld Z h0 a1 "com/example/rimefall/rimefall/model/Layout" "epochMillis" "J" (.long (0 : Int64))) (g_a1 : n0 ≤ a1) (hc6 : ¬ p2 < (1 : Int32)) (hc11 : ¬ p3 < (1 : Int32)) (hc16 : ¬ p4 < (1 : Int32)) (hc54 : ¬ (64 : Int64) < (((p2.toInt64) + (p3.toInt64)) + (p4.toInt64))) (hc82 : ¬ q5 < (0 : Int64)) (hc111 : ¬ ((9223372036854775807 : Int64) - (fnM p2)) < q5) :
    MetFree l (⟨"com/example/rimefall/rimefall/model/Layout", "<init>", "(IIIJ)V"⟩ : MethodName) (head1 (Jvm.Cond.code (⟨"com/example/rimefall/rimefall/model/Layout", "<init>", "(IIIJ)V"⟩ : MethodName) prog_25_method_1_code 8 none :: ws) ({ frames := 2, cells := 0, slots := 0, locals := 24 } : Room)) (fun a U => a = #[(.ref a1), (.int p2), (.int p3), (.int p4), (.long q5)] ∧ Z.Warmed39 U.vm ∧ U.heap = h0) (fun _ _ _ _ _ => True) (fun _ U o U' => ∃ v L, o = .returned v ∧ QC Z a1 p2 p3 p4 q5 h0 n0 v U'.heap L ∧ FrameEnd U o U' L ({ frames := 2, cells := 0, slots := 0, locals := 24 } : Room).cells ({ frames := 2, cells := 0, slots := 0, locals := 24 } : Room).slots) := by
  refine MetFree.of_bodySF (plainFor_of_name pnC) hisR ?_
  intro p e s m args below meth c s₁ Bd hml0 hP hK
  obtain ⟨rfl, hZ, hh⟩ := hP
  have hx := Bd.exec
  have hby := Bd.bytes
  have hml : c.maxLocals = 8 := hml0
  have hown : s.vm.findClass "com/example/rimefall/rimefall/model/Layout" = some m.cls := findClass_of_methodNamed Bd.named
  have hnm := (name_of_methodNamed Bd.named Bd.method).1
  have X0 : Stand p l e ({ frames := 2, cells := 0, slots := 0, locals := 24 } : Room) s m #[(.ref a1), (.int p2), (.int p3), (.int p4), (.long q5)] below meth c s₁ [] 0 0 := Stand.of_body Bd
  have e0 : s₁.heap = h0 := by rw [← hh, Bd.state]; rfl
  have N0 := Fr.nil n0
  have pre0 : ∀ t, Steps p.tables e below (s₁.setTop (mkF m 0 #[.val (.ref a1), .val (.int p2), .val (.int p3), .val (.int p4), .val (.long q5), .second, .unset, .unset] [])) t → Steps p.tables e below (s₁.setTop (entryFrame m #[(.ref a1), (.int p2), (.int p3), (.int p4), (.long q5)] 8)) t := fun t k => castTop (efC m a1 p2 p3 p4 q5) k
  have K0 := Keep.refl h0 [a1]
  have pre1 : ∀ t, Steps p.tables e below (s₁.setTop (mkF m 1 #[.val (.ref a1), .val (.int p2), .val (.int p3), .val (.int p4), .val (.long q5), .second, .unset, .unset] [(.ref a1)])) t → Steps p.tables e below (s₁.setTop (entryFrame m #[(.ref a1), (.int p2), (.int p3), (.int p4), (.long q5)] 8)) t := by
    intro t k
    refine pre0 t ?_
    show Steps p.tables e below (s₁.setTop (mkF m 0 #[.val (.ref a1), .val (.int p2), .val (.int p3), .val (.int p4), .val (.long q5), .second, .unset, .unset] [])) _
    refine XS.aloadN X0.here hx rfl (hb hby d1_0) rfl rfl ?_
    show Steps p.tables e below (s₁.setTop (mkF m 1 #[.val (.ref a1), .val (.int p2), .val (.int p3), .val (.int p4), .val (.long q5), .second, .unset, .unset] [(.ref a1)])) _
    exact k
  obtain ⟨_, _, ⟨T2, L2, k2, n2⟩, -, X2, ⟨Lc2, hQ2, l2, y2, z2⟩, st2⟩ := X0.specialBack hx (y := (⟨"java/lang/Record", "<init>", "()V"⟩ : MethodName)) rfl hown (mvT hZ (hw _ (List.mem_of_getElem? (i := 7) rfl))) (mvT hZ (hw _ (List.mem_of_getElem? (i := 8) rfl))) (mvT hZ (hw _ (List.mem_of_getElem? (i := 11) rfl))) (by decide) (backOf (W := 0) (rm2 l Z a0 hw [] a1 h0 n0 Z0) hZ (hw _ (List.mem_of_getElem? (i := 11) rfl)) (hw _ (List.mem_of_getElem? (i := 10) rfl)) (by decide) (by decide)) (g := (mkF m 1 #[.val (.ref a1), .val (.int p2), .val (.int p3), .val (.int p4), .val (.long q5), .second, .unset, .unset] [(.ref a1)])) rfl (by rw [hml]; rfl) (Steps.refl _) (a := a1) (argsL := []) (rest := []) (lenOf pdC_0 rfl) rfl (by show 2 * 0 + _ ≤ _; exact Nat.le_of_eq rfl) (hb hby d1_1) (fun _ _ => ⟨rfl, e0, (by decide : 0 + 0 ≤ _), (by decide : 0 + 0 ≤ _)⟩)
  dsimp only [Pt.U, Pt.locs, Pt.cells, Pt.slots] at X2 l2 y2 z2 st2 hQ2
  subst l2 y2 z2
  obtain ⟨rfl, Nq2, e2⟩ := hQ2
  have N2 := Fr.app N0 Nq2
  have pre2 : ∀ t, Steps p.tables e below (T2.setTop (mkF m 4 #[.val (.ref a1), .val (.int p2), .val (.int p3), .val (.int p4), .val (.long q5), .second, .unset, .unset] [])) t → Steps p.tables e below (s₁.setTop (entryFrame m #[(.ref a1), (.int p2), (.int p3), (.int p4), (.long q5)] 8)) t := fun t k => pre1 t (st2.trans k)
  obtain ⟨v46, hv46⟩ : ∃ z : Int64, z = (((p2.toInt64) + (p3.toInt64)) + (p4.toInt64)) := ⟨_, rfl⟩
  have pre3 : ∀ t, Steps p.tables e below (T2.setTop (mkF m 48 #[.val (.ref a1), .val (.int p2), .val (.int p3), .val (.int p4), .val (.long q5), .second, .val (.long v46), .second] [])) t → Steps p.tables e below (s₁.setTop (entryFrame m #[(.ref a1), (.int p2), (.int p3), (.int p4), (.long q5)] 8)) t := by
    intro t k
    subst hv46
    refine pre2 t ?_
    refine XS.iloadN X2.here hx rfl (hb hby d1_4) rfl ?_
    show Steps p.tables e below (T2.setTop (mkF m 5 #[.val (.ref a1), .val (.int p2), .val (.int p3), .val (.int p4), .val (.long q5), .second, .unset, .unset] [(.int p2)])) _
    refine XS.iconst X2.here hx rfl (hb hby d1_5) ?_
    show Steps p.tables e below (T2.setTop (mkF m 6 #[.val (.ref a1), .val (.int p2), .val (.int p3), .val (.int p4), .val (.long q5), .second, .unset, .unset] [(.int (1 : Int32)), (.int p2)])) _
    refine XS.icmpNo X2.here hx rfl (hb hby d1_6) rfl (flt hc6).1 ?_
    show Steps p.tables e below (T2.setTop (mkF m 9 #[.val (.ref a1), .val (.int p2), .val (.int p3), .val (.int p4), .val (.long q5), .second, .unset, .unset] [])) _
    refine XS.iloadN X2.here hx rfl (hb hby d1_9) rfl ?_
    show Steps p.tables e below (T2.setTop (mkF m 10 #[.val (.ref a1), .val (.int p2), .val (.int p3), .val (.int p4), .val (.long q5), .second, .unset, .unset] [(.int p3)])) _
    refine XS.iconst X2.here hx rfl (hb hby d1_10) ?_
    show Steps p.tables e below (T2.setTop (mkF m 11 #[.val (.ref a1), .val (.int p2), .val (.int p3), .val (.int p4), .val (.long q5), .second, .unset, .unset] [(.int (1 : Int32)), (.int p3)])) _
    refine XS.icmpNo X2.here hx rfl (hb hby d1_11) rfl (flt hc11).1 ?_
    show Steps p.tables e below (T2.setTop (mkF m 14 #[.val (.ref a1), .val (.int p2), .val (.int p3), .val (.int p4), .val (.long q5), .second, .unset, .unset] [])) _
    refine XS.iloadN X2.here hx rfl (hb hby d1_14) rfl ?_
    show Steps p.tables e below (T2.setTop (mkF m 15 #[.val (.ref a1), .val (.int p2), .val (.int p3), .val (.int p4), .val (.long q5), .second, .unset, .unset] [(.int p4)])) _
    refine XS.iconst X2.here hx rfl (hb hby d1_15) ?_
    show Steps p.tables e below (T2.setTop (mkF m 16 #[.val (.ref a1), .val (.int p2), .val (.int p3), .val (.int p4), .val (.long q5), .second, .unset, .unset] [(.int (1 : Int32)), (.int p4)])) _
    refine XS.icmpYes X2.here hx rfl (pc0 := 16) (pc' := 38) rfl (hb hby d1_16) rfl (flt hc16).2.1 (by decide) (by decide) ?_
    show Steps p.tables e below (T2.setTop (mkF m 38 #[.val (.ref a1), .val (.int p2), .val (.int p3), .val (.int p4), .val (.long q5), .second, .unset, .unset] [])) _
    refine XS.iloadN X2.here hx rfl (hb hby d1_38) rfl ?_
    show Steps p.tables e below (T2.setTop (mkF m 39 #[.val (.ref a1), .val (.int p2), .val (.int p3), .val (.int p4), .val (.long q5), .second, .unset, .unset] [(.int p2)])) _
    refine XS.i2l X2.here hx rfl (hb hby d1_39) rfl ?_
    show Steps p.tables e below (T2.setTop (mkF m 40 #[.val (.ref a1), .val (.int p2), .val (.int p3), .val (.int p4), .val (.long q5), .second, .unset, .unset] [(.long (p2.toInt64))])) _
    refine XS.iloadN X2.here hx rfl (hb hby d1_40) rfl ?_
    show Steps p.tables e below (T2.setTop (mkF m 41 #[.val (.ref a1), .val (.int p2), .val (.int p3), .val (.int p4), .val (.long q5), .second, .unset, .unset] [(.int p3), (.long (p2.toInt64))])) _
    refine XS.i2l X2.here hx rfl (hb hby d1_41) rfl ?_
    show Steps p.tables e below (T2.setTop (mkF m 42 #[.val (.ref a1), .val (.int p2), .val (.int p3), .val (.int p4), .val (.long q5), .second, .unset, .unset] [(.long (p3.toInt64)), (.long (p2.toInt64))])) _
    refine XS.ladd X2.here hx rfl (hb hby d1_42) rfl ?_
    show Steps p.tables e below (T2.setTop (mkF m 43 #[.val (.ref a1), .val (.int p2), .val (.int p3), .val (.int p4), .val (.long q5), .second, .unset, .unset] [(.long ((p2.toInt64) + (p3.toInt64)))])) _
    refine XS.iloadN X2.here hx rfl (hb hby d1_43) rfl ?_
    show Steps p.tables e below (T2.setTop (mkF m 44 #[.val (.ref a1), .val (.int p2), .val (.int p3), .val (.int p4), .val (.long q5), .second, .unset, .unset] [(.int p4), (.long ((p2.toInt64) + (p3.toInt64)))])) _
    refine XS.i2l X2.here hx rfl (hb hby d1_44) rfl ?_
    show Steps p.tables e below (T2.setTop (mkF m 45 #[.val (.ref a1), .val (.int p2), .val (.int p3), .val (.int p4), .val (.long q5), .second, .unset, .unset] [(.long (p4.toInt64)), (.long ((p2.toInt64) + (p3.toInt64)))])) _
    refine XS.ladd X2.here hx rfl (hb hby d1_45) rfl ?_
    show Steps p.tables e below (T2.setTop (mkF m 46 #[.val (.ref a1), .val (.int p2), .val (.int p3), .val (.int p4), .val (.long q5), .second, .unset, .unset] [(.long (((p2.toInt64) + (p3.toInt64)) + (p4.toInt64)))])) _
    refine XS.lstore X2.here hx rfl (hb hby d1_46) rfl (l' := #[.val (.ref a1), .val (.int p2), .val (.int p3), .val (.int p4), .val (.long q5), .second, .val (.long (((p2.toInt64) + (p3.toInt64)) + (p4.toInt64))), .second]) rfl ?_
    show Steps p.tables e below (T2.setTop (mkF m 48 #[.val (.ref a1), .val (.int p2), .val (.int p3), .val (.int p4), .val (.long q5), .second, .val (.long (((p2.toInt64) + (p3.toInt64)) + (p4.toInt64))), .second] [])) _
    exact k
  have pre4 : ∀ t, Steps p.tables e below (T2.setTop (mkF m 54 #[.val (.ref a1), .val (.int p2), .val (.int p3), .val (.int p4), .val (.long q5), .second, .val (.long v46), .second] [(.int (lcmpW v46 (64 : Int64)))])) t → Steps p.tables e below (s₁.setTop (entryFrame m #[(.ref a1), (.int p2), (.int p3), (.int p4), (.long q5)] 8)) t := by
    intro t k
    refine pre3 t ?_
    refine XS.lload X2.here hx rfl (hb hby d1_48) rfl ?_
    show Steps p.tables e below (T2.setTop (mkF m 50 #[.val (.ref a1), .val (.int p2), .val (.int p3), .val (.int p4), .val (.long q5), .second, .val (.long v46), .second] [(.long v46)])) _
    refine X2.ldc2Long hx hown (mvT hZ (hw _ (List.mem_of_getElem? (i := 15) rfl))) (g := (mkF m 50 #[.val (.ref a1), .val (.int p2), .val (.int p3), .val (.int p4), .val (.long q5), .second, .val (.long v46), .second] [(.long v46)])) rfl (hb hby d1_50) _ ?_
    show Steps p.tables e below (T2.setTop (mkF m 53 #[.val (.ref a1), .val (.int p2), .val (.int p3), .val (.int p4), .val (.long q5), .second, .val (.long v46), .second] [(.long (64 : Int64)), (.long v46)])) _
    refine XS.lcmp X2.here hx rfl (hb hby d1_53) rfl ?_
    show Steps p.tables e below (T2.setTop (mkF m 54 #[.val (.ref a1), .val (.int p2), .val (.int p3), .val (.int p4), .val (.long q5), .second, .val (.long v46), .second] [(.int (lcmpW v46 (64 : Int64)))])) _
    exact k
  have hd54 : ¬ (64 : Int64) < v46 := by rw [hv46]; exact hc54
  have pre5 : ∀ t, Steps p.tables e below (T2.setTop (mkF m 106 #[.val (.ref a1), .val (.int p2), .val (.int p3), .val (.int p4), .val (.long q5), .second, .val (.long v46), .second] [(.int p2), (.long (9223372036854775807 : Int64)), (.long q5)])) t → Steps p.tables e below (s₁.setTop (entryFrame m #[(.ref a1), (.int p2), (.int p3), (.int p4), (.long q5)] 8)) t := by
    intro t k
    refine pre4 t ?_
    refine XS.ifYes X2.here hx rfl (pc0 := 54) (pc' := 78) rfl (hb hby d1_54) rfl (own_Fgt hd54).2 (by decide) (by decide) ?_
    show Steps p.tables e below (T2.setTop (mkF m 78 #[.val (.ref a1), .val (.int p2), .val (.int p3), .val (.int p4), .val (.long q5), .second, .val (.long v46), .second] [])) _
    refine XS.lload X2.here hx rfl (hb hby d1_78) rfl ?_
    show Steps p.tables e below (T2.setTop (mkF m 80 #[.val (.ref a1), .val (.int p2), .val (.int p3), .val (.int p4), .val (.long q5), .second, .val (.long v46), .second] [(.long q5)])) _
    refine XS.lconst X2.here hx rfl (hb hby d1_80) ?_
    show Steps p.tables e below (T2.setTop (mkF m 81 #[.val (.ref a1), .val (.int p2), .val (.int p3), .val (.int p4), .val (.long q5), .second, .val (.long v46), .second] [(.long (0 : Int64)), (.long q5)])) _
    refine XS.lcmp X2.here hx rfl (hb hby d1_81) rfl ?_
    show Steps p.tables e below (T2.setTop (mkF m 82 #[.val (.ref a1), .val (.int p2), .val (.int p3), .val (.int p4), .val (.long q5), .second, .val (.long v46), .second] [(.int (lcmpW q5 (0 : Int64)))])) _
    refine XS.ifYes X2.here hx rfl (pc0 := 82) (pc' := 100) rfl (hb hby d1_82) rfl (own_Flt hc82).2 (by decide) (by decide) ?_
    show Steps p.tables e below (T2.setTop (mkF m 100 #[.val (.ref a1), .val (.int p2), .val (.int p3), .val (.int p4), .val (.long q5), .second, .val (.long v46), .second] [])) _
    refine XS.lload X2.here hx rfl (hb hby d1_100) rfl ?_
    show Steps p.tables e below (T2.setTop (mkF m 102 #[.val (.ref a1), .val (.int p2), .val (.int p3), .val (.int p4), .val (.long q5), .second, .val (.long v46), .second] [(.long q5)])) _
    refine X2.ldc2Long hx hown (mvT hZ (hw _ (List.mem_of_getElem? (i := 16) rfl))) (g := (mkF m 102 #[.val (.ref a1), .val (.int p2), .val (.int p3), .val (.int p4), .val (.long q5), .second, .val (.long v46), .second] [(.long q5)])) rfl (hb hby d1_102) _ ?_
    show Steps p.tables e below (T2.setTop (mkF m 105 #[.val (.ref a1), .val (.int p2), .val (.int p3), .val (.int p4), .val (.long q5), .second, .val (.long v46), .second] [(.long (9223372036854775807 : Int64)), (.long q5)])) _
    refine XS.iloadN X2.here hx rfl (hb hby d1_105) rfl ?_
    show Steps p.tables e below (T2.setTop (mkF m 106 #[.val (.ref a1), .val (.int p2), .val (.int p3), .val (.int p4), .val (.long q5), .second, .val (.long v46), .second] [(.int p2), (.long (9223372036854775807 : Int64)), (.long q5)])) _
    exact k
  obtain ⟨_, _, ⟨T6, L6, k6, n6⟩, -, X6, ⟨Lc6, hQ6, l6, y6, z6⟩, st6⟩ := Jvm.LawKit.callS X2 hx (y := (⟨"com/example/rimefall/rimefall/model/Layout", "mask", "(I)J"⟩ : MethodName)) hown (mvT hZ (hw _ (List.mem_of_getElem? (i := 17) rfl))) (mvT hZ (hw _ (List.mem_of_getElem? (i := 18) rfl))) (mvT hZ (hw _ (List.mem_of_getElem? (i := 3) rfl))) (mvT hZ (hw _ (List.mem_of_getElem? (i := 19) rfl))) (by decide) (backOf (W := 4) (rmM l Z a0 hw [] p2 h0 n0 Z0) hZ (hw _ (List.mem_of_getElem? (i := 19) rfl)) (hw _ (List.mem_of_getElem? (i := 3) rfl)) (by decide) (by decide)) (g := (mkF m 106 #[.val (.ref a1), .val (.int p2), .val (.int p3), .val (.int p4), .val (.long q5), .second, .val (.long v46), .second] [(.int p2), (.long (9223372036854775807 : Int64)), (.long q5)])) rfl (by rw [hml]; rfl) (argsL := [(.int p2)]) (rest := [(.long (9223372036854775807 : Int64)), (.long q5)]) (lenOf pdC_1 rfl) rfl (by show 2 * 0 + _ ≤ _; exact Nat.le_of_eq rfl) (hb hby d1_106) (fun _ _ => ⟨rfl, e2, (by decide : 0 + 0 ≤ _), (by decide : 0 + 0 ≤ _)⟩)
  dsimp only [Pt.U, Pt.locs, Pt.cells, Pt.slots] at X6 l6 y6 z6 st6 hQ6
  subst l6 y6 z6
  obtain ⟨rfl, Nq6, e6⟩ := hQ6
  have N6 := Fr.app N2 Nq6
  have pre6 : ∀ t, Steps p.tables e below (T6.setTop (mkF m 109 #[.val (.ref a1), .val (.int p2), .val (.int p3), .val (.int p4), .val (.long q5), .second, .val (.long v46), .second] [(.long (fnM p2)), (.long (9223372036854775807 : Int64)), (.long q5)])) t → Steps p.tables e below (s₁.setTop (entryFrame m #[(.ref a1), (.int p2), (.int p3), (.int p4), (.long q5)] 8)) t := fun t k => pre5 t (st6 _ k)
  have pre7 : ∀ t, Steps p.tables e below (T6.setTop (mkF m 132 #[.val (.ref a1), .val (.int p2), .val (.int p3), .val (.int p4), .val (.long q5), .second, .val (.long v46), .second] [(.int p2), (.ref a1)])) t → Steps p.tables e below (s₁.setTop (entryFrame m #[(.ref a1), (.int p2), (.int p3), (.int p4), (.long q5)] 8)) t := by
    intro t k
    refine pre6 t ?_
    refine XS.lsub X6.here hx rfl (hb hby d1_109) rfl ?_
    show Steps p.tables e below (T6.setTop (mkF m 110 #[.val (.ref a1), .val (.int p2), .val (.int p3), .val (.int p4), .val (.long q5), .second, .val (.long v46), .second] [(.long ((9223372036854775807 : Int64) - (fnM p2))), (.long q5)])) _
    refine XS.lcmp X6.here hx rfl (hb hby d1_110) rfl ?_
    show Steps p.tables e below (T6.setTop (mkF m 111 #[.val (.ref a1), .val (.int p2), .val (.int p3), .val (.int p4), .val (.long q5), .second, .val (.long v46), .second] [(.int (lcmpW q5 ((9223372036854775807 : Int64) - (fnM p2))))])) _
    refine XS.ifYes X6.here hx rfl (pc0 := 111) (pc' := 130) rfl (hb hby d1_111) rfl (own_Fgt hc111).2 (by decide) (by decide) ?_
    show Steps p.tables e below (T6.setTop (mkF m 130 #[.val (.ref a1), .val (.int p2), .val (.int p3), .val (.int p4), .val (.long q5), .second, .val (.long v46), .second] [])) _
    refine XS.aloadN X6.here hx rfl (hb hby d1_130) rfl rfl ?_
    show Steps p.tables e below (T6.setTop (mkF m 131 #[.val (.ref a1), .val (.int p2), .val (.int p3), .val (.int p4), .val (.long q5), .second, .val (.long v46), .second] [(.ref a1)])) _
    refine XS.iloadN X6.here hx rfl (hb hby d1_131) rfl ?_
    show Steps p.tables e below (T6.setTop (mkF m 132 #[.val (.ref a1), .val (.int p2), .val (.int p3), .val (.int p4), .val (.long q5), .second, .val (.long v46), .second] [(.int p2), (.ref a1)])) _
    exact k
  obtain ⟨T8, h8, X8, e8, W8, st8⟩ := putF X6 hx hZ hown (host := "") (Or.inl (hw _ (List.mem_of_getElem? (i := 21) rfl))) Via.refl e6 F_timestampBits E_a1 (Or.inr ⟨(hw _ (List.mem_of_getElem? (i := 22) rfl)), rfl, hnm⟩) (hw _ (List.mem_of_getElem? (i := 2) rfl)) (ty := .int) (by decide) rfl rfl (g := (mkF m 132 #[.val (.ref a1), .val (.int p2), .val (.int p3), .val (.int p4), .val (.long q5), .second, .val (.long v46), .second] [(.int p2), (.ref a1)])) rfl rfl (hb hby d1_132)
  have F8_0 := F_timestampBits.same W8
  have F8_1 := F_nodeBits.other W8 (Or.inr (slot_ne (Or.inr (hw _ (List.mem_of_getElem? (i := 24) rfl))) (Or.inr (hw _ (List.mem_of_getElem? (i := 22) rfl))) (by decide) (t := .int) (t' := .int) (by decide) (by decide)))
  have F8_2 := F_sequenceBits.other W8 (Or.inr (slot_ne (Or.inr (hw _ (List.mem_of_getElem? (i := 26) rfl))) (Or.inr (hw _ (List.mem_of_getElem? (i := 22) rfl))) (by decide) (t := .int) (t' := .int) (by decide) (by decide)))
  have F8_3 := F_epochMillis.other W8 (Or.inr (slot_ne (Or.inr (hw _ (List.mem_of_getElem? (i := 28) rfl))) (Or.inr (hw _ (List.mem_of_getElem? (i := 22) rfl))) (by decide) (t := .long) (t' := .int) (by decide) (by decide)))
  have F8_4 := E_a1.wr W8
  have Z8 : n0 ≤ h8.size := Nat.le_trans Z0 (Keep.of_wr W8).1
  have K8 := Keep.wr K0 W8 (Or.inl (List.mem_of_getElem? (i := 0) rfl))
  have N8 := Fr.snoc X8 N6 g_a1
  have pre8 : ∀ t, Steps p.tables e below (T8.setTop (mkF m 135 #[.val (.ref a1), .val (.int p2), .val (.int p3), .val (.int p4), .val (.long q5), .second, .val (.long v46), .second] [])) t → Steps p.tables e below (s₁.setTop (entryFrame m #[(.ref a1), (.int p2), (.int p3), (.int p4), (.long q5)] 8)) t := fun t k => pre7 t (st8 _ k)
  have pre9 : ∀ t, Steps p.tables e below (T8.setTop (mkF m 137 #[.val (.ref a1), .val (.int p2), .val (.int p3), .val (.int p4), .val (.long q5), .second, .val (.long v46), .second] [(.int p3), (.ref a1)])) t → Steps p.tables e below (s₁.setTop (entryFrame m #[(.ref a1), (.int p2), (.int p3), (.int p4), (.long q5)] 8)) t := by
    intro t k
    refine pre8 t ?_
    refine XS.aloadN X8.here hx rfl (hb hby d1_135) rfl rfl ?_
    show Steps p.tables e below (T8.setTop (mkF m 136 #[.val (.ref a1), .val (.int p2), .val (.int p3), .val (.int p4), .val (.long q5), .second, .val (.long v46), .second] [(.ref a1)])) _
    refine XS.iloadN X8.here hx rfl (hb hby d1_136) rfl ?_
    show Steps p.tables e below (T8.setTop (mkF m 137 #[.val (.ref a1), .val (.int p2), .val (.int p3), .val (.int p4), .val (.long q5), .second, .val (.long v46), .second] [(.int p3), (.ref a1)])) _
    exact k
  obtain ⟨T10, h10, X10, e10, W10, st10⟩ := putF X8 hx hZ hown (host := "") (Or.inl (hw _ (List.mem_of_getElem? (i := 23) rfl))) Via.refl e8 F8_1 F8_4 (Or.inr ⟨(hw _ (List.mem_of_getElem? (i := 24) rfl)), rfl, hnm⟩) (hw _ (List.mem_of_getElem? (i := 2) rfl)) (ty := .int) (by decide) rfl rfl (g := (mkF m 137 #[.val (.ref a1), .val (.int p2), .val (.int p3), .val (.int p4), .val (.long q5), .second, .val (.long v46), .second] [(.int p3), (.ref a1)])) rfl rfl (hb hby d1_137)
  have F10_0 := F8_0.other W10 (Or.inr (slot_ne (Or.inr (hw _ (List.mem_of_getElem? (i := 22) rfl))) (Or.inr (hw _ (List.mem_of_getElem? (i := 24) rfl))) (by decide) (t := .int) (t' := .int) (by decide) (by decide)))
  have F10_1 := F8_1.same W10
  have F10_2 := F8_2.other W10 (Or.inr (slot_ne (Or.inr (hw _ (List.mem_of_getElem? (i := 26) rfl))) (Or.inr (hw _ (List.mem_of_getElem? (i := 24) rfl))) (by decide) (t := .int) (t' := .int) (by decide) (by decide)))
  have F10_3 := F8_3.other W10 (Or.inr (slot_ne (Or.inr (hw _ (List.mem_of_getElem? (i := 28) rfl))) (Or.inr (hw _ (List.mem_of_getElem? (i := 24) rfl))) (by decide) (t := .long) (t' := .int) (by decide) (by decide)))
  have F10_4 := F8_4.wr W10
  have Z10 : n0 ≤ h10.size := Nat.le_trans Z8 (Keep.of_wr W10).1
  have K10 := Keep.wr K8 W10 (Or.inl (List.mem_of_getElem? (i := 0) rfl))
  have N10 := Fr.snoc X10 N8 g_a1
  have pre10 : ∀ t, Steps p.tables e below (T10.setTop (mkF m 140 #[.val (.ref a1), .val (.int p2), .val (.int p3), .val (.int p4), .val (.long q5), .second, .val (.long v46), .second] [])) t → Steps p.tables e below (s₁.setTop (entryFrame m #[(.ref a1), (.int p2), (.int p3), (.int p4), (.long q5)] 8)) t := fun t k => pre9 t (st10 _ k)
  have pre11 : ∀ t, Steps p.tables e below (T10.setTop (mkF m 142 #[.val (.ref a1), .val (.int p2), .val (.int p3), .val (.int p4), .val (.long q5), .second, .val (.long v46), .second] [(.int p4), (.ref a1)])) t → Steps p.tables e below (s₁.setTop (entryFrame m #[(.ref a1), (.int p2), (.int p3), (.int p4), (.long q5)] 8)) t := by
    intro t k
    refine pre10 t ?_
    refine XS.aloadN X10.here hx rfl (hb hby d1_140) rfl rfl ?_
    show Steps p.tables e below (T10.setTop (mkF m 141 #[.val (.ref a1), .val (.int p2), .val (.int p3), .val (.int p4), .val (.long q5), .second, .val (.long v46), .second] [(.ref a1)])) _
    refine XS.iloadN X10.here hx rfl (hb hby d1_141) rfl ?_
    show Steps p.tables e below (T10.setTop (mkF m 142 #[.val (.ref a1), .val (.int p2), .val (.int p3), .val (.int p4), .val (.long q5), .second, .val (.long v46), .second] [(.int p4), (.ref a1)])) _
    exact k
  obtain ⟨T12, h12, X12, e12, W12, st12⟩ := putF X10 hx hZ hown (host := "") (Or.inl (hw _ (List.mem_of_getElem? (i := 25) rfl))) Via.refl e10 F10_2 F10_4 (Or.inr ⟨(hw _ (List.mem_of_getElem? (i := 26) rfl)), rfl, hnm⟩) (hw _ (List.mem_of_getElem? (i := 2) rfl)) (ty := .int) (by decide) rfl rfl (g := (mkF m 142 #[.val (.ref a1), .val (.int p2), .val (.int p3), .val (.int p4), .val (.long q5), .second, .val (.long v46), .second] [(.int p4), (.ref a1)])) rfl rfl (hb hby d1_142)
  have F12_0 := F10_0.other W12 (Or.inr (slot_ne (Or.inr (hw _ (List.mem_of_getElem? (i := 22) rfl))) (Or.inr (hw _ (List.mem_of_getElem? (i := 26) rfl))) (by decide) (t := .int) (t' := .int) (by decide) (by decide)))
  have F12_1 := F10_1.other W12 (Or.inr (slot_ne (Or.inr (hw _ (List.mem_of_getElem? (i := 24) rfl))) (Or.inr (hw _ (List.mem_of_getElem? (i := 26) rfl))) (by decide) (t := .int) (t' := .int) (by decide) (by decide)))
  have F12_2 := F10_2.same W12
  have F12_3 := F10_3.other W12 (Or.inr (slot_ne (Or.inr (hw _ (List.mem_of_getElem? (i := 28) rfl))) (Or.inr (hw _ (List.mem_of_getElem? (i := 26) rfl))) (by decide) (t := .long) (t' := .int) (by decide) (by decide)))
  have F12_4 := F10_4.wr W12
  have Z12 : n0 ≤ h12.size := Nat.le_trans Z10 (Keep.of_wr W12).1
  have K12 := Keep.wr K10 W12 (Or.inl (List.mem_of_getElem? (i := 0) rfl))
  have N12 := Fr.snoc X12 N10 g_a1
  have pre12 : ∀ t, Steps p.tables e below (T12.setTop (mkF m 145 #[.val (.ref a1), .val (.int p2), .val (.int p3), .val (.int p4), .val (.long q5), .second, .val (.long v46), .second] [])) t → Steps p.tables e below (s₁.setTop (entryFrame m #[(.ref a1), (.int p2), (.int p3), (.int p4), (.long q5)] 8)) t := fun t k => pre11 t (st12 _ k)
  have pre13 : ∀ t, Steps p.tables e below (T12.setTop (mkF m 148 #[.val (.ref a1), .val (.int p2), .val (.int p3), .val (.int p4), .val (.long q5), .second, .val (.long v46), .second] [(.long q5), (.ref a1)])) t → Steps p.tables e below (s₁.setTop (entryFrame m #[(.ref a1), (.int p2), (.int p3), (.int p4), (.long q5)] 8)) t := by
    intro t k
    refine pre12 t ?_
    refine XS.aloadN X12.here hx rfl (hb hby d1_145) rfl rfl ?_
    show Steps p.tables e below (T12.setTop (mkF m 146 #[.val (.ref a1), .val (.int p2), .val (.int p3), .val (.int p4), .val (.long q5), .second, .val (.long v46), .second] [(.ref a1)])) _
    refine XS.lload X12.here hx rfl (hb hby d1_146) rfl ?_
    show Steps p.tables e below (T12.setTop (mkF m 148 #[.val (.ref a1), .val (.int p2), .val (.int p3), .val (.int p4), .val (.long q5), .second, .val (.long v46), .second] [(.long q5), (.ref a1)])) _
    exact k
  obtain ⟨T14, h14, X14, e14, W14, st14⟩ := putF X12 hx hZ hown (host := "") (Or.inl (hw _ (List.mem_of_getElem? (i := 27) rfl))) Via.refl e12 F12_3 F12_4 (Or.inr ⟨(hw _ (List.mem_of_getElem? (i := 28) rfl)), rfl, hnm⟩) (hw _ (List.mem_of_getElem? (i := 2) rfl)) (ty := .long) (by decide) rfl rfl (g := (mkF m 148 #[.val (.ref a1), .val (.int p2), .val (.int p3), .val (.int p4), .val (.long q5), .second, .val (.long v46), .second] [(.long q5), (.ref a1)])) rfl rfl (hb hby d1_148)
  have F14_0 := F12_0.other W14 (Or.inr (slot_ne (Or.inr (hw _ (List.mem_of_getElem? (i := 22) rfl))) (Or.inr (hw _ (List.mem_of_getElem? (i := 28) rfl))) (by decide) (t := .int) (t' := .long) (by decide) (by decide)))
  have F14_1 := F12_1.other W14 (Or.inr (slot_ne (Or.inr (hw _ (List.mem_of_getElem? (i := 24) rfl))) (Or.inr (hw _ (List.mem_of_getElem? (i := 28) rfl))) (by decide) (t := .int) (t' := .long) (by decide) (by decide)))
  have F14_2 := F12_2.other W14 (Or.inr (slot_ne (Or.inr (hw _ (List.mem_of_getElem? (i := 26) rfl))) (Or.inr (hw _ (List.mem_of_getElem? (i := 28) rfl))) (by decide) (t := .int) (t' := .long) (by decide) (by decide)))
  have F14_3 := F12_3.same W14
  have F14_4 := F12_4.wr W14
  have Z14 : n0 ≤ h14.size := Nat.le_trans Z12 (Keep.of_wr W14).1
  have K14 := Keep.wr K12 W14 (Or.inl (List.mem_of_getElem? (i := 0) rfl))
  have N14 := Fr.snoc X14 N12 g_a1
  have pre14 : ∀ t, Steps p.tables e below (T14.setTop (mkF m 151 #[.val (.ref a1), .val (.int p2), .val (.int p3), .val (.int p4), .val (.long q5), .second, .val (.long v46), .second] [])) t → Steps p.tables e below (s₁.setTop (entryFrame m #[(.ref a1), (.int p2), (.int p3), (.int p4), (.long q5)] 8)) t := fun t k => pre13 t (st14 _ k)
  obtain ⟨fs, hr, hrun, hended, hW, hsame⟩ := X14.leave (v := none) (fun _ => rfl)
  refine ⟨_, _, pre14 _ ?_, hrun, hended, _, _, rfl, ?_, ⟨_, rfl⟩, hW, hsame.mono (by decide) (by decide)⟩
  · show Steps p.tables e below (T14.setTop (mkF m 151 #[.val (.ref a1), .val (.int p2), .val (.int p3), .val (.int p4), .val (.long q5), .second, .val (.long v46), .second] [])) _
    exact X14.returnOut hx Bd.returns (hb hby d1_151) hr
  · show QC Z a1 p2 p3 p4 q5 h0 n0 _ T14.heap _
    rw [e14]
    exact ⟨rfl, N14, K14, F14_4, F14_0, F14_1, F14_2, F14_3⟩
/-! body 6: totalBits -/
theorem d6_0 : decode prog_25_method_2_code 0 = .ok (.aload_n 0, 1) := by decide +kernel
theorem d6_1 : decode prog_25_method_2_code 1 = .ok (.getfield 41, 3) := by decide +kernel
theorem d6_4 : decode prog_25_method_2_code 4 = .ok (.aload_n 0, 1) := by decide +kernel
theorem d6_5 : decode prog_25_method_2_code 5 = .ok (.getfield 45, 3) := by decide +kernel
theorem d6_8 : decode prog_25_method_2_code 8 = .ok (.iadd, 1) := by decide +kernel
theorem d6_9 : decode prog_25_method_2_code 9 = .ok (.aload_n 0, 1) := by decide +kernel
theorem d6_10 : decode prog_25_method_2_code 10 = .ok (.getfield 48, 3) := by decide +kernel
theorem d6_13 : decode prog_25_method_2_code 13 = .ok (.iadd, 1) := by decide +kernel
theorem d6_14 : decode prog_25_method_2_code 14 = .ok (.ireturn, 1) := by decide +kernel
theorem pnT : plainName "com/example/rimefall/rimefall/model/Layout" = true := by first | (simp [plainName, overriddenIn]; done) | decide +kernel
theorem efT (m : MethodId) (a1 : Addr) : entryFrame m #[(.ref a1)] 1 = mkF m 0 #[.val (.ref a1)] [] := by first | (simp [entryFrame, mkF, argsToLocals, Value.category]; done) | rfl
def fnT (x_timestampBits : Int32) (x_nodeBits : Int32) (x_sequenceBits : Int32) : Int32 :=
  ((x_timestampBits + x_nodeBits) + x_sequenceBits)
def QT (Z : State) (a1 : Addr) (x_timestampBits : Int32) (x_nodeBits : Int32) (x_sequenceBits : Int32) (h0 : Heap) (n0 : Nat) (v : Option Value) (h : Heap) (L : List Loc) : Prop := v = some (.int (fnT x_timestampBits x_nodeBits x_sequenceBits)) ∧ Fr n0 L ∧ h = h0
set_option maxRecDepth 65536 in
set_option maxHeartbeats 40000000 in
theorem rmT (l : Launch) (Z : State) (a0 : Array Value) (hw : ∀ d ∈ tables_1, d.before a0 Z = true) (ws : List Jvm.Cond) (a1 : Addr) (x_timestampBits : Int32) (x_nodeBits : Int32) (x_sequenceBits : Int32) (h0 : Heap) (n0 : Nat) (Z0 : n0 ≤ h0.size) (F_timestampBits : Fld Z h0 a1 "com/example/rimefall/rimefall/model/Layout" "timestampBits" "I" (.int x_timestampBits)) (F_nodeBits : Fld Z h0 a1 "com/example/rimefall/rimefall/model/Layout" "nodeBits" "I" (.int x_nodeBits)) (F_sequenceBits : Fld Z h0 a1 "com/example/rimefall/rimefall/model/Layout" "sequenceBits" "I" (.int x_sequenceBits)) :
    MetFree l (⟨"com/example/rimefall/rimefall/model/Layout", "totalBits", "()I"⟩ : MethodName) (head1 (Jvm.Cond.code (⟨"com/example/rimefall/rimefall/model/Layout", "totalBits", "()I"⟩ : MethodName) prog_25_method_2_code 1 (some .int) :: ws) ({ frames := 0, cells := 0, slots := 0, locals := 0 } : Room)) (fun a U => a = #[(.ref a1)] ∧ Z.Warmed39 U.vm ∧ U.heap = h0) (fun _ _ _ _ _ => True) (fun _ U o U' => ∃ v L, o = .returned v ∧ QT Z a1 x_timestampBits x_nodeBits x_sequenceBits h0 n0 v U'.heap L ∧ FrameEnd U o U' L ({ frames := 0, cells := 0, slots := 0, locals := 0 } : Room).cells ({ frames := 0, cells := 0, slots := 0, locals := 0 } : Room).slots) := by
  refine MetFree.of_bodySF (plainFor_of_name pnT) hisR ?_
  intro p e s m args below meth c s₁ Bd hml0 hP hK
  obtain ⟨rfl, hZ, hh⟩ := hP
  have hx := Bd.exec
  have hby := Bd.bytes
  have hml : c.maxLocals = 1 := hml0
  have hown : s.vm.findClass "com/example/rimefall/rimefall/model/Layout" = some m.cls := findClass_of_methodNamed Bd.named
  have hnm := (name_of_methodNamed Bd.named Bd.method).1
  have X0 : Stand p l e ({ frames := 0, cells := 0, slots := 0, locals := 0 } : Room) s m #[(.ref a1)] below meth c s₁ [] 0 0 := Stand.of_body Bd
  have e0 : s₁.heap = h0 := by rw [← hh, Bd.state]; rfl
  have N0 := Fr.nil n0
  have pre0 : ∀ t, Steps p.tables e below (s₁.setTop (mkF m 0 #[.val (.ref a1)] [])) t → Steps p.tables e below (s₁.setTop (entryFrame m #[(.ref a1)] 1)) t := fun t k => castTop (efT m a1) k
  have pre1 : ∀ t, Steps p.tables e below (s₁.setTop (mkF m 1 #[.val (.ref a1)] [(.ref a1)])) t → Steps p.tables e below (s₁.setTop (entryFrame m #[(.ref a1)] 1)) t := by
    intro t k
    refine pre0 t ?_
    show Steps p.tables e below (s₁.setTop (mkF m 0 #[.val (.ref a1)] [])) _
    refine XS.aloadN X0.here hx rfl (hb hby d6_0) rfl rfl ?_
    show Steps p.tables e below (s₁.setTop (mkF m 1 #[.val (.ref a1)] [(.ref a1)])) _
    exact k
  obtain ⟨T2, X2, e2, st2⟩ := getF X0 hx hZ hown (host := "") (Or.inl (hw _ (List.mem_of_getElem? (i := 21) rfl))) Via.refl e0 F_timestampBits (g := (mkF m 1 #[.val (.ref a1)] [(.ref a1)])) rfl rfl (hb hby d6_1)
  have pre2 : ∀ t, Steps p.tables e below (T2.setTop (mkF m 4 #[.val (.ref a1)] [(.int x_timestampBits)])) t → Steps p.tables e below (s₁.setTop (entryFrame m #[(.ref a1)] 1)) t := fun t k => pre1 t (st2 _ k)
  have pre3 : ∀ t, Steps p.tables e below (T2.setTop (mkF m 5 #[.val (.ref a1)] [(.ref a1), (.int x_timestampBits)])) t → Steps p.tables e below (s₁.setTop (entryFrame m #[(.ref a1)] 1)) t := by
    intro t k
    refine pre2 t ?_
    refine XS.aloadN X2.here hx rfl (hb hby d6_4) rfl rfl ?_
    show Steps p.tables e below (T2.setTop (mkF m 5 #[.val (.ref a1)] [(.ref a1), (.int x_timestampBits)])) _
    exact k
  obtain ⟨T4, X4, e4, st4⟩ := getF X2 hx hZ hown (host := "") (Or.inl (hw _ (List.mem_of_getElem? (i := 23) rfl))) Via.refl e2 F_nodeBits (g := (mkF m 5 #[.val (.ref a1)] [(.ref a1), (.int x_timestampBits)])) rfl rfl (hb hby d6_5)
  have pre4 : ∀ t, Steps p.tables e below (T4.setTop (mkF m 8 #[.val (.ref a1)] [(.int x_nodeBits), (.int x_timestampBits)])) t → Steps p.tables e below (s₁.setTop (entryFrame m #[(.ref a1)] 1)) t := fun t k => pre3 t (st4 _ k)
  have pre5 : ∀ t, Steps p.tables e below (T4.setTop (mkF m 10 #[.val (.ref a1)] [(.ref a1), (.int (x_timestampBits + x_nodeBits))])) t → Steps p.tables e below (s₁.setTop (entryFrame m #[(.ref a1)] 1)) t := by
    intro t k
    refine pre4 t ?_
    refine XS.iadd X4.here hx rfl (hb hby d6_8) rfl ?_
    show Steps p.tables e below (T4.setTop (mkF m 9 #[.val (.ref a1)] [(.int (x_timestampBits + x_nodeBits))])) _
    refine XS.aloadN X4.here hx rfl (hb hby d6_9) rfl rfl ?_
    show Steps p.tables e below (T4.setTop (mkF m 10 #[.val (.ref a1)] [(.ref a1), (.int (x_timestampBits + x_nodeBits))])) _
    exact k
  obtain ⟨T6, X6, e6, st6⟩ := getF X4 hx hZ hown (host := "") (Or.inl (hw _ (List.mem_of_getElem? (i := 25) rfl))) Via.refl e4 F_sequenceBits (g := (mkF m 10 #[.val (.ref a1)] [(.ref a1), (.int (x_timestampBits + x_nodeBits))])) rfl rfl (hb hby d6_10)
  have pre6 : ∀ t, Steps p.tables e below (T6.setTop (mkF m 13 #[.val (.ref a1)] [(.int x_sequenceBits), (.int (x_timestampBits + x_nodeBits))])) t → Steps p.tables e below (s₁.setTop (entryFrame m #[(.ref a1)] 1)) t := fun t k => pre5 t (st6 _ k)
  have pre7 : ∀ t, Steps p.tables e below (T6.setTop (mkF m 14 #[.val (.ref a1)] [(.int ((x_timestampBits + x_nodeBits) + x_sequenceBits))])) t → Steps p.tables e below (s₁.setTop (entryFrame m #[(.ref a1)] 1)) t := by
    intro t k
    refine pre6 t ?_
    refine XS.iadd X6.here hx rfl (hb hby d6_13) rfl ?_
    show Steps p.tables e below (T6.setTop (mkF m 14 #[.val (.ref a1)] [(.int ((x_timestampBits + x_nodeBits) + x_sequenceBits))])) _
    exact k
  obtain ⟨fs, hr, hrun, hended, hW, hsame⟩ := X6.leave (v := some (.int ((x_timestampBits + x_nodeBits) + x_sequenceBits))) (fun h => by rw [Bd.returns] at h; cases h)
  refine ⟨_, _, pre7 _ ?_, hrun, hended, _, _, rfl, ?_, ⟨_, rfl⟩, hW, hsame.mono (by decide) (by decide)⟩
  · show Steps p.tables e below (T6.setTop (mkF m 14 #[.val (.ref a1)] [(.int ((x_timestampBits + x_nodeBits) + x_sequenceBits))])) _
    exact own_retI X6 hx Bd.returns (hb hby d6_14) hr
  · show QT Z a1 x_timestampBits x_nodeBits x_sequenceBits h0 n0 _ T6.heap _
    rw [e6]
    refine ⟨?_, N0, rfl⟩
    simp only [fnT]
/-! body 7: maxNode -/
theorem d7_0 : decode prog_25_method_4_code 0 = .ok (.aload_n 0, 1) := by decide +kernel
theorem d7_1 : decode prog_25_method_4_code 1 = .ok (.getfield 45, 3) := by decide +kernel
theorem d7_4 : decode prog_25_method_4_code 4 = .ok (.invokestatic 34, 3) := by decide +kernel
theorem d7_7 : decode prog_25_method_4_code 7 = .ok (.lreturn, 1) := by decide +kernel
theorem pdY_0 : parseMethodDescriptor "(I)J" = some ⟨[.int], some .long⟩ := by decide +kernel
theorem pnY : plainName "com/example/rimefall/rimefall/model/Layout" = true := by first | (simp [plainName, overriddenIn]; done) | decide +kernel
theorem efY (m : MethodId) (a1 : Addr) : entryFrame m #[(.ref a1)] 1 = mkF m 0 #[.val (.ref a1)] [] := by first | (simp [entryFrame, mkF, argsToLocals, Value.category]; done) | rfl
def fnY (x_nodeBits : Int32) : Int64 :=
  (fnM x_nodeBits)
def QY (Z : State) (a1 : Addr) (x_nodeBits : Int32) (h0 : Heap) (n0 : Nat) (v : Option Value) (h : Heap) (L : List Loc) : Prop := v = some (.long (fnY x_nodeBits)) ∧ Fr n0 L ∧ h = h0
set_option maxRecDepth 65536 in
set_option maxHeartbeats 40000000 in
theorem rmY (l : Launch) (Z : State) (a0 : Array Value) (hw : ∀ d ∈ tables_1, d.before a0 Z = true) (ws : List Jvm.Cond) (a1 : Addr) (x_nodeBits : Int32) (h0 : Heap) (n0 : Nat) (Z0 : n0 ≤ h0.size) (F_nodeBits : Fld Z h0 a1 "com/example/rimefall/rimefall/model/Layout" "nodeBits" "I" (.int x_nodeBits)) :
    MetFree l (⟨"com/example/rimefall/rimefall/model/Layout", "maxNode", "()J"⟩ : MethodName) (head1 (Jvm.Cond.code (⟨"com/example/rimefall/rimefall/model/Layout", "maxNode", "()J"⟩ : MethodName) prog_25_method_4_code 1 (some .long) :: ws) ({ frames := 1, cells := 0, slots := 0, locals := 12 } : Room)) (fun a U => a = #[(.ref a1)] ∧ Z.Warmed39 U.vm ∧ U.heap = h0) (fun _ _ _ _ _ => True) (fun _ U o U' => ∃ v L, o = .returned v ∧ QY Z a1 x_nodeBits h0 n0 v U'.heap L ∧ FrameEnd U o U' L ({ frames := 1, cells := 0, slots := 0, locals := 12 } : Room).cells ({ frames := 1, cells := 0, slots := 0, locals := 12 } : Room).slots) := by
  refine MetFree.of_bodySF (plainFor_of_name pnY) hisR ?_
  intro p e s m args below meth c s₁ Bd hml0 hP hK
  obtain ⟨rfl, hZ, hh⟩ := hP
  have hx := Bd.exec
  have hby := Bd.bytes
  have hml : c.maxLocals = 1 := hml0
  have hown : s.vm.findClass "com/example/rimefall/rimefall/model/Layout" = some m.cls := findClass_of_methodNamed Bd.named
  have hnm := (name_of_methodNamed Bd.named Bd.method).1
  have X0 : Stand p l e ({ frames := 1, cells := 0, slots := 0, locals := 12 } : Room) s m #[(.ref a1)] below meth c s₁ [] 0 0 := Stand.of_body Bd
  have e0 : s₁.heap = h0 := by rw [← hh, Bd.state]; rfl
  have N0 := Fr.nil n0
  have pre0 : ∀ t, Steps p.tables e below (s₁.setTop (mkF m 0 #[.val (.ref a1)] [])) t → Steps p.tables e below (s₁.setTop (entryFrame m #[(.ref a1)] 1)) t := fun t k => castTop (efY m a1) k
  have pre1 : ∀ t, Steps p.tables e below (s₁.setTop (mkF m 1 #[.val (.ref a1)] [(.ref a1)])) t → Steps p.tables e below (s₁.setTop (entryFrame m #[(.ref a1)] 1)) t := by
    intro t k
    refine pre0 t ?_
    show Steps p.tables e below (s₁.setTop (mkF m 0 #[.val (.ref a1)] [])) _
    refine XS.aloadN X0.here hx rfl (hb hby d7_0) rfl rfl ?_
    show Steps p.tables e below (s₁.setTop (mkF m 1 #[.val (.ref a1)] [(.ref a1)])) _
    exact k
  obtain ⟨T2, X2, e2, st2⟩ := getF X0 hx hZ hown (host := "") (Or.inl (hw _ (List.mem_of_getElem? (i := 23) rfl))) Via.refl e0 F_nodeBits (g := (mkF m 1 #[.val (.ref a1)] [(.ref a1)])) rfl rfl (hb hby d7_1)
  have pre2 : ∀ t, Steps p.tables e below (T2.setTop (mkF m 4 #[.val (.ref a1)] [(.int x_nodeBits)])) t → Steps p.tables e below (s₁.setTop (entryFrame m #[(.ref a1)] 1)) t := fun t k => pre1 t (st2 _ k)
  obtain ⟨_, _, ⟨T3, L3, k3, n3⟩, -, X3, ⟨Lc3, hQ3, l3, y3, z3⟩, st3⟩ := Jvm.LawKit.callS X2 hx (y := (⟨"com/example/rimefall/rimefall/model/Layout", "mask", "(I)J"⟩ : MethodName)) hown (mvT hZ (hw _ (List.mem_of_getElem? (i := 17) rfl))) (mvT hZ (hw _ (List.mem_of_getElem? (i := 18) rfl))) (mvT hZ (hw _ (List.mem_of_getElem? (i := 3) rfl))) (mvT hZ (hw _ (List.mem_of_getElem? (i := 19) rfl))) (by decide) (backOf (W := 0) (rmM l Z a0 hw [] x_nodeBits h0 n0 Z0) hZ (hw _ (List.mem_of_getElem? (i := 19) rfl)) (hw _ (List.mem_of_getElem? (i := 3) rfl)) (by decide) (by decide)) (g := (mkF m 4 #[.val (.ref a1)] [(.int x_nodeBits)])) rfl (by rw [hml]; rfl) (argsL := [(.int x_nodeBits)]) (rest := []) (lenOf pdY_0 rfl) rfl (by show 2 * 0 + _ ≤ _; exact Nat.le_of_eq rfl) (hb hby d7_4) (fun _ _ => ⟨rfl, e2, (by decide : 0 + 0 ≤ _), (by decide : 0 + 0 ≤ _)⟩)
  dsimp only [Pt.U, Pt.locs, Pt.cells, Pt.slots] at X3 l3 y3 z3 st3 hQ3
  subst l3 y3 z3
  obtain ⟨rfl, Nq3, e3⟩ := hQ3
  have N3 := Fr.app N0 Nq3
  have pre3 : ∀ t, Steps p.tables e below (T3.setTop (mkF m 7 #[.val (.ref a1)] [(.long (fnM x_nodeBits))])) t → Steps p.tables e below (s₁.setTop (entryFrame m #[(.ref a1)] 1)) t := fun t k => pre2 t (st3 _ k)
  obtain ⟨fs, hr, hrun, hended, hW, hsame⟩ := X3.leave (v := some (.long (fnM x_nodeBits))) (fun h => by rw [Bd.returns] at h; cases h)
  refine ⟨_, _, pre3 _ ?_, hrun, hended, _, _, rfl, ?_, ⟨_, rfl⟩, hW, hsame.mono (by decide) (by decide)⟩
  · show Steps p.tables e below (T3.setTop (mkF m 7 #[.val (.ref a1)] [(.long (fnM x_nodeBits))])) _
    exact own_retJ X3 hx Bd.returns (hb hby d7_7) hr
  · show QY Z a1 x_nodeBits h0 n0 _ T3.heap _
    rw [e3]
    refine ⟨?_, N3, rfl⟩
    simp only [fnY]
/-! body 8: maxSequence -/
theorem d8_0 : decode prog_25_method_5_code 0 = .ok (.aload_n 0, 1) := by decide +kernel
theorem d8_1 : decode prog_25_method_5_code 1 = .ok (.getfield 48, 3) := by decide +kernel
theorem d8_4 : decode prog_25_method_5_code 4 = .ok (.invokestatic 34, 3) := by decide +kernel
theorem d8_7 : decode prog_25_method_5_code 7 = .ok (.lreturn, 1) := by decide +kernel
theorem pdW_0 : parseMethodDescriptor "(I)J" = some ⟨[.int], some .long⟩ := by decide +kernel
theorem pnW : plainName "com/example/rimefall/rimefall/model/Layout" = true := by first | (simp [plainName, overriddenIn]; done) | decide +kernel
theorem efW (m : MethodId) (a1 : Addr) : entryFrame m #[(.ref a1)] 1 = mkF m 0 #[.val (.ref a1)] [] := by first | (simp [entryFrame, mkF, argsToLocals, Value.category]; done) | rfl
def fnW (x_sequenceBits : Int32) : Int64 :=
  (fnM x_sequenceBits)
def QW (Z : State) (a1 : Addr) (x_sequenceBits : Int32) (h0 : Heap) (n0 : Nat) (v : Option Value) (h : Heap) (L : List Loc) : Prop := v = some (.long (fnW x_sequenceBits)) ∧ Fr n0 L ∧ h = h0
set_option maxRecDepth 65536 in
set_option maxHeartbeats 40000000 in
theorem rmW (l : Launch) (Z : State) (a0 : Array Value) (hw : ∀ d ∈ tables_1, d.before a0 Z = true) (ws : List Jvm.Cond) (a1 : Addr) (x_sequenceBits : Int32) (h0 : Heap) (n0 : Nat) (Z0 : n0 ≤ h0.size) (F_sequenceBits : Fld Z h0 a1 "com/example/rimefall/rimefall/model/Layout" "sequenceBits" "I" (.int x_sequenceBits)) :
    MetFree l (⟨"com/example/rimefall/rimefall/model/Layout", "maxSequence", "()J"⟩ : MethodName) (head1 (Jvm.Cond.code (⟨"com/example/rimefall/rimefall/model/Layout", "maxSequence", "()J"⟩ : MethodName) prog_25_method_5_code 1 (some .long) :: ws) ({ frames := 1, cells := 0, slots := 0, locals := 12 } : Room)) (fun a U => a = #[(.ref a1)] ∧ Z.Warmed39 U.vm ∧ U.heap = h0) (fun _ _ _ _ _ => True) (fun _ U o U' => ∃ v L, o = .returned v ∧ QW Z a1 x_sequenceBits h0 n0 v U'.heap L ∧ FrameEnd U o U' L ({ frames := 1, cells := 0, slots := 0, locals := 12 } : Room).cells ({ frames := 1, cells := 0, slots := 0, locals := 12 } : Room).slots) := by
  refine MetFree.of_bodySF (plainFor_of_name pnW) hisR ?_
  intro p e s m args below meth c s₁ Bd hml0 hP hK
  obtain ⟨rfl, hZ, hh⟩ := hP
  have hx := Bd.exec
  have hby := Bd.bytes
  have hml : c.maxLocals = 1 := hml0
  have hown : s.vm.findClass "com/example/rimefall/rimefall/model/Layout" = some m.cls := findClass_of_methodNamed Bd.named
  have hnm := (name_of_methodNamed Bd.named Bd.method).1
  have X0 : Stand p l e ({ frames := 1, cells := 0, slots := 0, locals := 12 } : Room) s m #[(.ref a1)] below meth c s₁ [] 0 0 := Stand.of_body Bd
  have e0 : s₁.heap = h0 := by rw [← hh, Bd.state]; rfl
  have N0 := Fr.nil n0
  have pre0 : ∀ t, Steps p.tables e below (s₁.setTop (mkF m 0 #[.val (.ref a1)] [])) t → Steps p.tables e below (s₁.setTop (entryFrame m #[(.ref a1)] 1)) t := fun t k => castTop (efW m a1) k
  have pre1 : ∀ t, Steps p.tables e below (s₁.setTop (mkF m 1 #[.val (.ref a1)] [(.ref a1)])) t → Steps p.tables e below (s₁.setTop (entryFrame m #[(.ref a1)] 1)) t := by
    intro t k
    refine pre0 t ?_
    show Steps p.tables e below (s₁.setTop (mkF m 0 #[.val (.ref a1)] [])) _
    refine XS.aloadN X0.here hx rfl (hb hby d8_0) rfl rfl ?_
    show Steps p.tables e below (s₁.setTop (mkF m 1 #[.val (.ref a1)] [(.ref a1)])) _
    exact k
  obtain ⟨T2, X2, e2, st2⟩ := getF X0 hx hZ hown (host := "") (Or.inl (hw _ (List.mem_of_getElem? (i := 25) rfl))) Via.refl e0 F_sequenceBits (g := (mkF m 1 #[.val (.ref a1)] [(.ref a1)])) rfl rfl (hb hby d8_1)
  have pre2 : ∀ t, Steps p.tables e below (T2.setTop (mkF m 4 #[.val (.ref a1)] [(.int x_sequenceBits)])) t → Steps p.tables e below (s₁.setTop (entryFrame m #[(.ref a1)] 1)) t := fun t k => pre1 t (st2 _ k)
  obtain ⟨_, _, ⟨T3, L3, k3, n3⟩, -, X3, ⟨Lc3, hQ3, l3, y3, z3⟩, st3⟩ := Jvm.LawKit.callS X2 hx (y := (⟨"com/example/rimefall/rimefall/model/Layout", "mask", "(I)J"⟩ : MethodName)) hown (mvT hZ (hw _ (List.mem_of_getElem? (i := 17) rfl))) (mvT hZ (hw _ (List.mem_of_getElem? (i := 18) rfl))) (mvT hZ (hw _ (List.mem_of_getElem? (i := 3) rfl))) (mvT hZ (hw _ (List.mem_of_getElem? (i := 19) rfl))) (by decide) (backOf (W := 0) (rmM l Z a0 hw [] x_sequenceBits h0 n0 Z0) hZ (hw _ (List.mem_of_getElem? (i := 19) rfl)) (hw _ (List.mem_of_getElem? (i := 3) rfl)) (by decide) (by decide)) (g := (mkF m 4 #[.val (.ref a1)] [(.int x_sequenceBits)])) rfl (by rw [hml]; rfl) (argsL := [(.int x_sequenceBits)]) (rest := []) (lenOf pdW_0 rfl) rfl (by show 2 * 0 + _ ≤ _; exact Nat.le_of_eq rfl) (hb hby d8_4) (fun _ _ => ⟨rfl, e2, (by decide : 0 + 0 ≤ _), (by decide : 0 + 0 ≤ _)⟩)
  dsimp only [Pt.U, Pt.locs, Pt.cells, Pt.slots] at X3 l3 y3 z3 st3 hQ3
  subst l3 y3 z3
  obtain ⟨rfl, Nq3, e3⟩ := hQ3
  have N3 := Fr.app N0 Nq3
  have pre3 : ∀ t, Steps p.tables e below (T3.setTop (mkF m 7 #[.val (.ref a1)] [(.long (fnM x_sequenceBits))])) t → Steps p.tables e below (s₁.setTop (entryFrame m #[(.ref a1)] 1)) t := fun t k => pre2 t (st3 _ k)
  obtain ⟨fs, hr, hrun, hended, hW, hsame⟩ := X3.leave (v := some (.long (fnM x_sequenceBits))) (fun h => by rw [Bd.returns] at h; cases h)
  refine ⟨_, _, pre3 _ ?_, hrun, hended, _, _, rfl, ?_, ⟨_, rfl⟩, hW, hsame.mono (by decide) (by decide)⟩
  · show Steps p.tables e below (T3.setTop (mkF m 7 #[.val (.ref a1)] [(.long (fnM x_sequenceBits))])) _
    exact own_retJ X3 hx Bd.returns (hb hby d8_7) hr
  · show QW Z a1 x_sequenceBits h0 n0 _ T3.heap _
    rw [e3]
    refine ⟨?_, N3, rfl⟩
    simp only [fnW]
/-! body 9: init -/
theorem d9_0 : decode prog_24_method_1_code 0 = .ok (.aload_n 0, 1) := by decide +kernel
theorem d9_1 : decode prog_24_method_1_code 1 = .ok (.invokespecial 1, 3) := by decide +kernel
theorem d9_4 : decode prog_24_method_1_code 4 = .ok (.aload_n 0, 1) := by decide +kernel
theorem d9_5 : decode prog_24_method_1_code 5 = .ok (.lload_n 1, 1) := by decide +kernel
theorem d9_6 : decode prog_24_method_1_code 6 = .ok (.putfield 7, 3) := by decide +kernel
theorem d9_9 : decode prog_24_method_1_code 9 = .ok (.aload_n 0, 1) := by decide +kernel
theorem d9_10 : decode prog_24_method_1_code 10 = .ok (.lload_n 3, 1) := by decide +kernel
theorem d9_11 : decode prog_24_method_1_code 11 = .ok (.putfield 13, 3) := by decide +kernel
theorem d9_14 : decode prog_24_method_1_code 14 = .ok (.aload_n 0, 1) := by decide +kernel
theorem d9_15 : decode prog_24_method_1_code 15 = .ok (.lload 5, 2) := by decide +kernel
theorem d9_17 : decode prog_24_method_1_code 17 = .ok (.putfield 16, 3) := by decide +kernel
theorem d9_20 : decode prog_24_method_1_code 20 = .ok (.return_, 1) := by decide +kernel
theorem pdI_0 : parseMethodDescriptor "()V" = some ⟨[], none⟩ := by decide +kernel
theorem pnI : plainName "com/example/rimefall/rimefall/model/IdFields" = true := by first | (simp [plainName, overriddenIn]; done) | decide +kernel
theorem efI (m : MethodId) (a1 : Addr) (q2 : Int64) (q3 : Int64) (q4 : Int64) : entryFrame m #[(.ref a1), (.long q2), (.long q3), (.long q4)] 7 = mkF m 0 #[.val (.ref a1), .val (.long q2), .second, .val (.long q3), .second, .val (.long q4), .second] [] := by first | (simp [entryFrame, mkF, argsToLocals, Value.category]; done) | rfl
def QI (Z : State) (a1 : Addr) (q2 : Int64) (q3 : Int64) (q4 : Int64) (h0 : Heap) (n0 : Nat) (v : Option Value) (h : Heap) (L : List Loc) : Prop := v = none ∧ Fr n0 L ∧ Keep h0 h [a1] ∧ Exa Z h a1 "com/example/rimefall/rimefall/model/IdFields" ∧ Fld Z h a1 "com/example/rimefall/rimefall/model/IdFields" "timestamp" "J" (.long q2) ∧ Fld Z h a1 "com/example/rimefall/rimefall/model/IdFields" "node" "J" (.long q3) ∧ Fld Z h a1 "com/example/rimefall/rimefall/model/IdFields" "sequence" "J" (.long q4)
set_option maxRecDepth 65536 in
set_option maxHeartbeats 40000000 in
theorem rmI (l : Launch) (Z : State) (a0 : Array Value) (hw : ∀ d ∈ tables_1, d.before a0 Z = true) (ws : List Jvm.Cond) (a1 : Addr) (q2 : Int64) (q3 : Int64) (q4 : Int64) (h0 : Heap) (n0 : Nat) (Z0 : n0 ≤ h0.size) (E_a1 : Exa Z h0 a1 "com/example/rimefall/rimefall/model/IdFields") (F_timestamp : Fld Z h0 a1 "com/example/rimefall/rimefall/model/IdFields" "timestamp" "J" (.long (0 : Int64))) (F_node : Fld Z h0 a1 "com/example/rimefall/rimefall/model/IdFields" "node" "J" (.long (0 : Int64))) (F_sequence : Fld Z h0 a1 "com/example/rimefall/rimefall/model/IdFields" "sequence" "J" (.long (0 : Int64))) (g_a1 : n0 ≤ a1) :
    MetFree l (⟨"com/example/rimefall/rimefall/model/IdFields", "<init>", "(JJJ)V"⟩ : MethodName) (head1 (Jvm.Cond.code (⟨"com/example/rimefall/rimefall/model/IdFields", "<init>", "(JJJ)V"⟩ : MethodName) prog_24_method_1_code 7 none :: ws) ({ frames := 2, cells := 0, slots := 0, locals := 24 } : Room)) (fun a U => a = #[(.ref a1), (.long q2), (.long q3), (.long q4)] ∧ Z.Warmed39 U.vm ∧ U.heap = h0) (fun _ _ _ _ _ => True) (fun _ U o U' => ∃ v L, o = .returned v ∧ QI Z a1 q2 q3 q4 h0 n0 v U'.heap L ∧ FrameEnd U o U' L ({ frames := 2, cells := 0, slots := 0, locals := 24 } : Room).cells ({ frames := 2, cells := 0, slots := 0, locals := 24 } : Room).slots) := by
  refine MetFree.of_bodySF (plainFor_of_name pnI) hisR ?_
  intro p e s m args below meth c s₁ Bd hml0 hP hK
  obtain ⟨rfl, hZ, hh⟩ := hP
  have hx := Bd.exec
  have hby := Bd.bytes
  have hml : c.maxLocals = 7 := hml0
  have hown : s.vm.findClass "com/example/rimefall/rimefall/model/IdFields" = some m.cls := findClass_of_methodNamed Bd.named
  have hnm := (name_of_methodNamed Bd.named Bd.method).1
  have X0 : Stand p l e ({ frames := 2, cells := 0, slots := 0, locals := 24 } : Room) s m #[(.ref a1), (.long q2), (.long q3), (.long q4)] below meth c s₁ [] 0 0 := Stand.of_body Bd
  have e0 : s₁.heap = h0 := by rw [← hh, Bd.state]; rfl
  have N0 := Fr.nil n0
  have pre0 : ∀ t, Steps p.tables e below (s₁.setTop (mkF m 0 #[.val (.ref a1), .val (.long q2), .second, .val (.long q3), .second, .val (.long q4), .second] [])) t → Steps p.tables e below (s₁.setTop (entryFrame m #[(.ref a1), (.long q2), (.long q3), (.long q4)] 7)) t := fun t k => castTop (efI m a1 q2 q3 q4) k
  have K0 := Keep.refl h0 [a1]
  have pre1 : ∀ t, Steps p.tables e below (s₁.setTop (mkF m 1 #[.val (.ref a1), .val (.long q2), .second, .val (.long q3), .second, .val (.long q4), .second] [(.ref a1)])) t → Steps p.tables e below (s₁.setTop (entryFrame m #[(.ref a1), (.long q2), (.long q3), (.long q4)] 7)) t := by
    intro t k
    refine pre0 t ?_
    show Steps p.tables e below (s₁.setTop (mkF m 0 #[.val (.ref a1), .val (.long q2), .second, .val (.long q3), .second, .val (.long q4), .second] [])) _
    refine XS.aloadN X0.here hx rfl (hb hby d9_0) rfl rfl ?_
    show Steps p.tables e below (s₁.setTop (mkF m 1 #[.val (.ref a1), .val (.long q2), .second, .val (.long q3), .second, .val (.long q4), .second] [(.ref a1)])) _
    exact k
  obtain ⟨_, _, ⟨T2, L2, k2, n2⟩, -, X2, ⟨Lc2, hQ2, l2, y2, z2⟩, st2⟩ := X0.specialBack hx (y := (⟨"java/lang/Record", "<init>", "()V"⟩ : MethodName)) rfl hown (mvT hZ (hw _ (List.mem_of_getElem? (i := 55) rfl))) (mvT hZ (hw _ (List.mem_of_getElem? (i := 8) rfl))) (mvT hZ (hw _ (List.mem_of_getElem? (i := 11) rfl))) (by decide) (backOf (W := 0) (rm2 l Z a0 hw [] a1 h0 n0 Z0) hZ (hw _ (List.mem_of_getElem? (i := 11) rfl)) (hw _ (List.mem_of_getElem? (i := 10) rfl)) (by decide) (by decide)) (g := (mkF m 1 #[.val (.ref a1), .val (.long q2), .second, .val (.long q3), .second, .val (.long q4), .second] [(.ref a1)])) rfl (by rw [hml]; rfl) (Steps.refl _) (a := a1) (argsL := []) (rest := []) (lenOf pdI_0 rfl) rfl (by show 2 * 0 + _ ≤ _; exact Nat.le_of_eq rfl) (hb hby d9_1) (fun _ _ => ⟨rfl, e0, (by decide : 0 + 0 ≤ _), (by decide : 0 + 0 ≤ _)⟩)
  dsimp only [Pt.U, Pt.locs, Pt.cells, Pt.slots] at X2 l2 y2 z2 st2 hQ2
  subst l2 y2 z2
  obtain ⟨rfl, Nq2, e2⟩ := hQ2
  have N2 := Fr.app N0 Nq2
  have pre2 : ∀ t, Steps p.tables e below (T2.setTop (mkF m 4 #[.val (.ref a1), .val (.long q2), .second, .val (.long q3), .second, .val (.long q4), .second] [])) t → Steps p.tables e below (s₁.setTop (entryFrame m #[(.ref a1), (.long q2), (.long q3), (.long q4)] 7)) t := fun t k => pre1 t (st2.trans k)
  have pre3 : ∀ t, Steps p.tables e below (T2.setTop (mkF m 6 #[.val (.ref a1), .val (.long q2), .second, .val (.long q3), .second, .val (.long q4), .second] [(.long q2), (.ref a1)])) t → Steps p.tables e below (s₁.setTop (entryFrame m #[(.ref a1), (.long q2), (.long q3), (.long q4)] 7)) t := by
    intro t k
    refine pre2 t ?_
    refine XS.aloadN X2.here hx rfl (hb hby d9_4) rfl rfl ?_
    show Steps p.tables e below (T2.setTop (mkF m 5 #[.val (.ref a1), .val (.long q2), .second, .val (.long q3), .second, .val (.long q4), .second] [(.ref a1)])) _
    refine XS.lloadN X2.here hx rfl (hb hby d9_5) rfl ?_
    show Steps p.tables e below (T2.setTop (mkF m 6 #[.val (.ref a1), .val (.long q2), .second, .val (.long q3), .second, .val (.long q4), .second] [(.long q2), (.ref a1)])) _
    exact k
  obtain ⟨T4, h4, X4, e4, W4, st4⟩ := putF X2 hx hZ hown (host := "") (Or.inl (hw _ (List.mem_of_getElem? (i := 56) rfl))) Via.refl e2 F_timestamp E_a1 (Or.inr ⟨(hw _ (List.mem_of_getElem? (i := 57) rfl)), rfl, hnm⟩) (hw _ (List.mem_of_getElem? (i := 50) rfl)) (ty := .long) (by decide) rfl rfl (g := (mkF m 6 #[.val (.ref a1), .val (.long q2), .second, .val (.long q3), .second, .val (.long q4), .second] [(.long q2), (.ref a1)])) rfl rfl (hb hby d9_6)
  have F4_0 := F_timestamp.same W4
  have F4_1 := F_node.other W4 (Or.inr (slot_ne (Or.inr (hw _ (List.mem_of_getElem? (i := 59) rfl))) (Or.inr (hw _ (List.mem_of_getElem? (i := 57) rfl))) (by decide) (t := .long) (t' := .long) (by decide) (by decide)))
  have F4_2 := F_sequence.other W4 (Or.inr (slot_ne (Or.inr (hw _ (List.mem_of_getElem? (i := 61) rfl))) (Or.inr (hw _ (List.mem_of_getElem? (i := 57) rfl))) (by decide) (t := .long) (t' := .long) (by decide) (by decide)))
  have F4_3 := E_a1.wr W4
  have Z4 : n0 ≤ h4.size := Nat.le_trans Z0 (Keep.of_wr W4).1
  have K4 := Keep.wr K0 W4 (Or.inl (List.mem_of_getElem? (i := 0) rfl))
  have N4 := Fr.snoc X4 N2 g_a1
  have pre4 : ∀ t, Steps p.tables e below (T4.setTop (mkF m 9 #[.val (.ref a1), .val (.long q2), .second, .val (.long q3), .second, .val (.long q4), .second] [])) t → Steps p.tables e below (s₁.setTop (entryFrame m #[(.ref a1), (.long q2), (.long q3), (.long q4)] 7)) t := fun t k => pre3 t (st4 _ k)
  have pre5 : ∀ t, Steps p.tables e below (T4.setTop (mkF m 11 #[.val (.ref a1), .val (.long q2), .second, .val (.long q3), .second, .val (.long q4), .second] [(.long q3), (.ref a1)])) t → Steps p.tables e below (s₁.setTop (entryFrame m #[(.ref a1), (.long q2), (.long q3), (.long q4)] 7)) t := by
    intro t k
    refine pre4 t ?_
    refine XS.aloadN X4.here hx rfl (hb hby d9_9) rfl rfl ?_
    show Steps p.tables e below (T4.setTop (mkF m 10 #[.val (.ref a1), .val (.long q2), .second, .val (.long q3), .second, .val (.long q4), .second] [(.ref a1)])) _
    refine XS.lloadN X4.here hx rfl (hb hby d9_10) rfl ?_
    show Steps p.tables e below (T4.setTop (mkF m 11 #[.val (.ref a1), .val (.long q2), .second, .val (.long q3), .second, .val (.long q4), .second] [(.long q3), (.ref a1)])) _
    exact k
  obtain ⟨T6, h6, X6, e6, W6, st6⟩ := putF X4 hx hZ hown (host := "") (Or.inl (hw _ (List.mem_of_getElem? (i := 58) rfl))) Via.refl e4 F4_1 F4_3 (Or.inr ⟨(hw _ (List.mem_of_getElem? (i := 59) rfl)), rfl, hnm⟩) (hw _ (List.mem_of_getElem? (i := 50) rfl)) (ty := .long) (by decide) rfl rfl (g := (mkF m 11 #[.val (.ref a1), .val (.long q2), .second, .val (.long q3), .second, .val (.long q4), .second] [(.long q3), (.ref a1)])) rfl rfl (hb hby d9_11)
  have F6_0 := F4_0.other W6 (Or.inr (slot_ne (Or.inr (hw _ (List.mem_of_getElem? (i := 57) rfl))) (Or.inr (hw _ (List.mem_of_getElem? (i := 59) rfl))) (by decide) (t := .long) (t' := .long) (by decide) (by decide)))
  have F6_1 := F4_1.same W6
  have F6_2 := F4_2.other W6 (Or.inr (slot_ne (Or.inr (hw _ (List.mem_of_getElem? (i := 61) rfl))) (Or.inr (hw _ (List.mem_of_getElem? (i := 59) rfl))) (by decide) (t := .long) (t' := .long) (by decide) (by decide)))
  have F6_3 := F4_3.wr W6
  have Z6 : n0 ≤ h6.size := Nat.le_trans Z4 (Keep.of_wr W6).1
  have K6 := Keep.wr K4 W6 (Or.inl (List.mem_of_getElem? (i := 0) rfl))
  have N6 := Fr.snoc X6 N4 g_a1
  have pre6 : ∀ t, Steps p.tables e below (T6.setTop (mkF m 14 #[.val (.ref a1), .val (.long q2), .second, .val (.long q3), .second, .val (.long q4), .second] [])) t → Steps p.tables e below (s₁.setTop (entryFrame m #[(.ref a1), (.long q2), (.long q3), (.long q4)] 7)) t := fun t k => pre5 t (st6 _ k)
  have pre7 : ∀ t, Steps p.tables e below (T6.setTop (mkF m 17 #[.val (.ref a1), .val (.long q2), .second, .val (.long q3), .second, .val (.long q4), .second] [(.long q4), (.ref a1)])) t → Steps p.tables e below (s₁.setTop (entryFrame m #[(.ref a1), (.long q2), (.long q3), (.long q4)] 7)) t := by
    intro t k
    refine pre6 t ?_
    refine XS.aloadN X6.here hx rfl (hb hby d9_14) rfl rfl ?_
    show Steps p.tables e below (T6.setTop (mkF m 15 #[.val (.ref a1), .val (.long q2), .second, .val (.long q3), .second, .val (.long q4), .second] [(.ref a1)])) _
    refine XS.lload X6.here hx rfl (hb hby d9_15) rfl ?_
    show Steps p.tables e below (T6.setTop (mkF m 17 #[.val (.ref a1), .val (.long q2), .second, .val (.long q3), .second, .val (.long q4), .second] [(.long q4), (.ref a1)])) _
    exact k
  obtain ⟨T8, h8, X8, e8, W8, st8⟩ := putF X6 hx hZ hown (host := "") (Or.inl (hw _ (List.mem_of_getElem? (i := 60) rfl))) Via.refl e6 F6_2 F6_3 (Or.inr ⟨(hw _ (List.mem_of_getElem? (i := 61) rfl)), rfl, hnm⟩) (hw _ (List.mem_of_getElem? (i := 50) rfl)) (ty := .long) (by decide) rfl rfl (g := (mkF m 17 #[.val (.ref a1), .val (.long q2), .second, .val (.long q3), .second, .val (.long q4), .second] [(.long q4), (.ref a1)])) rfl rfl (hb hby d9_17)
  have F8_0 := F6_0.other W8 (Or.inr (slot_ne (Or.inr (hw _ (List.mem_of_getElem? (i := 57) rfl))) (Or.inr (hw _ (List.mem_of_getElem? (i := 61) rfl))) (by decide) (t := .long) (t' := .long) (by decide) (by decide)))
  have F8_1 := F6_1.other W8 (Or.inr (slot_ne (Or.inr (hw _ (List.mem_of_getElem? (i := 59) rfl))) (Or.inr (hw _ (List.mem_of_getElem? (i := 61) rfl))) (by decide) (t := .long) (t' := .long) (by decide) (by decide)))
  have F8_2 := F6_2.same W8
  have F8_3 := F6_3.wr W8
  have Z8 : n0 ≤ h8.size := Nat.le_trans Z6 (Keep.of_wr W8).1
  have K8 := Keep.wr K6 W8 (Or.inl (List.mem_of_getElem? (i := 0) rfl))
  have N8 := Fr.snoc X8 N6 g_a1
  have pre8 : ∀ t, Steps p.tables e below (T8.setTop (mkF m 20 #[.val (.ref a1), .val (.long q2), .second, .val (.long q3), .second, .val (.long q4), .second] [])) t → Steps p.tables e below (s₁.setTop (entryFrame m #[(.ref a1), (.long q2), (.long q3), (.long q4)] 7)) t := fun t k => pre7 t (st8 _ k)
  obtain ⟨fs, hr, hrun, hended, hW, hsame⟩ := X8.leave (v := none) (fun _ => rfl)
  refine ⟨_, _, pre8 _ ?_, hrun, hended, _, _, rfl, ?_, ⟨_, rfl⟩, hW, hsame.mono (by decide) (by decide)⟩
  · show Steps p.tables e below (T8.setTop (mkF m 20 #[.val (.ref a1), .val (.long q2), .second, .val (.long q3), .second, .val (.long q4), .second] [])) _
    exact X8.returnOut hx Bd.returns (hb hby d9_20) hr
  · show QI Z a1 q2 q3 q4 h0 n0 _ T8.heap _
    rw [e8]
    exact ⟨rfl, N8, K8, F8_3, F8_0, F8_1, F8_2⟩
/-! body 10: timestamp -/
theorem d10_0 : decode prog_24_method_5_code 0 = .ok (.aload_n 0, 1) := by decide +kernel
theorem d10_1 : decode prog_24_method_5_code 1 = .ok (.getfield 7, 3) := by decide +kernel
theorem d10_4 : decode prog_24_method_5_code 4 = .ok (.lreturn, 1) := by decide +kernel
theorem pnGa : plainName "com/example/rimefall/rimefall/model/IdFields" = true := by first | (simp [plainName, overriddenIn]; done) | decide +kernel
theorem efGa (m : MethodId) (a1 : Addr) : entryFrame m #[(.ref a1)] 1 = mkF m 0 #[.val (.ref a1)] [] := by first | (simp [entryFrame, mkF, argsToLocals, Value.category]; done) | rfl
def fnGa (x_timestamp : Int64) : Int64 :=
  x_timestamp
def QGa (Z : State) (a1 : Addr) (x_timestamp : Int64) (h0 : Heap) (n0 : Nat) (v : Option Value) (h : Heap) (L : List Loc) : Prop := v = some (.long (fnGa x_timestamp)) ∧ Fr n0 L ∧ h = h0
set_option maxRecDepth 65536 in
set_option maxHeartbeats 40000000 in
theorem rmGa (l : Launch) (Z : State) (a0 : Array Value) (hw : ∀ d ∈ tables_1, d.before a0 Z = true) (ws : List Jvm.Cond) (a1 : Addr) (x_timestamp : Int64) (h0 : Heap) (n0 : Nat) (Z0 : n0 ≤ h0.size) (F_timestamp : Fld Z h0 a1 "com/example/rimefall/rimefall/model/IdFields" "timestamp" "J" (.long x_timestamp)) :
    MetFree l (⟨"com/example/rimefall/rimefall/model/IdFields", "timestamp", "()J"⟩ : MethodName) (head1 (Jvm.Cond.code (⟨"com/example/rimefall/rimefall/model/IdFields", "timestamp", "()J"⟩ : MethodName) prog_24_method_5_code 1 (some .long) :: ws) ({ frames := 0, cells := 0, slots := 0, locals := 0 } : Room)) (fun a U => a = #[(.ref a1)] ∧ Z.Warmed39 U.vm ∧ U.heap = h0) (fun _ _ _ _ _ => True) (fun _ U o U' => ∃ v L, o = .returned v ∧ QGa Z a1 x_timestamp h0 n0 v U'.heap L ∧ FrameEnd U o U' L ({ frames := 0, cells := 0, slots := 0, locals := 0 } : Room).cells ({ frames := 0, cells := 0, slots := 0, locals := 0 } : Room).slots) := by
  refine MetFree.of_bodySF (plainFor_of_name pnGa) hisR ?_
  intro p e s m args below meth c s₁ Bd hml0 hP hK
  obtain ⟨rfl, hZ, hh⟩ := hP
  have hx := Bd.exec
  have hby := Bd.bytes
  have hml : c.maxLocals = 1 := hml0
  have hown : s.vm.findClass "com/example/rimefall/rimefall/model/IdFields" = some m.cls := findClass_of_methodNamed Bd.named
  have hnm := (name_of_methodNamed Bd.named Bd.method).1
  have X0 : Stand p l e ({ frames := 0, cells := 0, slots := 0, locals := 0 } : Room) s m #[(.ref a1)] below meth c s₁ [] 0 0 := Stand.of_body Bd
  have e0 : s₁.heap = h0 := by rw [← hh, Bd.state]; rfl
  have N0 := Fr.nil n0
  have pre0 : ∀ t, Steps p.tables e below (s₁.setTop (mkF m 0 #[.val (.ref a1)] [])) t → Steps p.tables e below (s₁.setTop (entryFrame m #[(.ref a1)] 1)) t := fun t k => castTop (efGa m a1) k
  have pre1 : ∀ t, Steps p.tables e below (s₁.setTop (mkF m 1 #[.val (.ref a1)] [(.ref a1)])) t → Steps p.tables e below (s₁.setTop (entryFrame m #[(.ref a1)] 1)) t := by
    intro t k
    refine pre0 t ?_
    show Steps p.tables e below (s₁.setTop (mkF m 0 #[.val (.ref a1)] [])) _
    refine XS.aloadN X0.here hx rfl (hb hby d10_0) rfl rfl ?_
    show Steps p.tables e below (s₁.setTop (mkF m 1 #[.val (.ref a1)] [(.ref a1)])) _
    exact k
  obtain ⟨T2, X2, e2, st2⟩ := getF X0 hx hZ hown (host := "") (Or.inl (hw _ (List.mem_of_getElem? (i := 56) rfl))) Via.refl e0 F_timestamp (g := (mkF m 1 #[.val (.ref a1)] [(.ref a1)])) rfl rfl (hb hby d10_1)
  have pre2 : ∀ t, Steps p.tables e below (T2.setTop (mkF m 4 #[.val (.ref a1)] [(.long x_timestamp)])) t → Steps p.tables e below (s₁.setTop (entryFrame m #[(.ref a1)] 1)) t := fun t k => pre1 t (st2 _ k)
  obtain ⟨fs, hr, hrun, hended, hW, hsame⟩ := X2.leave (v := some (.long x_timestamp)) (fun h => by rw [Bd.returns] at h; cases h)
  refine ⟨_, _, pre2 _ ?_, hrun, hended, _, _, rfl, ?_, ⟨_, rfl⟩, hW, hsame.mono (by decide) (by decide)⟩
  · show Steps p.tables e below (T2.setTop (mkF m 4 #[.val (.ref a1)] [(.long x_timestamp)])) _
    exact own_retJ X2 hx Bd.returns (hb hby d10_4) hr
  · show QGa Z a1 x_timestamp h0 n0 _ T2.heap _
    rw [e2]
    refine ⟨?_, N0, rfl⟩
    simp only [fnGa]
/-! body 11: node -/
theorem d11_0 : decode prog_24_method_6_code 0 = .ok (.aload_n 0, 1) := by decide +kernel
theorem d11_1 : decode prog_24_method_6_code 1 = .ok (.getfield 13, 3) := by decide +kernel
theorem d11_4 : decode prog_24_method_6_code 4 = .ok (.lreturn, 1) := by decide +kernel
theorem pnGb : plainName "com/example/rimefall/rimefall/model/IdFields" = true := by first | (simp [plainName, overriddenIn]; done) | decide +kernel
theorem efGb (m : MethodId) (a1 : Addr) : entryFrame m #[(.ref a1)] 1 = mkF m 0 #[.val (.ref a1)] [] := by first | (simp [entryFrame, mkF, argsToLocals, Value.category]; done) | rfl
def fnGb (x_node : Int64) : Int64 :=
  x_node
def QGb (Z : State) (a1 : Addr) (x_node : Int64) (h0 : Heap) (n0 : Nat) (v : Option Value) (h : Heap) (L : List Loc) : Prop := v = some (.long (fnGb x_node)) ∧ Fr n0 L ∧ h = h0
set_option maxRecDepth 65536 in
set_option maxHeartbeats 40000000 in
theorem rmGb (l : Launch) (Z : State) (a0 : Array Value) (hw : ∀ d ∈ tables_1, d.before a0 Z = true) (ws : List Jvm.Cond) (a1 : Addr) (x_node : Int64) (h0 : Heap) (n0 : Nat) (Z0 : n0 ≤ h0.size) (F_node : Fld Z h0 a1 "com/example/rimefall/rimefall/model/IdFields" "node" "J" (.long x_node)) :
    MetFree l (⟨"com/example/rimefall/rimefall/model/IdFields", "node", "()J"⟩ : MethodName) (head1 (Jvm.Cond.code (⟨"com/example/rimefall/rimefall/model/IdFields", "node", "()J"⟩ : MethodName) prog_24_method_6_code 1 (some .long) :: ws) ({ frames := 0, cells := 0, slots := 0, locals := 0 } : Room)) (fun a U => a = #[(.ref a1)] ∧ Z.Warmed39 U.vm ∧ U.heap = h0) (fun _ _ _ _ _ => True) (fun _ U o U' => ∃ v L, o = .returned v ∧ QGb Z a1 x_node h0 n0 v U'.heap L ∧ FrameEnd U o U' L ({ frames := 0, cells := 0, slots := 0, locals := 0 } : Room).cells ({ frames := 0, cells := 0, slots := 0, locals := 0 } : Room).slots) := by
  refine MetFree.of_bodySF (plainFor_of_name pnGb) hisR ?_
  intro p e s m args below meth c s₁ Bd hml0 hP hK
  obtain ⟨rfl, hZ, hh⟩ := hP
  have hx := Bd.exec
  have hby := Bd.bytes
  have hml : c.maxLocals = 1 := hml0
  have hown : s.vm.findClass "com/example/rimefall/rimefall/model/IdFields" = some m.cls := findClass_of_methodNamed Bd.named
  have hnm := (name_of_methodNamed Bd.named Bd.method).1
  have X0 : Stand p l e ({ frames := 0, cells := 0, slots := 0, locals := 0 } : Room) s m #[(.ref a1)] below meth c s₁ [] 0 0 := Stand.of_body Bd
  have e0 : s₁.heap = h0 := by rw [← hh, Bd.state]; rfl
  have N0 := Fr.nil n0
  have pre0 : ∀ t, Steps p.tables e below (s₁.setTop (mkF m 0 #[.val (.ref a1)] [])) t → Steps p.tables e below (s₁.setTop (entryFrame m #[(.ref a1)] 1)) t := fun t k => castTop (efGb m a1) k
  have pre1 : ∀ t, Steps p.tables e below (s₁.setTop (mkF m 1 #[.val (.ref a1)] [(.ref a1)])) t → Steps p.tables e below (s₁.setTop (entryFrame m #[(.ref a1)] 1)) t := by
    intro t k
    refine pre0 t ?_
    show Steps p.tables e below (s₁.setTop (mkF m 0 #[.val (.ref a1)] [])) _
    refine XS.aloadN X0.here hx rfl (hb hby d11_0) rfl rfl ?_
    show Steps p.tables e below (s₁.setTop (mkF m 1 #[.val (.ref a1)] [(.ref a1)])) _
    exact k
  obtain ⟨T2, X2, e2, st2⟩ := getF X0 hx hZ hown (host := "") (Or.inl (hw _ (List.mem_of_getElem? (i := 58) rfl))) Via.refl e0 F_node (g := (mkF m 1 #[.val (.ref a1)] [(.ref a1)])) rfl rfl (hb hby d11_1)
  have pre2 : ∀ t, Steps p.tables e below (T2.setTop (mkF m 4 #[.val (.ref a1)] [(.long x_node)])) t → Steps p.tables e below (s₁.setTop (entryFrame m #[(.ref a1)] 1)) t := fun t k => pre1 t (st2 _ k)
  obtain ⟨fs, hr, hrun, hended, hW, hsame⟩ := X2.leave (v := some (.long x_node)) (fun h => by rw [Bd.returns] at h; cases h)
  refine ⟨_, _, pre2 _ ?_, hrun, hended, _, _, rfl, ?_, ⟨_, rfl⟩, hW, hsame.mono (by decide) (by decide)⟩
  · show Steps p.tables e below (T2.setTop (mkF m 4 #[.val (.ref a1)] [(.long x_node)])) _
    exact own_retJ X2 hx Bd.returns (hb hby d11_4) hr
  · show QGb Z a1 x_node h0 n0 _ T2.heap _
    rw [e2]
    refine ⟨?_, N0, rfl⟩
    simp only [fnGb]
/-! body 12: sequence -/
theorem d12_0 : decode prog_24_method_7_code 0 = .ok (.aload_n 0, 1) := by decide +kernel
theorem d12_1 : decode prog_24_method_7_code 1 = .ok (.getfield 16, 3) := by decide +kernel
theorem d12_4 : decode prog_24_method_7_code 4 = .ok (.lreturn, 1) := by decide +kernel
theorem pnGc : plainName "com/example/rimefall/rimefall/model/IdFields" = true := by first | (simp [plainName, overriddenIn]; done) | decide +kernel
theorem efGc (m : MethodId) (a1 : Addr) : entryFrame m #[(.ref a1)] 1 = mkF m 0 #[.val (.ref a1)] [] := by first | (simp [entryFrame, mkF, argsToLocals, Value.category]; done) | rfl
def fnGc (x_sequence : Int64) : Int64 :=
  x_sequence
def QGc (Z : State) (a1 : Addr) (x_sequence : Int64) (h0 : Heap) (n0 : Nat) (v : Option Value) (h : Heap) (L : List Loc) : Prop := v = some (.long (fnGc x_sequence)) ∧ Fr n0 L ∧ h = h0
set_option maxRecDepth 65536 in
set_option maxHeartbeats 40000000 in
theorem rmGc (l : Launch) (Z : State) (a0 : Array Value) (hw : ∀ d ∈ tables_1, d.before a0 Z = true) (ws : List Jvm.Cond) (a1 : Addr) (x_sequence : Int64) (h0 : Heap) (n0 : Nat) (Z0 : n0 ≤ h0.size) (F_sequence : Fld Z h0 a1 "com/example/rimefall/rimefall/model/IdFields" "sequence" "J" (.long x_sequence)) :
    MetFree l (⟨"com/example/rimefall/rimefall/model/IdFields", "sequence", "()J"⟩ : MethodName) (head1 (Jvm.Cond.code (⟨"com/example/rimefall/rimefall/model/IdFields", "sequence", "()J"⟩ : MethodName) prog_24_method_7_code 1 (some .long) :: ws) ({ frames := 0, cells := 0, slots := 0, locals := 0 } : Room)) (fun a U => a = #[(.ref a1)] ∧ Z.Warmed39 U.vm ∧ U.heap = h0) (fun _ _ _ _ _ => True) (fun _ U o U' => ∃ v L, o = .returned v ∧ QGc Z a1 x_sequence h0 n0 v U'.heap L ∧ FrameEnd U o U' L ({ frames := 0, cells := 0, slots := 0, locals := 0 } : Room).cells ({ frames := 0, cells := 0, slots := 0, locals := 0 } : Room).slots) := by
  refine MetFree.of_bodySF (plainFor_of_name pnGc) hisR ?_
  intro p e s m args below meth c s₁ Bd hml0 hP hK
  obtain ⟨rfl, hZ, hh⟩ := hP
  have hx := Bd.exec
  have hby := Bd.bytes
  have hml : c.maxLocals = 1 := hml0
  have hown : s.vm.findClass "com/example/rimefall/rimefall/model/IdFields" = some m.cls := findClass_of_methodNamed Bd.named
  have hnm := (name_of_methodNamed Bd.named Bd.method).1
  have X0 : Stand p l e ({ frames := 0, cells := 0, slots := 0, locals := 0 } : Room) s m #[(.ref a1)] below meth c s₁ [] 0 0 := Stand.of_body Bd
  have e0 : s₁.heap = h0 := by rw [← hh, Bd.state]; rfl
  have N0 := Fr.nil n0
  have pre0 : ∀ t, Steps p.tables e below (s₁.setTop (mkF m 0 #[.val (.ref a1)] [])) t → Steps p.tables e below (s₁.setTop (entryFrame m #[(.ref a1)] 1)) t := fun t k => castTop (efGc m a1) k
  have pre1 : ∀ t, Steps p.tables e below (s₁.setTop (mkF m 1 #[.val (.ref a1)] [(.ref a1)])) t → Steps p.tables e below (s₁.setTop (entryFrame m #[(.ref a1)] 1)) t := by
    intro t k
    refine pre0 t ?_
    show Steps p.tables e below (s₁.setTop (mkF m 0 #[.val (.ref a1)] [])) _
    refine XS.aloadN X0.here hx rfl (hb hby d12_0) rfl rfl ?_
    show Steps p.tables e below (s₁.setTop (mkF m 1 #[.val (.ref a1)] [(.ref a1)])) _
    exact k
  obtain ⟨T2, X2, e2, st2⟩ := getF X0 hx hZ hown (host := "") (Or.inl (hw _ (List.mem_of_getElem? (i := 60) rfl))) Via.refl e0 F_sequence (g := (mkF m 1 #[.val (.ref a1)] [(.ref a1)])) rfl rfl (hb hby d12_1)
  have pre2 : ∀ t, Steps p.tables e below (T2.setTop (mkF m 4 #[.val (.ref a1)] [(.long x_sequence)])) t → Steps p.tables e below (s₁.setTop (entryFrame m #[(.ref a1)] 1)) t := fun t k => pre1 t (st2 _ k)
  obtain ⟨fs, hr, hrun, hended, hW, hsame⟩ := X2.leave (v := some (.long x_sequence)) (fun h => by rw [Bd.returns] at h; cases h)
  refine ⟨_, _, pre2 _ ?_, hrun, hended, _, _, rfl, ?_, ⟨_, rfl⟩, hW, hsame.mono (by decide) (by decide)⟩
  · show Steps p.tables e below (T2.setTop (mkF m 4 #[.val (.ref a1)] [(.long x_sequence)])) _
    exact own_retJ X2 hx Bd.returns (hb hby d12_4) hr
  · show QGc Z a1 x_sequence h0 n0 _ T2.heap _
    rw [e2]
    refine ⟨?_, N0, rfl⟩
    simp only [fnGc]
/-! body 5: decode -/
theorem d5_0 : decode prog_25_method_7_code 0 = .ok (.aload_n 0, 1) := by decide +kernel
theorem d5_1 : decode prog_25_method_7_code 1 = .ok (.invokevirtual 65, 3) := by decide +kernel
theorem d5_4 : decode prog_25_method_7_code 4 = .ok (.bipush 64, 2) := by decide +kernel
theorem d5_6 : decode prog_25_method_7_code 6 = .ok (.if_icmp .ge 50, 3) := by decide +kernel
theorem d5_9 : decode prog_25_method_7_code 9 = .ok (.lload_n 1, 1) := by decide +kernel
theorem d5_10 : decode prog_25_method_7_code 10 = .ok (.aload_n 0, 1) := by decide +kernel
theorem d5_11 : decode prog_25_method_7_code 11 = .ok (.invokevirtual 65, 3) := by decide +kernel
theorem d5_14 : decode prog_25_method_7_code 14 = .ok (.lushr, 1) := by decide +kernel
theorem d5_15 : decode prog_25_method_7_code 15 = .ok (.lconst 0, 1) := by decide +kernel
theorem d5_16 : decode prog_25_method_7_code 16 = .ok (.lcmp, 1) := by decide +kernel
theorem d5_17 : decode prog_25_method_7_code 17 = .ok (.ifCond .eq 39, 3) := by decide +kernel
theorem d5_56 : decode prog_25_method_7_code 56 = .ok (.lload_n 1, 1) := by decide +kernel
theorem d5_57 : decode prog_25_method_7_code 57 = .ok (.aload_n 0, 1) := by decide +kernel
theorem d5_58 : decode prog_25_method_7_code 58 = .ok (.getfield 45, 3) := by decide +kernel
theorem d5_61 : decode prog_25_method_7_code 61 = .ok (.aload_n 0, 1) := by decide +kernel
theorem d5_62 : decode prog_25_method_7_code 62 = .ok (.getfield 48, 3) := by decide +kernel
theorem d5_65 : decode prog_25_method_7_code 65 = .ok (.iadd, 1) := by decide +kernel
theorem d5_66 : decode prog_25_method_7_code 66 = .ok (.lushr, 1) := by decide +kernel
theorem d5_67 : decode prog_25_method_7_code 67 = .ok (.lstore_n 3, 1) := by decide +kernel
theorem d5_68 : decode prog_25_method_7_code 68 = .ok (.lload_n 1, 1) := by decide +kernel
theorem d5_69 : decode prog_25_method_7_code 69 = .ok (.aload_n 0, 1) := by decide +kernel
theorem d5_70 : decode prog_25_method_7_code 70 = .ok (.getfield 48, 3) := by decide +kernel
theorem d5_73 : decode prog_25_method_7_code 73 = .ok (.lushr, 1) := by decide +kernel
theorem d5_74 : decode prog_25_method_7_code 74 = .ok (.aload_n 0, 1) := by decide +kernel
theorem d5_75 : decode prog_25_method_7_code 75 = .ok (.invokevirtual 75, 3) := by decide +kernel
theorem d5_78 : decode prog_25_method_7_code 78 = .ok (.land, 1) := by decide +kernel
theorem d5_79 : decode prog_25_method_7_code 79 = .ok (.lstore 5, 2) := by decide +kernel
theorem d5_81 : decode prog_25_method_7_code 81 = .ok (.lload_n 1, 1) := by decide +kernel
theorem d5_82 : decode prog_25_method_7_code 82 = .ok (.aload_n 0, 1) := by decide +kernel
theorem d5_83 : decode prog_25_method_7_code 83 = .ok (.invokevirtual 79, 3) := by decide +kernel
theorem d5_86 : decode prog_25_method_7_code 86 = .ok (.land, 1) := by decide +kernel
theorem d5_87 : decode prog_25_method_7_code 87 = .ok (.lstore 7, 2) := by decide +kernel
theorem d5_89 : decode prog_25_method_7_code 89 = .ok (.new 82, 3) := by decide +kernel
theorem d5_92 : decode prog_25_method_7_code 92 = .ok (.dup, 1) := by decide +kernel
theorem d5_93 : decode prog_25_method_7_code 93 = .ok (.lload_n 3, 1) := by decide +kernel
theorem d5_94 : decode prog_25_method_7_code 94 = .ok (.lload 5, 2) := by decide +kernel
theorem d5_96 : decode prog_25_method_7_code 96 = .ok (.lload 7, 2) := by decide +kernel
theorem d5_98 : decode prog_25_method_7_code 98 = .ok (.invokespecial 84, 3) := by decide +kernel
theorem d5_101 : decode prog_25_method_7_code 101 = .ok (.areturn, 1) := by decide +kernel
theorem pdD_0 : parseMethodDescriptor "()I" = some ⟨[], some .int⟩ := by decide +kernel
theorem pdD_1 : parseMethodDescriptor "()J" = some ⟨[], some .long⟩ := by decide +kernel
theorem pdD_2 : parseMethodDescriptor "(JJJ)V" = some ⟨[.long, .long, .long], none⟩ := by decide +kernel
theorem pnD : plainName "com/example/rimefall/rimefall/model/Layout" = true := by first | (simp [plainName, overriddenIn]; done) | decide +kernel
theorem efD (m : MethodId) (a1 : Addr) (q2 : Int64) : entryFrame m #[(.ref a1), (.long q2)] 9 = mkF m 0 #[.val (.ref a1), .val (.long q2), .second, .unset, .unset, .unset, .unset, .unset, .unset] [] := by first | (simp [entryFrame, mkF, argsToLocals, Value.category]; done) | rfl
def QD (Z : State) (a1 : Addr) (q2 : Int64) (x_timestampBits : Int32) (x_nodeBits : Int32) (x_sequenceBits : Int32) (h0 : Heap) (n0 : Nat) (v : Option Value) (h : Heap) (L : List Loc) : Prop := ∃ b : Addr, v = some (.ref b) ∧ Fr n0 L ∧ Keep h0 h [] ∧ n0 ≤ b ∧ Exa Z h b "com/example/rimefall/rimefall/model/IdFields" ∧ Fld Z h b "com/example/rimefall/rimefall/model/IdFields" "timestamp" "J" (.long ((q2.toUInt64 >>> ((x_nodeBits + x_sequenceBits) &&& 0x3f).toInt64.toUInt64).toInt64)) ∧ Fld Z h b "com/example/rimefall/rimefall/model/IdFields" "node" "J" (.long (((q2.toUInt64 >>> (x_sequenceBits &&& 0x3f).toInt64.toUInt64).toInt64) &&& (fnY x_nodeBits))) ∧ Fld Z h b "com/example/rimefall/rimefall/model/IdFields" "sequence" "J" (.long (q2 &&& (fnW x_sequenceBits)))
set_option maxRecDepth 65536 in
set_option maxHeartbeats 40000000 in
theorem rmD (l : Launch) (Z : State) (a0 : Array Value) (hw : ∀ d ∈ tables_1, d.before a0 Z = true) (ws : List Jvm.Cond) (a1 : Addr) (q2 : Int64) (x_timestampBits : Int32) (x_nodeBits : Int32) (x_sequenceBits : Int32) (h0 : Heap) (n0 : Nat) (Z0 : n0 ≤ h0.size) (E_a1 : Exa Z h0 a1 "com/example/rimefall/rimefall/model/Layout") (F_timestampBits : Fld Z h0 a1 "com/example/rimefall/rimefall/model/Layout" "timestampBits" "I" (.int x_timestampBits)) (F_nodeBits : Fld Z h0 a1 "com/example/rimefall/rimefall/model/Layout" "nodeBits" "I" (.int x_nodeBits)) (F_sequenceBits : Fld Z h0 a1 "com/example/rimefall/rimefall/model/Layout" "sequenceBits" "I" (.int x_sequenceBits)) (hz : (fnT x_timestampBits x_nodeBits x_sequenceBits) < (64 : Int32) → ((q2.toUInt64 >>> ((fnT x_timestampBits x_nodeBits x_sequenceBits) &&& 0x3f).toInt64.toUInt64).toInt64) = (0 : Int64)) :
    MetFree l (⟨"com/example/rimefall/rimefall/model/Layout", "decode", "(J)Lcom/example/rimefall/rimefall/model/IdFields;"⟩ : MethodName) (head1 (Jvm.Cond.code (⟨"com/example/rimefall/rimefall/model/Layout", "decode", "(J)Lcom/example/rimefall/rimefall/model/IdFields;"⟩ : MethodName) prog_25_method_7_code 9 (some (.object "com/example/rimefall/rimefall/model/IdFields")) :: ws) ({ frames := 3, cells := 1, slots := 3, locals := 43 } : Room)) (fun a U => a = #[(.ref a1), (.long q2)] ∧ Z.Warmed39 U.vm ∧ U.heap = h0) (fun _ _ _ _ _ => True) (fun _ U o U' => ∃ v L, o = .returned v ∧ QD Z a1 q2 x_timestampBits x_nodeBits x_sequenceBits h0 n0 v U'.heap L ∧ FrameEnd U o U' L ({ frames := 3, cells := 1, slots := 3, locals := 43 } : Room).cells ({ frames := 3, cells := 1, slots := 3, locals := 43 } : Room).slots) := by
  refine MetFree.of_bodySF (plainFor_of_name pnD) hisR ?_
  intro p e s m args below meth c s₁ Bd hml0 hP hK
  obtain ⟨rfl, hZ, hh⟩ := hP
  have hx := Bd.exec
  have hby := Bd.bytes
  have hml : c.maxLocals = 9 := hml0
  have hown : s.vm.findClass "com/example/rimefall/rimefall/model/Layout" = some m.cls := findClass_of_methodNamed Bd.named
  have hnm := (name_of_methodNamed Bd.named Bd.method).1
  have X0 : Stand p l e ({ frames := 3, cells := 1, slots := 3, locals := 43 } : Room) s m #[(.ref a1), (.long q2)] below meth c s₁ [] 0 0 := Stand.of_body Bd
  have e0 : s₁.heap = h0 := by rw [← hh, Bd.state]; rfl
  have N0 := Fr.nil n0
  have pre0 : ∀ t, Steps p.tables e below (s₁.setTop (mkF m 0 #[.val (.ref a1), .val (.long q2), .second, .unset, .unset, .unset, .unset, .unset, .unset] [])) t → Steps p.tables e below (s₁.setTop (entryFrame m #[(.ref a1), (.long q2)] 9)) t := fun t k => castTop (efD m a1 q2) k
  have K0 := Keep.refl h0 []
  have pre1 : ∀ t, Steps p.tables e below (s₁.setTop (mkF m 1 #[.val (.ref a1), .val (.long q2), .second, .unset, .unset, .unset, .unset, .unset, .unset] [(.ref a1)])) t → Steps p.tables e below (s₁.setTop (entryFrame m #[(.ref a1), (.long q2)] 9)) t := by
    intro t k
    refine pre0 t ?_
    show Steps p.tables e below (s₁.setTop (mkF m 0 #[.val (.ref a1), .val (.long q2), .second, .unset, .unset, .unset, .unset, .unset, .unset] [])) _
    refine XS.aloadN X0.here hx rfl (hb hby d5_0) rfl rfl ?_
    show Steps p.tables e below (s₁.setTop (mkF m 1 #[.val (.ref a1), .val (.long q2), .second, .unset, .unset, .unset, .unset, .unset, .unset] [(.ref a1)])) _
    exact k
  obtain ⟨cq2, kq2, qa2, qb2, qc2⟩ := isOf hZ e0 E_a1
  obtain ⟨_, _, ⟨T2, L2, k2, n2⟩, -, X2, ⟨Lc2, hQ2, l2, y2, z2⟩, st2⟩ := X0.virtualBack hx (y := (⟨"com/example/rimefall/rimefall/model/Layout", "totalBits", "()I"⟩ : MethodName)) (z := (⟨"com/example/rimefall/rimefall/model/Layout", "totalBits", "()I"⟩ : MethodName)) hown (mvT hZ (hw _ (List.mem_of_getElem? (i := 34) rfl))) (mvT hZ (hw _ (List.mem_of_getElem? (i := 35) rfl))) (notFace_of_selects (args := #[]) (mvT hZ (hw _ (List.mem_of_getElem? (i := 37) rfl)))) (mvT hZ (hw _ (List.mem_of_getElem? (i := 37) rfl))) (mvT hZ (hw _ (List.mem_of_getElem? (i := 36) rfl))) (by decide) (backOf (W := 0) (rmT l Z a0 hw [] a1 x_timestampBits x_nodeBits x_sequenceBits h0 n0 Z0 F_timestampBits F_nodeBits F_sequenceBits) hZ (hw _ (List.mem_of_getElem? (i := 38) rfl)) (hw _ (List.mem_of_getElem? (i := 3) rfl)) (by decide) (by decide)) qa2 qc2 (g := (mkF m 1 #[.val (.ref a1), .val (.long q2), .second, .unset, .unset, .unset, .unset, .unset, .unset] [(.ref a1)])) rfl (by rw [hml]; rfl) (Steps.refl _) (argsL := []) (rest := []) (lenOf pdD_0 rfl) rfl (by show 2 * 0 + _ ≤ _; exact Nat.le_of_eq rfl) (hb hby d5_1) (fun _ _ => ⟨rfl, e0, (by decide : 0 + 0 ≤ _), (by decide : 0 + 0 ≤ _)⟩)
  dsimp only [Pt.U, Pt.locs, Pt.cells, Pt.slots] at X2 l2 y2 z2 st2 hQ2
  subst l2 y2 z2
  obtain ⟨rfl, Nq2, e2⟩ := hQ2
  have N2 := Fr.app N0 Nq2
  have pre2 : ∀ t, Steps p.tables e below (T2.setTop (mkF m 4 #[.val (.ref a1), .val (.long q2), .second, .unset, .unset, .unset, .unset, .unset, .unset] [(.int (fnT x_timestampBits x_nodeBits x_sequenceBits))])) t → Steps p.tables e below (s₁.setTop (entryFrame m #[(.ref a1), (.long q2)] 9)) t := fun t k => pre1 t (st2.trans k)
  have pre3 : ∀ t, Steps p.tables e below (T2.setTop (mkF m 6 #[.val (.ref a1), .val (.long q2), .second, .unset, .unset, .unset, .unset, .unset, .unset] [(.int (64 : Int32)), (.int (fnT x_timestampBits x_nodeBits x_sequenceBits))])) t → Steps p.tables e below (s₁.setTop (entryFrame m #[(.ref a1), (.long q2)] 9)) t := by
    intro t k
    refine pre2 t ?_
    refine XS.bipush X2.here hx rfl (hb hby d5_4) ?_
    show Steps p.tables e below (T2.setTop (mkF m 6 #[.val (.ref a1), .val (.long q2), .second, .unset, .unset, .unset, .unset, .unset, .unset] [(.int (64 : Int32)), (.int (fnT x_timestampBits x_nodeBits x_sequenceBits))])) _
    exact k
  by_cases hc6 : (fnT x_timestampBits x_nodeBits x_sequenceBits) < (64 : Int32)
  · have pre4 : ∀ t, Steps p.tables e below (T2.setTop (mkF m 11 #[.val (.ref a1), .val (.long q2), .second, .unset, .unset, .unset, .unset, .unset, .unset] [(.ref a1), (.long q2)])) t → Steps p.tables e below (s₁.setTop (entryFrame m #[(.ref a1), (.long q2)] 9)) t := by
      intro t k
      refine pre3 t ?_
      refine XS.icmpNo X2.here hx rfl (hb hby d5_6) rfl (tlt hc6).2.1 ?_
      show Steps p.tables e below (T2.setTop (mkF m 9 #[.val (.ref a1), .val (.long q2), .second, .unset, .unset, .unset, .unset, .unset, .unset] [])) _
      refine XS.lloadN X2.here hx rfl (hb hby d5_9) rfl ?_
      show Steps p.tables e below (T2.setTop (mkF m 10 #[.val (.ref a1), .val (.long q2), .second, .unset, .unset, .unset, .unset, .unset, .unset] [(.long q2)])) _
      refine XS.aloadN X2.here hx rfl (hb hby d5_10) rfl rfl ?_
      show Steps p.tables e below (T2.setTop (mkF m 11 #[.val (.ref a1), .val (.long q2), .second, .unset, .unset, .unset, .unset, .unset, .unset] [(.ref a1), (.long q2)])) _
      exact k
    obtain ⟨cq5, kq5, qa5, qb5, qc5⟩ := isOf hZ e2 E_a1
    obtain ⟨_, _, ⟨T5, L5, k5, n5⟩, -, X5, ⟨Lc5, hQ5, l5, y5, z5⟩, st5⟩ := X2.virtualBack hx (y := (⟨"com/example/rimefall/rimefall/model/Layout", "totalBits", "()I"⟩ : MethodName)) (z := (⟨"com/example/rimefall/rimefall/model/Layout", "totalBits", "()I"⟩ : MethodName)) hown (mvT hZ (hw _ (List.mem_of_getElem? (i := 34) rfl))) (mvT hZ (hw _ (List.mem_of_getElem? (i := 35) rfl))) (notFace_of_selects (args := #[]) (mvT hZ (hw _ (List.mem_of_getElem? (i := 37) rfl)))) (mvT hZ (hw _ (List.mem_of_getElem? (i := 37) rfl))) (mvT hZ (hw _ (List.mem_of_getElem? (i := 36) rfl))) (by decide) (backOf (W := 2) (rmT l Z a0 hw [] a1 x_timestampBits x_nodeBits x_sequenceBits h0 n0 Z0 F_timestampBits F_nodeBits F_sequenceBits) hZ (hw _ (List.mem_of_getElem? (i := 38) rfl)) (hw _ (List.mem_of_getElem? (i := 3) rfl)) (by decide) (by decide)) qa5 qc5 (g := (mkF m 11 #[.val (.ref a1), .val (.long q2), .second, .unset, .unset, .unset, .unset, .unset, .unset] [(.ref a1), (.long q2)])) rfl (by rw [hml]; rfl) (Steps.refl _) (argsL := []) (rest := [(.long q2)]) (lenOf pdD_0 rfl) rfl (by show 2 * 0 + _ ≤ _; exact Nat.le_of_eq rfl) (hb hby d5_11) (fun _ _ => ⟨rfl, e2, (by decide : 0 + 0 ≤ _), (by decide : 0 + 0 ≤ _)⟩)
    dsimp only [Pt.U, Pt.locs, Pt.cells, Pt.slots] at X5 l5 y5 z5 st5 hQ5
    subst l5 y5 z5
    obtain ⟨rfl, Nq5, e5⟩ := hQ5
    have N5 := Fr.app N2 Nq5
    have pre5 : ∀ t, Steps p.tables e below (T5.setTop (mkF m 14 #[.val (.ref a1), .val (.long q2), .second, .unset, .unset, .unset, .unset, .unset, .unset] [(.int (fnT x_timestampBits x_nodeBits x_sequenceBits)), (.long q2)])) t → Steps p.tables e below (s₁.setTop (entryFrame m #[(.ref a1), (.long q2)] 9)) t := fun t k => pre4 t (st5.trans k)
    have pre6 : ∀ t, Steps p.tables e below (T5.setTop (mkF m 58 #[.val (.ref a1), .val (.long q2), .second, .unset, .unset, .unset, .unset, .unset, .unset] [(.ref a1), (.long q2)])) t → Steps p.tables e below (s₁.setTop (entryFrame m #[(.ref a1), (.long q2)] 9)) t := by
      intro t k
      refine pre5 t ?_
      refine XS.lushr X5.here hx rfl (hb hby d5_14) rfl ?_
      show Steps p.tables e below (T5.setTop (mkF m 15 #[.val (.ref a1), .val (.long q2), .second, .unset, .unset, .unset, .unset, .unset, .unset] [(.long ((q2.toUInt64 >>> ((fnT x_timestampBits x_nodeBits x_sequenceBits) &&& 0x3f).toInt64.toUInt64).toInt64))])) _
      refine XS.lconst X5.here hx rfl (hb hby d5_15) ?_
      show Steps p.tables e below (T5.setTop (mkF m 16 #[.val (.ref a1), .val (.long q2), .second, .unset, .unset, .unset, .unset, .unset, .unset] [(.long (0 : Int64)), (.long ((q2.toUInt64 >>> ((fnT x_timestampBits x_nodeBits x_sequenceBits) &&& 0x3f).toInt64.toUInt64).toInt64))])) _
      refine XS.lcmp X5.here hx rfl (hb hby d5_16) rfl ?_
      show Steps p.tables e below (T5.setTop (mkF m 17 #[.val (.ref a1), .val (.long q2), .second, .unset, .unset, .unset, .unset, .unset, .unset] [(.int (lcmpW ((q2.toUInt64 >>> ((fnT x_timestampBits x_nodeBits x_sequenceBits) &&& 0x3f).toInt64.toUInt64).toInt64) (0 : Int64)))])) _
      refine XS.ifYes X5.here hx rfl (pc0 := 17) (pc' := 56) rfl (hb hby d5_17) rfl (own_Teq (hz hc6)).1 (by decide) (by decide) ?_
      show Steps p.tables e below (T5.setTop (mkF m 56 #[.val (.ref a1), .val (.long q2), .second, .unset, .unset, .unset, .unset, .unset, .unset] [])) _
      refine XS.lloadN X5.here hx rfl (hb hby d5_56) rfl ?_
      show Steps p.tables e below (T5.setTop (mkF m 57 #[.val (.ref a1), .val (.long q2), .second, .unset, .unset, .unset, .unset, .unset, .unset] [(.long q2)])) _
      refine XS.aloadN X5.here hx rfl (hb hby d5_57) rfl rfl ?_
      show Steps p.tables e below (T5.setTop (mkF m 58 #[.val (.ref a1), .val (.long q2), .second, .unset, .unset, .unset, .unset, .unset, .unset] [(.ref a1), (.long q2)])) _
      exact k
    obtain ⟨T7, X7, e7, st7⟩ := getF X5 hx hZ hown (host := "") (Or.inl (hw _ (List.mem_of_getElem? (i := 23) rfl))) Via.refl e5 F_nodeBits (g := (mkF m 58 #[.val (.ref a1), .val (.long q2), .second, .unset, .unset, .unset, .unset, .unset, .unset] [(.ref a1), (.long q2)])) rfl rfl (hb hby d5_58)
    have pre7 : ∀ t, Steps p.tables e below (T7.setTop (mkF m 61 #[.val (.ref a1), .val (.long q2), .second, .unset, .unset, .unset, .unset, .unset, .unset] [(.int x_nodeBits), (.long q2)])) t → Steps p.tables e below (s₁.setTop (entryFrame m #[(.ref a1), (.long q2)] 9)) t := fun t k => pre6 t (st7 _ k)
    have pre8 : ∀ t, Steps p.tables e below (T7.setTop (mkF m 62 #[.val (.ref a1), .val (.long q2), .second, .unset, .unset, .unset, .unset, .unset, .unset] [(.ref a1), (.int x_nodeBits), (.long q2)])) t → Steps p.tables e below (s₁.setTop (entryFrame m #[(.ref a1), (.long q2)] 9)) t := by
      intro t k
      refine pre7 t ?_
      refine XS.aloadN X7.here hx rfl (hb hby d5_61) rfl rfl ?_
      show Steps p.tables e below (T7.setTop (mkF m 62 #[.val (.ref a1), .val (.long q2), .second, .unset, .unset, .unset, .unset, .unset, .unset] [(.ref a1), (.int x_nodeBits), (.long q2)])) _
      exact k
    obtain ⟨T9, X9, e9, st9⟩ := getF X7 hx hZ hown (host := "") (Or.inl (hw _ (List.mem_of_getElem? (i := 25) rfl))) Via.refl e7 F_sequenceBits (g := (mkF m 62 #[.val (.ref a1), .val (.long q2), .second, .unset, .unset, .unset, .unset, .unset, .unset] [(.ref a1), (.int x_nodeBits), (.long q2)])) rfl rfl (hb hby d5_62)
    have pre9 : ∀ t, Steps p.tables e below (T9.setTop (mkF m 65 #[.val (.ref a1), .val (.long q2), .second, .unset, .unset, .unset, .unset, .unset, .unset] [(.int x_sequenceBits), (.int x_nodeBits), (.long q2)])) t → Steps p.tables e below (s₁.setTop (entryFrame m #[(.ref a1), (.long q2)] 9)) t := fun t k => pre8 t (st9 _ k)
    obtain ⟨v67, hv67⟩ : ∃ z : Int64, z = ((q2.toUInt64 >>> ((x_nodeBits + x_sequenceBits) &&& 0x3f).toInt64.toUInt64).toInt64) := ⟨_, rfl⟩
    have pre10 : ∀ t, Steps p.tables e below (T9.setTop (mkF m 68 #[.val (.ref a1), .val (.long q2), .second, .val (.long v67), .second, .unset, .unset, .unset, .unset] [])) t → Steps p.tables e below (s₁.setTop (entryFrame m #[(.ref a1), (.long q2)] 9)) t := by
      intro t k
      subst hv67
      refine pre9 t ?_
      refine XS.iadd X9.here hx rfl (hb hby d5_65) rfl ?_
      show Steps p.tables e below (T9.setTop (mkF m 66 #[.val (.ref a1), .val (.long q2), .second, .unset, .unset, .unset, .unset, .unset, .unset] [(.int (x_nodeBits + x_sequenceBits)), (.long q2)])) _
      refine XS.lushr X9.here hx rfl (hb hby d5_66) rfl ?_
      show Steps p.tables e below (T9.setTop (mkF m 67 #[.val (.ref a1), .val (.long q2), .second, .unset, .unset, .unset, .unset, .unset, .unset] [(.long ((q2.toUInt64 >>> ((x_nodeBits + x_sequenceBits) &&& 0x3f).toInt64.toUInt64).toInt64))])) _
      refine XS.lstoreN X9.here hx rfl (hb hby d5_67) rfl (l' := #[.val (.ref a1), .val (.long q2), .second, .val (.long ((q2.toUInt64 >>> ((x_nodeBits + x_sequenceBits) &&& 0x3f).toInt64.toUInt64).toInt64)), .second, .unset, .unset, .unset, .unset]) rfl ?_
      show Steps p.tables e below (T9.setTop (mkF m 68 #[.val (.ref a1), .val (.long q2), .second, .val (.long ((q2.toUInt64 >>> ((x_nodeBits + x_sequenceBits) &&& 0x3f).toInt64.toUInt64).toInt64)), .second, .unset, .unset, .unset, .unset] [])) _
      exact k
    have pre11 : ∀ t, Steps p.tables e below (T9.setTop (mkF m 70 #[.val (.ref a1), .val (.long q2), .second, .val (.long v67), .second, .unset, .unset, .unset, .unset] [(.ref a1), (.long q2)])) t → Steps p.tables e below (s₁.setTop (entryFrame m #[(.ref a1), (.long q2)] 9)) t := by
      intro t k
      refine pre10 t ?_
      refine XS.lloadN X9.here hx rfl (hb hby d5_68) rfl ?_
      show Steps p.tables e below (T9.setTop (mkF m 69 #[.val (.ref a1), .val (.long q2), .second, .val (.long v67), .second, .unset, .unset, .unset, .unset] [(.long q2)])) _
      refine XS.aloadN X9.here hx rfl (hb hby d5_69) rfl rfl ?_
      show Steps p.tables e below (T9.setTop (mkF m 70 #[.val (.ref a1), .val (.long q2), .second, .val (.long v67), .second, .unset, .unset, .unset, .unset] [(.ref a1), (.long q2)])) _
      exact k
    obtain ⟨T12, X12, e12, st12⟩ := getF X9 hx hZ hown (host := "") (Or.inl (hw _ (List.mem_of_getElem? (i := 25) rfl))) Via.refl e9 F_sequenceBits (g := (mkF m 70 #[.val (.ref a1), .val (.long q2), .second, .val (.long v67), .second, .unset, .unset, .unset, .unset] [(.ref a1), (.long q2)])) rfl rfl (hb hby d5_70)
    have pre12 : ∀ t, Steps p.tables e below (T12.setTop (mkF m 73 #[.val (.ref a1), .val (.long q2), .second, .val (.long v67), .second, .unset, .unset, .unset, .unset] [(.int x_sequenceBits), (.long q2)])) t → Steps p.tables e below (s₁.setTop (entryFrame m #[(.ref a1), (.long q2)] 9)) t := fun t k => pre11 t (st12 _ k)
    have pre13 : ∀ t, Steps p.tables e below (T12.setTop (mkF m 75 #[.val (.ref a1), .val (.long q2), .second, .val (.long v67), .second, .unset, .unset, .unset, .unset] [(.ref a1), (.long ((q2.toUInt64 >>> (x_sequenceBits &&& 0x3f).toInt64.toUInt64).toInt64))])) t → Steps p.tables e below (s₁.setTop (entryFrame m #[(.ref a1), (.long q2)] 9)) t := by
      intro t k
      refine pre12 t ?_
      refine XS.lushr X12.here hx rfl (hb hby d5_73) rfl ?_
      show Steps p.tables e below (T12.setTop (mkF m 74 #[.val (.ref a1), .val (.long q2), .second, .val (.long v67), .second, .unset, .unset, .unset, .unset] [(.long ((q2.toUInt64 >>> (x_sequenceBits &&& 0x3f).toInt64.toUInt64).toInt64))])) _
      refine XS.aloadN X12.here hx rfl (hb hby d5_74) rfl rfl ?_
      show Steps p.tables e below (T12.setTop (mkF m 75 #[.val (.ref a1), .val (.long q2), .second, .val (.long v67), .second, .unset, .unset, .unset, .unset] [(.ref a1), (.long ((q2.toUInt64 >>> (x_sequenceBits &&& 0x3f).toInt64.toUInt64).toInt64))])) _
      exact k
    obtain ⟨cq14, kq14, qa14, qb14, qc14⟩ := isOf hZ e12 E_a1
    obtain ⟨_, _, ⟨T14, L14, k14, n14⟩, -, X14, ⟨Lc14, hQ14, l14, y14, z14⟩, st14⟩ := X12.virtualBack hx (y := (⟨"com/example/rimefall/rimefall/model/Layout", "maxNode", "()J"⟩ : MethodName)) (z := (⟨"com/example/rimefall/rimefall/model/Layout", "maxNode", "()J"⟩ : MethodName)) hown (mvT hZ (hw _ (List.mem_of_getElem? (i := 39) rfl))) (mvT hZ (hw _ (List.mem_of_getElem? (i := 40) rfl))) (notFace_of_selects (args := #[]) (mvT hZ (hw _ (List.mem_of_getElem? (i := 42) rfl)))) (mvT hZ (hw _ (List.mem_of_getElem? (i := 42) rfl))) (mvT hZ (hw _ (List.mem_of_getElem? (i := 41) rfl))) (by decide) (backOf (W := 2) (rmY l Z a0 hw [] a1 x_nodeBits h0 n0 Z0 F_nodeBits) hZ (hw _ (List.mem_of_getElem? (i := 43) rfl)) (hw _ (List.mem_of_getElem? (i := 3) rfl)) (by decide) (by decide)) qa14 qc14 (g := (mkF m 75 #[.val (.ref a1), .val (.long q2), .second, .val (.long v67), .second, .unset, .unset, .unset, .unset] [(.ref a1), (.long ((q2.toUInt64 >>> (x_sequenceBits &&& 0x3f).toInt64.toUInt64).toInt64))])) rfl (by rw [hml]; rfl) (Steps.refl _) (argsL := []) (rest := [(.long ((q2.toUInt64 >>> (x_sequenceBits &&& 0x3f).toInt64.toUInt64).toInt64))]) (lenOf pdD_1 rfl) rfl (by show 2 * 0 + _ ≤ _; exact Nat.le_of_eq rfl) (hb hby d5_75) (fun _ _ => ⟨rfl, e12, (by decide : 0 + 0 ≤ _), (by decide : 0 + 0 ≤ _)⟩)
    dsimp only [Pt.U, Pt.locs, Pt.cells, Pt.slots] at X14 l14 y14 z14 st14 hQ14
    subst l14 y14 z14
    obtain ⟨rfl, Nq14, e14⟩ := hQ14
    have N14 := Fr.app N5 Nq14
    have pre14 : ∀ t, Steps p.tables e below (T14.setTop (mkF m 78 #[.val (.ref a1), .val (.long q2), .second, .val (.long v67), .second, .unset, .unset, .unset, .unset] [(.long (fnY x_nodeBits)), (.long ((q2.toUInt64 >>> (x_sequenceBits &&& 0x3f).toInt64.toUInt64).toInt64))])) t → Steps p.tables e below (s₁.setTop (entryFrame m #[(.ref a1), (.long q2)] 9)) t := fun t k => pre13 t (st14.trans k)
    obtain ⟨v79, hv79⟩ : ∃ z : Int64, z = (((q2.toUInt64 >>> (x_sequenceBits &&& 0x3f).toInt64.toUInt64).toInt64) &&& (fnY x_nodeBits)) := ⟨_, rfl⟩
    have pre15 : ∀ t, Steps p.tables e below (T14.setTop (mkF m 81 #[.val (.ref a1), .val (.long q2), .second, .val (.long v67), .second, .val (.long v79), .second, .unset, .unset] [])) t → Steps p.tables e below (s₁.setTop (entryFrame m #[(.ref a1), (.long q2)] 9)) t := by
      intro t k
      subst hv79
      refine pre14 t ?_
      refine XS.land X14.here hx rfl (hb hby d5_78) rfl ?_
      show Steps p.tables e below (T14.setTop (mkF m 79 #[.val (.ref a1), .val (.long q2), .second, .val (.long v67), .second, .unset, .unset, .unset, .unset] [(.long (((q2.toUInt64 >>> (x_sequenceBits &&& 0x3f).toInt64.toUInt64).toInt64) &&& (fnY x_nodeBits)))])) _
      refine XS.lstore X14.here hx rfl (hb hby d5_79) rfl (l' := #[.val (.ref a1), .val (.long q2), .second, .val (.long v67), .second, .val (.long (((q2.toUInt64 >>> (x_sequenceBits &&& 0x3f).toInt64.toUInt64).toInt64) &&& (fnY x_nodeBits))), .second, .unset, .unset]) rfl ?_
      show Steps p.tables e below (T14.setTop (mkF m 81 #[.val (.ref a1), .val (.long q2), .second, .val (.long v67), .second, .val (.long (((q2.toUInt64 >>> (x_sequenceBits &&& 0x3f).toInt64.toUInt64).toInt64) &&& (fnY x_nodeBits))), .second, .unset, .unset] [])) _
      exact k
    have pre16 : ∀ t, Steps p.tables e below (T14.setTop (mkF m 83 #[.val (.ref a1), .val (.long q2), .second, .val (.long v67), .second, .val (.long v79), .second, .unset, .unset] [(.ref a1), (.long q2)])) t → Steps p.tables e below (s₁.setTop (entryFrame m #[(.ref a1), (.long q2)] 9)) t := by
      intro t k
      refine pre15 t ?_
      refine XS.lloadN X14.here hx rfl (hb hby d5_81) rfl ?_
      show Steps p.tables e below (T14.setTop (mkF m 82 #[.val (.ref a1), .val (.long q2), .second, .val (.long v67), .second, .val (.long v79), .second, .unset, .unset] [(.long q2)])) _
      refine XS.aloadN X14.here hx rfl (hb hby d5_82) rfl rfl ?_
      show Steps p.tables e below (T14.setTop (mkF m 83 #[.val (.ref a1), .val (.long q2), .second, .val (.long v67), .second, .val (.long v79), .second, .unset, .unset] [(.ref a1), (.long q2)])) _
      exact k
    obtain ⟨cq17, kq17, qa17, qb17, qc17⟩ := isOf hZ e14 E_a1
    obtain ⟨_, _, ⟨T17, L17, k17, n17⟩, -, X17, ⟨Lc17, hQ17, l17, y17, z17⟩, st17⟩ := X14.virtualBack hx (y := (⟨"com/example/rimefall/rimefall/model/Layout", "maxSequence", "()J"⟩ : MethodName)) (z := (⟨"com/example/rimefall/rimefall/model/Layout", "maxSequence", "()J"⟩ : MethodName)) hown (mvT hZ (hw _ (List.mem_of_getElem? (i := 44) rfl))) (mvT hZ (hw _ (List.mem_of_getElem? (i := 45) rfl))) (notFace_of_selects (args := #[]) (mvT hZ (hw _ (List.mem_of_getElem? (i := 47) rfl)))) (mvT hZ (hw _ (List.mem_of_getElem? (i := 47) rfl))) (mvT hZ (hw _ (List.mem_of_getElem? (i := 46) rfl))) (by decide) (backOf (W := 2) (rmW l Z a0 hw [] a1 x_sequenceBits h0 n0 Z0 F_sequenceBits) hZ (hw _ (List.mem_of_getElem? (i := 48) rfl)) (hw _ (List.mem_of_getElem? (i := 3) rfl)) (by decide) (by decide)) qa17 qc17 (g := (mkF m 83 #[.val (.ref a1), .val (.long q2), .second, .val (.long v67), .second, .val (.long v79), .second, .unset, .unset] [(.ref a1), (.long q2)])) rfl (by rw [hml]; rfl) (Steps.refl _) (argsL := []) (rest := [(.long q2)]) (lenOf pdD_1 rfl) rfl (by show 2 * 0 + _ ≤ _; exact Nat.le_of_eq rfl) (hb hby d5_83) (fun _ _ => ⟨rfl, e14, (by decide : 0 + 0 ≤ _), (by decide : 0 + 0 ≤ _)⟩)
    dsimp only [Pt.U, Pt.locs, Pt.cells, Pt.slots] at X17 l17 y17 z17 st17 hQ17
    subst l17 y17 z17
    obtain ⟨rfl, Nq17, e17⟩ := hQ17
    have N17 := Fr.app N14 Nq17
    have pre17 : ∀ t, Steps p.tables e below (T17.setTop (mkF m 86 #[.val (.ref a1), .val (.long q2), .second, .val (.long v67), .second, .val (.long v79), .second, .unset, .unset] [(.long (fnW x_sequenceBits)), (.long q2)])) t → Steps p.tables e below (s₁.setTop (entryFrame m #[(.ref a1), (.long q2)] 9)) t := fun t k => pre16 t (st17.trans k)
    obtain ⟨v87, hv87⟩ : ∃ z : Int64, z = (q2 &&& (fnW x_sequenceBits)) := ⟨_, rfl⟩
    have pre18 : ∀ t, Steps p.tables e below (T17.setTop (mkF m 89 #[.val (.ref a1), .val (.long q2), .second, .val (.long v67), .second, .val (.long v79), .second, .val (.long v87), .second] [])) t → Steps p.tables e below (s₁.setTop (entryFrame m #[(.ref a1), (.long q2)] 9)) t := by
      intro t k
      subst hv87
      refine pre17 t ?_
      refine XS.land X17.here hx rfl (hb hby d5_86) rfl ?_
      show Steps p.tables e below (T17.setTop (mkF m 87 #[.val (.ref a1), .val (.long q2), .second, .val (.long v67), .second, .val (.long v79), .second, .unset, .unset] [(.long (q2 &&& (fnW x_sequenceBits)))])) _
      refine XS.lstore X17.here hx rfl (hb hby d5_87) rfl (l' := #[.val (.ref a1), .val (.long q2), .second, .val (.long v67), .second, .val (.long v79), .second, .val (.long (q2 &&& (fnW x_sequenceBits))), .second]) rfl ?_
      show Steps p.tables e below (T17.setTop (mkF m 89 #[.val (.ref a1), .val (.long q2), .second, .val (.long v67), .second, .val (.long v79), .second, .val (.long (q2 &&& (fnW x_sequenceBits))), .second] [])) _
      exact k
    obtain ⟨T19, h19, X19, e19, E19, A19, D19, -, st19⟩ := newO X17 hx hZ hown (hw _ (List.mem_of_getElem? (i := 49) rfl)) (hw _ (List.mem_of_getElem? (i := 50) rfl)) (hw _ (List.mem_of_getElem? (i := 51) rfl)) e17 (g := (mkF m 89 #[.val (.ref a1), .val (.long q2), .second, .val (.long v67), .second, .val (.long v79), .second, .val (.long v87), .second] [])) rfl (hb hby d5_89) (by decide) (by decide)
    obtain ⟨b19, g19⟩ : ∃ z, z = h0.size := ⟨_, rfl⟩
    rw [← g19] at A19 D19 st19
    have ne19_a1 : a1 ≠ b19 := Nat.ne_of_lt (Nat.lt_of_lt_of_le F_timestampBits.lt (Nat.le_of_eq g19.symm))
    have gg19 : n0 ≤ b19 := Nat.le_trans Z0 (Nat.le_of_eq g19.symm)
    have sz19 : h0.size ≤ b19 := Nat.le_trans K0.1 (Nat.le_of_eq g19.symm)
    have F19_0 := F_timestampBits.ext E19
    have F19_1 := F_nodeBits.ext E19
    have F19_2 := F_sequenceBits.ext E19
    have F19_3 := E_a1.ext E19
    have Z19 : n0 ≤ h19.size := Nat.le_trans Z0 E19.1
    have K19 := Keep.ext K0 E19
    have F19_timestamp : Fld Z h19 b19 "com/example/rimefall/rimefall/model/IdFields" "timestamp" "J" (.long (0 : Int64)) := D19 (Or.inr (hw _ (List.mem_of_getElem? (i := 57) rfl))) (ty := .long) (by decide)
    have F19_node : Fld Z h19 b19 "com/example/rimefall/rimefall/model/IdFields" "node" "J" (.long (0 : Int64)) := D19 (Or.inr (hw _ (List.mem_of_getElem? (i := 59) rfl))) (ty := .long) (by decide)
    have F19_sequence : Fld Z h19 b19 "com/example/rimefall/rimefall/model/IdFields" "sequence" "J" (.long (0 : Int64)) := D19 (Or.inr (hw _ (List.mem_of_getElem? (i := 61) rfl))) (ty := .long) (by decide)
    have pre19 : ∀ t, Steps p.tables e below (T19.setTop (mkF m 92 #[.val (.ref a1), .val (.long q2), .second, .val (.long v67), .second, .val (.long v79), .second, .val (.long v87), .second] [(.ref b19)])) t → Steps p.tables e below (s₁.setTop (entryFrame m #[(.ref a1), (.long q2)] 9)) t := fun t k => pre18 t (st19 _ k)
    have pre20 : ∀ t, Steps p.tables e below (T19.setTop (mkF m 98 #[.val (.ref a1), .val (.long q2), .second, .val (.long v67), .second, .val (.long v79), .second, .val (.long v87), .second] [(.long v87), (.long v79), (.long v67), (.ref b19), (.ref b19)])) t → Steps p.tables e below (s₁.setTop (entryFrame m #[(.ref a1), (.long q2)] 9)) t := by
      intro t k
      refine pre19 t ?_
      refine XS.dup X19.here hx rfl (hb hby d5_92) rfl rfl ?_
      show Steps p.tables e below (T19.setTop (mkF m 93 #[.val (.ref a1), .val (.long q2), .second, .val (.long v67), .second, .val (.long v79), .second, .val (.long v87), .second] [(.ref b19), (.ref b19)])) _
      refine XS.lloadN X19.here hx rfl (hb hby d5_93) rfl ?_
      show Steps p.tables e below (T19.setTop (mkF m 94 #[.val (.ref a1), .val (.long q2), .second, .val (.long v67), .second, .val (.long v79), .second, .val (.long v87), .second] [(.long v67), (.ref b19), (.ref b19)])) _
      refine XS.lload X19.here hx rfl (hb hby d5_94) rfl ?_
      show Steps p.tables e below (T19.setTop (mkF m 96 #[.val (.ref a1), .val (.long q2), .second, .val (.long v67), .second, .val (.long v79), .second, .val (.long v87), .second] [(.long v79), (.long v67), (.ref b19), (.ref b19)])) _
      refine XS.lload X19.here hx rfl (hb hby d5_96) rfl ?_
      show Steps p.tables e below (T19.setTop (mkF m 98 #[.val (.ref a1), .val (.long q2), .second, .val (.long v67), .second, .val (.long v79), .second, .val (.long v87), .second] [(.long v87), (.long v79), (.long v67), (.ref b19), (.ref b19)])) _
      exact k
    obtain ⟨_, _, ⟨T21, L21, k21, n21⟩, -, X21, ⟨Lc21, hQ21, l21, y21, z21⟩, st21⟩ := X19.specialBack hx (y := (⟨"com/example/rimefall/rimefall/model/IdFields", "<init>", "(JJJ)V"⟩ : MethodName)) rfl hown (mvT hZ (hw _ (List.mem_of_getElem? (i := 52) rfl))) (mvT hZ (hw _ (List.mem_of_getElem? (i := 53) rfl))) (mvT hZ (hw _ (List.mem_of_getElem? (i := 54) rfl))) (by decide) (backOf (W := 1) (rmI l Z a0 hw [] b19 v67 v79 v87 h19 n0 Z19 A19 F19_timestamp F19_node F19_sequence gg19) hZ (hw _ (List.mem_of_getElem? (i := 54) rfl)) (hw _ (List.mem_of_getElem? (i := 51) rfl)) (by decide) (by decide)) (g := (mkF m 98 #[.val (.ref a1), .val (.long q2), .second, .val (.long v67), .second, .val (.long v79), .second, .val (.long v87), .second] [(.long v87), (.long v79), (.long v67), (.ref b19), (.ref b19)])) rfl (by rw [hml]; rfl) (Steps.refl _) (a := b19) (argsL := [(.long v67), (.long v79), (.long v87)]) (rest := [(.ref b19)]) (lenOf pdD_2 rfl) rfl (by show 2 * 0 + _ ≤ _; exact Nat.le_of_eq rfl) (hb hby d5_98) (fun _ _ => ⟨rfl, e19, (by decide : 1 + 0 ≤ _), (by decide : 3 + 0 ≤ _)⟩)
    dsimp only [Pt.U, Pt.locs, Pt.cells, Pt.slots] at X21 l21 y21 z21 st21 hQ21
    subst l21 y21 z21
    obtain ⟨rfl, Nq21, Kc21, Ec21, Fc21_timestamp, Fc21_node, Fc21_sequence⟩ := hQ21
    have F21_0 := F19_0.keep Kc21 (ninS ne19_a1 nin0)
    have F21_1 := F19_1.keep Kc21 (ninS ne19_a1 nin0)
    have F21_2 := F19_2.keep Kc21 (ninS ne19_a1 nin0)
    have F21_3 := F19_3.keep Kc21
    have F21_4 := A19.keep Kc21
    have Z21 : n0 ≤ T21.heap.size := Nat.le_trans Z19 Kc21.1
    have K21 := Keep.trans K19 Kc21 (allS (Or.inr sz19) all0)
    have N21 := Fr.app N17 Nq21
    have pre21 : ∀ t, Steps p.tables e below (T21.setTop (mkF m 101 #[.val (.ref a1), .val (.long q2), .second, .val (.long v67), .second, .val (.long v79), .second, .val (.long v87), .second] [(.ref b19)])) t → Steps p.tables e below (s₁.setTop (entryFrame m #[(.ref a1), (.long q2)] 9)) t := fun t k => pre20 t (st21.trans k)
    obtain ⟨fs, hr, hrun, hended, hW, hsame⟩ := X21.leave (v := some (.ref b19)) (fun h => by rw [Bd.returns] at h; cases h)
    refine ⟨_, _, pre21 _ ?_, hrun, hended, _, _, rfl, ?_, ⟨_, rfl⟩, hW, hsame.mono (by decide) (by decide)⟩
    · show Steps p.tables e below (T21.setTop (mkF m 101 #[.val (.ref a1), .val (.long q2), .second, .val (.long v67), .second, .val (.long v79), .second, .val (.long v87), .second] [(.ref b19)])) _
      exact own_retR X21 hx Bd.returns rfl rfl (hb hby d5_101) hr
    · show QD Z a1 q2 x_timestampBits x_nodeBits x_sequenceBits h0 n0 _ T21.heap _
      subst hv87 hv79 hv67
      exact ⟨b19, rfl, N21, K21, gg19, Ec21, Fc21_timestamp, Fc21_node, Fc21_sequence⟩
  · have pre22 : ∀ t, Steps p.tables e below (T2.setTop (mkF m 58 #[.val (.ref a1), .val (.long q2), .second, .unset, .unset, .unset, .unset, .unset, .unset] [(.ref a1), (.long q2)])) t → Steps p.tables e below (s₁.setTop (entryFrame m #[(.ref a1), (.long q2)] 9)) t := by
      intro t k
      refine pre3 t ?_
      refine XS.icmpYes X2.here hx rfl (pc0 := 6) (pc' := 56) rfl (hb hby d5_6) rfl (flt hc6).2.1 (by decide) (by decide) ?_
      show Steps p.tables e below (T2.setTop (mkF m 56 #[.val (.ref a1), .val (.long q2), .second, .unset, .unset, .unset, .unset, .unset, .unset] [])) _
      refine XS.lloadN X2.here hx rfl (hb hby d5_56) rfl ?_
      show Steps p.tables e below (T2.setTop (mkF m 57 #[.val (.ref a1), .val (.long q2), .second, .unset, .unset, .unset, .unset, .unset, .unset] [(.long q2)])) _
      refine XS.aloadN X2.here hx rfl (hb hby d5_57) rfl rfl ?_
      show Steps p.tables e below (T2.setTop (mkF m 58 #[.val (.ref a1), .val (.long q2), .second, .unset, .unset, .unset, .unset, .unset, .unset] [(.ref a1), (.long q2)])) _
      exact k
    obtain ⟨T23, X23, e23, st23⟩ := getF X2 hx hZ hown (host := "") (Or.inl (hw _ (List.mem_of_getElem? (i := 23) rfl))) Via.refl e2 F_nodeBits (g := (mkF m 58 #[.val (.ref a1), .val (.long q2), .second, .unset, .unset, .unset, .unset, .unset, .unset] [(.ref a1), (.long q2)])) rfl rfl (hb hby d5_58)
    have pre23 : ∀ t, Steps p.tables e below (T23.setTop (mkF m 61 #[.val (.ref a1), .val (.long q2), .second, .unset, .unset, .unset, .unset, .unset, .unset] [(.int x_nodeBits), (.long q2)])) t → Steps p.tables e below (s₁.setTop (entryFrame m #[(.ref a1), (.long q2)] 9)) t := fun t k => pre22 t (st23 _ k)
    have pre24 : ∀ t, Steps p.tables e below (T23.setTop (mkF m 62 #[.val (.ref a1), .val (.long q2), .second, .unset, .unset, .unset, .unset, .unset, .unset] [(.ref a1), (.int x_nodeBits), (.long q2)])) t → Steps p.tables e below (s₁.setTop (entryFrame m #[(.ref a1), (.long q2)] 9)) t := by
      intro t k
      refine pre23 t ?_
      refine XS.aloadN X23.here hx rfl (hb hby d5_61) rfl rfl ?_
      show Steps p.tables e below (T23.setTop (mkF m 62 #[.val (.ref a1), .val (.long q2), .second, .unset, .unset, .unset, .unset, .unset, .unset] [(.ref a1), (.int x_nodeBits), (.long q2)])) _
      exact k
    obtain ⟨T25, X25, e25, st25⟩ := getF X23 hx hZ hown (host := "") (Or.inl (hw _ (List.mem_of_getElem? (i := 25) rfl))) Via.refl e23 F_sequenceBits (g := (mkF m 62 #[.val (.ref a1), .val (.long q2), .second, .unset, .unset, .unset, .unset, .unset, .unset] [(.ref a1), (.int x_nodeBits), (.long q2)])) rfl rfl (hb hby d5_62)
    have pre25 : ∀ t, Steps p.tables e below (T25.setTop (mkF m 65 #[.val (.ref a1), .val (.long q2), .second, .unset, .unset, .unset, .unset, .unset, .unset] [(.int x_sequenceBits), (.int x_nodeBits), (.long q2)])) t → Steps p.tables e below (s₁.setTop (entryFrame m #[(.ref a1), (.long q2)] 9)) t := fun t k => pre24 t (st25 _ k)
    obtain ⟨v67_1, hv67_1⟩ : ∃ z : Int64, z = ((q2.toUInt64 >>> ((x_nodeBits + x_sequenceBits) &&& 0x3f).toInt64.toUInt64).toInt64) := ⟨_, rfl⟩
    have pre26 : ∀ t, Steps p.tables e below (T25.setTop (mkF m 68 #[.val (.ref a1), .val (.long q2), .second, .val (.long v67_1), .second, .unset, .unset, .unset, .unset] [])) t → Steps p.tables e below (s₁.setTop (entryFrame m #[(.ref a1), (.long q2)] 9)) t := by
      intro t k
      subst hv67_1
      refine pre25 t ?_
      refine XS.iadd X25.here hx rfl (hb hby d5_65) rfl ?_
      show Steps p.tables e below (T25.setTop (mkF m 66 #[.val (.ref a1), .val (.long q2), .second, .unset, .unset, .unset, .unset, .unset, .unset] [(.int (x_nodeBits + x_sequenceBits)), (.long q2)])) _
      refine XS.lushr X25.here hx rfl (hb hby d5_66) rfl ?_
      show Steps p.tables e below (T25.setTop (mkF m 67 #[.val (.ref a1), .val (.long q2), .second, .unset, .unset, .unset, .unset, .unset, .unset] [(.long ((q2.toUInt64 >>> ((x_nodeBits + x_sequenceBits) &&& 0x3f).toInt64.toUInt64).toInt64))])) _
      refine XS.lstoreN X25.here hx rfl (hb hby d5_67) rfl (l' := #[.val (.ref a1), .val (.long q2), .second, .val (.long ((q2.toUInt64 >>> ((x_nodeBits + x_sequenceBits) &&& 0x3f).toInt64.toUInt64).toInt64)), .second, .unset, .unset, .unset, .unset]) rfl ?_
      show Steps p.tables e below (T25.setTop (mkF m 68 #[.val (.ref a1), .val (.long q2), .second, .val (.long ((q2.toUInt64 >>> ((x_nodeBits + x_sequenceBits) &&& 0x3f).toInt64.toUInt64).toInt64)), .second, .unset, .unset, .unset, .unset] [])) _
      exact k
    have pre27 : ∀ t, Steps p.tables e below (T25.setTop (mkF m 70 #[.val (.ref a1), .val (.long q2), .second, .val (.long v67_1), .second, .unset, .unset, .unset, .unset] [(.ref a1), (.long q2)])) t → Steps p.tables e below (s₁.setTop (entryFrame m #[(.ref a1), (.long q2)] 9)) t := by
      intro t k
      refine pre26 t ?_
      refine XS.lloadN X25.here hx rfl (hb hby d5_68) rfl ?_
      show Steps p.tables e below (T25.setTop (mkF m 69 #[.val (.ref a1), .val (.long q2), .second, .val (.long v67_1), .second, .unset, .unset, .unset, .unset] [(.long q2)])) _
      refine XS.aloadN X25.here hx rfl (hb hby d5_69) rfl rfl ?_
      show Steps p.tables e below (T25.setTop (mkF m 70 #[.val (.ref a1), .val (.long q2), .second, .val (.long v67_1), .second, .unset, .unset, .unset, .unset] [(.ref a1), (.long q2)])) _
      exact k
    obtain ⟨T28, X28, e28, st28⟩ := getF X25 hx hZ hown (host := "") (Or.inl (hw _ (List.mem_of_getElem? (i := 25) rfl))) Via.refl e25 F_sequenceBits (g := (mkF m 70 #[.val (.ref a1), .val (.long q2), .second, .val (.long v67_1), .second, .unset, .unset, .unset, .unset] [(.ref a1), (.long q2)])) rfl rfl (hb hby d5_70)
    have pre28 : ∀ t, Steps p.tables e below (T28.setTop (mkF m 73 #[.val (.ref a1), .val (.long q2), .second, .val (.long v67_1), .second, .unset, .unset, .unset, .unset] [(.int x_sequenceBits), (.long q2)])) t → Steps p.tables e below (s₁.setTop (entryFrame m #[(.ref a1), (.long q2)] 9)) t := fun t k => pre27 t (st28 _ k)
    have pre29 : ∀ t, Steps p.tables e below (T28.setTop (mkF m 75 #[.val (.ref a1), .val (.long q2), .second, .val (.long v67_1), .second, .unset, .unset, .unset, .unset] [(.ref a1), (.long ((q2.toUInt64 >>> (x_sequenceBits &&& 0x3f).toInt64.toUInt64).toInt64))])) t → Steps p.tables e below (s₁.setTop (entryFrame m #[(.ref a1), (.long q2)] 9)) t := by
      intro t k
      refine pre28 t ?_
      refine XS.lushr X28.here hx rfl (hb hby d5_73) rfl ?_
      show Steps p.tables e below (T28.setTop (mkF m 74 #[.val (.ref a1), .val (.long q2), .second, .val (.long v67_1), .second, .unset, .unset, .unset, .unset] [(.long ((q2.toUInt64 >>> (x_sequenceBits &&& 0x3f).toInt64.toUInt64).toInt64))])) _
      refine XS.aloadN X28.here hx rfl (hb hby d5_74) rfl rfl ?_
      show Steps p.tables e below (T28.setTop (mkF m 75 #[.val (.ref a1), .val (.long q2), .second, .val (.long v67_1), .second, .unset, .unset, .unset, .unset] [(.ref a1), (.long ((q2.toUInt64 >>> (x_sequenceBits &&& 0x3f).toInt64.toUInt64).toInt64))])) _
      exact k
    obtain ⟨cq30, kq30, qa30, qb30, qc30⟩ := isOf hZ e28 E_a1
    obtain ⟨_, _, ⟨T30, L30, k30, n30⟩, -, X30, ⟨Lc30, hQ30, l30, y30, z30⟩, st30⟩ := X28.virtualBack hx (y := (⟨"com/example/rimefall/rimefall/model/Layout", "maxNode", "()J"⟩ : MethodName)) (z := (⟨"com/example/rimefall/rimefall/model/Layout", "maxNode", "()J"⟩ : MethodName)) hown (mvT hZ (hw _ (List.mem_of_getElem? (i := 39) rfl))) (mvT hZ (hw _ (List.mem_of_getElem? (i := 40) rfl))) (notFace_of_selects (args := #[]) (mvT hZ (hw _ (List.mem_of_getElem? (i := 42) rfl)))) (mvT hZ (hw _ (List.mem_of_getElem? (i := 42) rfl))) (mvT hZ (hw _ (List.mem_of_getElem? (i := 41) rfl))) (by decide) (backOf (W := 2) (rmY l Z a0 hw [] a1 x_nodeBits h0 n0 Z0 F_nodeBits) hZ (hw _ (List.mem_of_getElem? (i := 43) rfl)) (hw _ (List.mem_of_getElem? (i := 3) rfl)) (by decide) (by decide)) qa30 qc30 (g := (mkF m 75 #[.val (.ref a1), .val (.long q2), .second, .val (.long v67_1), .second, .unset, .unset, .unset, .unset] [(.ref a1), (.long ((q2.toUInt64 >>> (x_sequenceBits &&& 0x3f).toInt64.toUInt64).toInt64))])) rfl (by rw [hml]; rfl) (Steps.refl _) (argsL := []) (rest := [(.long ((q2.toUInt64 >>> (x_sequenceBits &&& 0x3f).toInt64.toUInt64).toInt64))]) (lenOf pdD_1 rfl) rfl (by show 2 * 0 + _ ≤ _; exact Nat.le_of_eq rfl) (hb hby d5_75) (fun _ _ => ⟨rfl, e28, (by decide : 0 + 0 ≤ _), (by decide : 0 + 0 ≤ _)⟩)
    dsimp only [Pt.U, Pt.locs, Pt.cells, Pt.slots] at X30 l30 y30 z30 st30 hQ30
    subst l30 y30 z30
    obtain ⟨rfl, Nq30, e30⟩ := hQ30
    have N30 := Fr.app N2 Nq30
    have pre30 : ∀ t, Steps p.tables e below (T30.setTop (mkF m 78 #[.val (.ref a1), .val (.long q2), .second, .val (.long v67_1), .second, .unset, .unset, .unset, .unset] [(.long (fnY x_nodeBits)), (.long ((q2.toUInt64 >>> (x_sequenceBits &&& 0x3f).toInt64.toUInt64).toInt64))])) t → Steps p.tables e below (s₁.setTop (entryFrame m #[(.ref a1), (.long q2)] 9)) t := fun t k => pre29 t (st30.trans k)
    obtain ⟨v79_1, hv79_1⟩ : ∃ z : Int64, z = (((q2.toUInt64 >>> (x_sequenceBits &&& 0x3f).toInt64.toUInt64).toInt64) &&& (fnY x_nodeBits)) := ⟨_, rfl⟩
    have pre31 : ∀ t, Steps p.tables e below (T30.setTop (mkF m 81 #[.val (.ref a1), .val (.long q2), .second, .val (.long v67_1), .second, .val (.long v79_1), .second, .unset, .unset] [])) t → Steps p.tables e below (s₁.setTop (entryFrame m #[(.ref a1), (.long q2)] 9)) t := by
      intro t k
      subst hv79_1
      refine pre30 t ?_
      refine XS.land X30.here hx rfl (hb hby d5_78) rfl ?_
      show Steps p.tables e below (T30.setTop (mkF m 79 #[.val (.ref a1), .val (.long q2), .second, .val (.long v67_1), .second, .unset, .unset, .unset, .unset] [(.long (((q2.toUInt64 >>> (x_sequenceBits &&& 0x3f).toInt64.toUInt64).toInt64) &&& (fnY x_nodeBits)))])) _
      refine XS.lstore X30.here hx rfl (hb hby d5_79) rfl (l' := #[.val (.ref a1), .val (.long q2), .second, .val (.long v67_1), .second, .val (.long (((q2.toUInt64 >>> (x_sequenceBits &&& 0x3f).toInt64.toUInt64).toInt64) &&& (fnY x_nodeBits))), .second, .unset, .unset]) rfl ?_
      show Steps p.tables e below (T30.setTop (mkF m 81 #[.val (.ref a1), .val (.long q2), .second, .val (.long v67_1), .second, .val (.long (((q2.toUInt64 >>> (x_sequenceBits &&& 0x3f).toInt64.toUInt64).toInt64) &&& (fnY x_nodeBits))), .second, .unset, .unset] [])) _
      exact k
    have pre32 : ∀ t, Steps p.tables e below (T30.setTop (mkF m 83 #[.val (.ref a1), .val (.long q2), .second, .val (.long v67_1), .second, .val (.long v79_1), .second, .unset, .unset] [(.ref a1), (.long q2)])) t → Steps p.tables e below (s₁.setTop (entryFrame m #[(.ref a1), (.long q2)] 9)) t := by
      intro t k
      refine pre31 t ?_
      refine XS.lloadN X30.here hx rfl (hb hby d5_81) rfl ?_
      show Steps p.tables e below (T30.setTop (mkF m 82 #[.val (.ref a1), .val (.long q2), .second, .val (.long v67_1), .second, .val (.long v79_1), .second, .unset, .unset] [(.long q2)])) _
      refine XS.aloadN X30.here hx rfl (hb hby d5_82) rfl rfl ?_
      show Steps p.tables e below (T30.setTop (mkF m 83 #[.val (.ref a1), .val (.long q2), .second, .val (.long v67_1), .second, .val (.long v79_1), .second, .unset, .unset] [(.ref a1), (.long q2)])) _
      exact k
    obtain ⟨cq33, kq33, qa33, qb33, qc33⟩ := isOf hZ e30 E_a1
    obtain ⟨_, _, ⟨T33, L33, k33, n33⟩, -, X33, ⟨Lc33, hQ33, l33, y33, z33⟩, st33⟩ := X30.virtualBack hx (y := (⟨"com/example/rimefall/rimefall/model/Layout", "maxSequence", "()J"⟩ : MethodName)) (z := (⟨"com/example/rimefall/rimefall/model/Layout", "maxSequence", "()J"⟩ : MethodName)) hown (mvT hZ (hw _ (List.mem_of_getElem? (i := 44) rfl))) (mvT hZ (hw _ (List.mem_of_getElem? (i := 45) rfl))) (notFace_of_selects (args := #[]) (mvT hZ (hw _ (List.mem_of_getElem? (i := 47) rfl)))) (mvT hZ (hw _ (List.mem_of_getElem? (i := 47) rfl))) (mvT hZ (hw _ (List.mem_of_getElem? (i := 46) rfl))) (by decide) (backOf (W := 2) (rmW l Z a0 hw [] a1 x_sequenceBits h0 n0 Z0 F_sequenceBits) hZ (hw _ (List.mem_of_getElem? (i := 48) rfl)) (hw _ (List.mem_of_getElem? (i := 3) rfl)) (by decide) (by decide)) qa33 qc33 (g := (mkF m 83 #[.val (.ref a1), .val (.long q2), .second, .val (.long v67_1), .second, .val (.long v79_1), .second, .unset, .unset] [(.ref a1), (.long q2)])) rfl (by rw [hml]; rfl) (Steps.refl _) (argsL := []) (rest := [(.long q2)]) (lenOf pdD_1 rfl) rfl (by show 2 * 0 + _ ≤ _; exact Nat.le_of_eq rfl) (hb hby d5_83) (fun _ _ => ⟨rfl, e30, (by decide : 0 + 0 ≤ _), (by decide : 0 + 0 ≤ _)⟩)
    dsimp only [Pt.U, Pt.locs, Pt.cells, Pt.slots] at X33 l33 y33 z33 st33 hQ33
    subst l33 y33 z33
    obtain ⟨rfl, Nq33, e33⟩ := hQ33
    have N33 := Fr.app N30 Nq33
    have pre33 : ∀ t, Steps p.tables e below (T33.setTop (mkF m 86 #[.val (.ref a1), .val (.long q2), .second, .val (.long v67_1), .second, .val (.long v79_1), .second, .unset, .unset] [(.long (fnW x_sequenceBits)), (.long q2)])) t → Steps p.tables e below (s₁.setTop (entryFrame m #[(.ref a1), (.long q2)] 9)) t := fun t k => pre32 t (st33.trans k)
    obtain ⟨v87_1, hv87_1⟩ : ∃ z : Int64, z = (q2 &&& (fnW x_sequenceBits)) := ⟨_, rfl⟩
    have pre34 : ∀ t, Steps p.tables e below (T33.setTop (mkF m 89 #[.val (.ref a1), .val (.long q2), .second, .val (.long v67_1), .second, .val (.long v79_1), .second, .val (.long v87_1), .second] [])) t → Steps p.tables e below (s₁.setTop (entryFrame m #[(.ref a1), (.long q2)] 9)) t := by
      intro t k
      subst hv87_1
      refine pre33 t ?_
      refine XS.land X33.here hx rfl (hb hby d5_86) rfl ?_
      show Steps p.tables e below (T33.setTop (mkF m 87 #[.val (.ref a1), .val (.long q2), .second, .val (.long v67_1), .second, .val (.long v79_1), .second, .unset, .unset] [(.long (q2 &&& (fnW x_sequenceBits)))])) _
      refine XS.lstore X33.here hx rfl (hb hby d5_87) rfl (l' := #[.val (.ref a1), .val (.long q2), .second, .val (.long v67_1), .second, .val (.long v79_1), .second, .val (.long (q2 &&& (fnW x_sequenceBits))), .second]) rfl ?_
      show Steps p.tables e below (T33.setTop (mkF m 89 #[.val (.ref a1), .val (.long q2), .second, .val (.long v67_1), .second, .val (.long v79_1), .second, .val (.long (q2 &&& (fnW x_sequenceBits))), .second] [])) _
      exact k
    obtain ⟨T35, h35, X35, e35, E35, A35, D35, -, st35⟩ := newO X33 hx hZ hown (hw _ (List.mem_of_getElem? (i := 49) rfl)) (hw _ (List.mem_of_getElem? (i := 50) rfl)) (hw _ (List.mem_of_getElem? (i := 51) rfl)) e33 (g := (mkF m 89 #[.val (.ref a1), .val (.long q2), .second, .val (.long v67_1), .second, .val (.long v79_1), .second, .val (.long v87_1), .second] [])) rfl (hb hby d5_89) (by decide) (by decide)
    obtain ⟨b35, g35⟩ : ∃ z, z = h0.size := ⟨_, rfl⟩
    rw [← g35] at A35 D35 st35
    have ne35_a1 : a1 ≠ b35 := Nat.ne_of_lt (Nat.lt_of_lt_of_le F_timestampBits.lt (Nat.le_of_eq g35.symm))
    have gg35 : n0 ≤ b35 := Nat.le_trans Z0 (Nat.le_of_eq g35.symm)
    have sz35 : h0.size ≤ b35 := Nat.le_trans K0.1 (Nat.le_of_eq g35.symm)
    have F35_0 := F_timestampBits.ext E35
    have F35_1 := F_nodeBits.ext E35
    have F35_2 := F_sequenceBits.ext E35
    have F35_3 := E_a1.ext E35
    have Z35 : n0 ≤ h35.size := Nat.le_trans Z0 E35.1
    have K35 := Keep.ext K0 E35
    have F35_timestamp : Fld Z h35 b35 "com/example/rimefall/rimefall/model/IdFields" "timestamp" "J" (.long (0 : Int64)) := D35 (Or.inr (hw _ (List.mem_of_getElem? (i := 57) rfl))) (ty := .long) (by decide)
    have F35_node : Fld Z h35 b35 "com/example/rimefall/rimefall/model/IdFields" "node" "J" (.long (0 : Int64)) := D35 (Or.inr (hw _ (List.mem_of_getElem? (i := 59) rfl))) (ty := .long) (by decide)
    have F35_sequence : Fld Z h35 b35 "com/example/rimefall/rimefall/model/IdFields" "sequence" "J" (.long (0 : Int64)) := D35 (Or.inr (hw _ (List.mem_of_getElem? (i := 61) rfl))) (ty := .long) (by decide)
    have pre35 : ∀ t, Steps p.tables e below (T35.setTop (mkF m 92 #[.val (.ref a1), .val (.long q2), .second, .val (.long v67_1), .second, .val (.long v79_1), .second, .val (.long v87_1), .second] [(.ref b35)])) t → Steps p.tables e below (s₁.setTop (entryFrame m #[(.ref a1), (.long q2)] 9)) t := fun t k => pre34 t (st35 _ k)
    have pre36 : ∀ t, Steps p.tables e below (T35.setTop (mkF m 98 #[.val (.ref a1), .val (.long q2), .second, .val (.long v67_1), .second, .val (.long v79_1), .second, .val (.long v87_1), .second] [(.long v87_1), (.long v79_1), (.long v67_1), (.ref b35), (.ref b35)])) t → Steps p.tables e below (s₁.setTop (entryFrame m #[(.ref a1), (.long q2)] 9)) t := by
      intro t k
      refine pre35 t ?_
      refine XS.dup X35.here hx rfl (hb hby d5_92) rfl rfl ?_
      show Steps p.tables e below (T35.setTop (mkF m 93 #[.val (.ref a1), .val (.long q2), .second, .val (.long v67_1), .second, .val (.long v79_1), .second, .val (.long v87_1), .second] [(.ref b35), (.ref b35)])) _
      refine XS.lloadN X35.here hx rfl (hb hby d5_93) rfl ?_
      show Steps p.tables e below (T35.setTop (mkF m 94 #[.val (.ref a1), .val (.long q2), .second, .val (.long v67_1), .second, .val (.long v79_1), .second, .val (.long v87_1), .second] [(.long v67_1), (.ref b35), (.ref b35)])) _
      refine XS.lload X35.here hx rfl (hb hby d5_94) rfl ?_
      show Steps p.tables e below (T35.setTop (mkF m 96 #[.val (.ref a1), .val (.long q2), .second, .val (.long v67_1), .second, .val (.long v79_1), .second, .val (.long v87_1), .second] [(.long v79_1), (.long v67_1), (.ref b35), (.ref b35)])) _
      refine XS.lload X35.here hx rfl (hb hby d5_96) rfl ?_
      show Steps p.tables e below (T35.setTop (mkF m 98 #[.val (.ref a1), .val (.long q2), .second, .val (.long v67_1), .second, .val (.long v79_1), .second, .val (.long v87_1), .second] [(.long v87_1), (.long v79_1), (.long v67_1), (.ref b35), (.ref b35)])) _
      exact k
    obtain ⟨_, _, ⟨T37, L37, k37, n37⟩, -, X37, ⟨Lc37, hQ37, l37, y37, z37⟩, st37⟩ := X35.specialBack hx (y := (⟨"com/example/rimefall/rimefall/model/IdFields", "<init>", "(JJJ)V"⟩ : MethodName)) rfl hown (mvT hZ (hw _ (List.mem_of_getElem? (i := 52) rfl))) (mvT hZ (hw _ (List.mem_of_getElem? (i := 53) rfl))) (mvT hZ (hw _ (List.mem_of_getElem? (i := 54) rfl))) (by decide) (backOf (W := 1) (rmI l Z a0 hw [] b35 v67_1 v79_1 v87_1 h35 n0 Z35 A35 F35_timestamp F35_node F35_sequence gg35) hZ (hw _ (List.mem_of_getElem? (i := 54) rfl)) (hw _ (List.mem_of_getElem? (i := 51) rfl)) (by decide) (by decide)) (g := (mkF m 98 #[.val (.ref a1), .val (.long q2), .second, .val (.long v67_1), .second, .val (.long v79_1), .second, .val (.long v87_1), .second] [(.long v87_1), (.long v79_1), (.long v67_1), (.ref b35), (.ref b35)])) rfl (by rw [hml]; rfl) (Steps.refl _) (a := b35) (argsL := [(.long v67_1), (.long v79_1), (.long v87_1)]) (rest := [(.ref b35)]) (lenOf pdD_2 rfl) rfl (by show 2 * 0 + _ ≤ _; exact Nat.le_of_eq rfl) (hb hby d5_98) (fun _ _ => ⟨rfl, e35, (by decide : 1 + 0 ≤ _), (by decide : 3 + 0 ≤ _)⟩)
    dsimp only [Pt.U, Pt.locs, Pt.cells, Pt.slots] at X37 l37 y37 z37 st37 hQ37
    subst l37 y37 z37
    obtain ⟨rfl, Nq37, Kc37, Ec37, Fc37_timestamp, Fc37_node, Fc37_sequence⟩ := hQ37
    have F37_0 := F35_0.keep Kc37 (ninS ne35_a1 nin0)
    have F37_1 := F35_1.keep Kc37 (ninS ne35_a1 nin0)
    have F37_2 := F35_2.keep Kc37 (ninS ne35_a1 nin0)
    have F37_3 := F35_3.keep Kc37
    have F37_4 := A35.keep Kc37
    have Z37 : n0 ≤ T37.heap.size := Nat.le_trans Z35 Kc37.1
    have K37 := Keep.trans K35 Kc37 (allS (Or.inr sz35) all0)
    have N37 := Fr.app N33 Nq37
    have pre37 : ∀ t, Steps p.tables e below (T37.setTop (mkF m 101 #[.val (.ref a1), .val (.long q2), .second, .val (.long v67_1), .second, .val (.long v79_1), .second, .val (.long v87_1), .second] [(.ref b35)])) t → Steps p.tables e below (s₁.setTop (entryFrame m #[(.ref a1), (.long q2)] 9)) t := fun t k => pre36 t (st37.trans k)
    obtain ⟨fs, hr, hrun, hended, hW, hsame⟩ := X37.leave (v := some (.ref b35)) (fun h => by rw [Bd.returns] at h; cases h)
    refine ⟨_, _, pre37 _ ?_, hrun, hended, _, _, rfl, ?_, ⟨_, rfl⟩, hW, hsame.mono (by decide) (by decide)⟩
    · show Steps p.tables e below (T37.setTop (mkF m 101 #[.val (.ref a1), .val (.long q2), .second, .val (.long v67_1), .second, .val (.long v79_1), .second, .val (.long v87_1), .second] [(.ref b35)])) _
      exact own_retR X37 hx Bd.returns rfl rfl (hb hby d5_101) hr
    · show QD Z a1 q2 x_timestampBits x_nodeBits x_sequenceBits h0 n0 _ T37.heap _
      subst hv87_1 hv79_1 hv67_1
      exact ⟨b35, rfl, N37, K37, gg35, Ec37, Fc37_timestamp, Fc37_node, Fc37_sequence⟩
/-! body 0: law -/
theorem pd0_0 : parseMethodDescriptor "(IIIJ)V" = some ⟨[.int, .int, .int, .long], none⟩ := by decide +kernel
theorem pd0_1 : parseMethodDescriptor "(J)Lcom/example/rimefall/rimefall/model/IdFields;" = some ⟨[.long], some (.object "com/example/rimefall/rimefall/model/IdFields")⟩ := by decide +kernel
theorem pd0_2 : parseMethodDescriptor "()J" = some ⟨[], some .long⟩ := by decide +kernel
theorem pn0 : plainName "com/example/rimefall/rimefall/model/LayoutDecodePinLaw" = true := by first | (simp [plainName, overriddenIn]; done) | decide +kernel
theorem ef0 (m : MethodId) (p1 : Int32) (p2 : Int32) (p3 : Int32) (q4 : Int64) (q5 : Int64) (q6 : Int64) : entryFrame m #[(.int p1), (.int p2), (.int p3), (.long q4), (.long q5), (.long q6)] maxLocals = mkF m 0 #[.val (.int p1), .val (.int p2), .val (.int p3), .val (.long q4), .second, .val (.long q5), .second, .val (.long q6), .second, .unset, .unset, .unset, .unset, .unset, .unset, .unset, .unset, .unset, .unset, .unset, .unset, .unset] [] := by first | (simp [entryFrame, mkF, argsToLocals, Value.category, maxLocals]; done) | rfl
/-! shifts by a variable distance, masks of the low bits, as natural numbers -/
def own_N (x : Int64) : Nat := x.toBitVec.toNat
theorem own_N_lt (x : Int64) : own_N x < 18446744073709551616 := x.toBitVec.isLt
theorem own_N_inj {x y : Int64} (h : own_N x = own_N y) : x = y := Int64.toBitVec_inj.mp (BitVec.eq_of_toNat_eq h)
theorem own_N_int (x : Int64) : x.toInt = (own_N x : Int).bmod (2 ^ 64) := BitVec.toInt_eq_toNat_bmod x.toBitVec
theorem own_N_nn {x : Int64} (h : own_N x < 9223372036854775808) : x.toInt = own_N x := by
  rw [own_N_int, Int.bmod_def]; omega
theorem own_k63 {k : Int32} {K : Nat} (hk : k.toInt = K) (hK : K < 64) : (k &&& (0x3f : Int32)) = k := by
  apply Int32.toInt_inj.mp
  rw [Jvm.Kit.i32_mask k 0x3f (k := 6) (by decide) (by decide), hk]; omega
theorem own_k64 {k : Int32} {K : Nat} (hk : k.toInt = K) (hK : K < 64) : k.toInt64.toBitVec = BitVec.ofNat 64 K := by
  apply BitVec.eq_of_toInt_eq
  have e : k.toInt64.toBitVec.toInt = (K : Int) := (Jvm.Kit.i64_of_i32 k).trans hk
  rw [e, BitVec.toInt_eq_toNat_bmod, BitVec.toNat_ofNat, Nat.mod_eq_of_lt (by omega), Int.bmod_def]; omega
theorem own_ushr (v : Int64) {k : Int32} {K : Nat} (hk : k.toInt = K) (hK : K < 64) : own_N ((v.toUInt64 >>> (k &&& (0x3f : Int32)).toInt64.toUInt64).toInt64) = own_N v / 2 ^ K := by
  rw [own_k63 hk hK]
  have e : k.toInt64.toUInt64.toNat = K := by
    show k.toInt64.toBitVec.toNat = K
    rw [own_k64 hk hK, BitVec.toNat_ofNat, Nat.mod_eq_of_lt (by omega)]
  show (v.toUInt64 >>> k.toInt64.toUInt64).toNat = _
  rw [UInt64.toNat_shiftRight, e, Nat.mod_eq_of_lt hK, Nat.shiftRight_eq_div_pow]; rfl
theorem own_shl (v : Int64) {k : Int32} {K : Nat} (hk : k.toInt = K) (hK : K < 64) : own_N (v <<< (k &&& (0x3f : Int32)).toInt64) = own_N v * 2 ^ K % 18446744073709551616 := by
  rw [own_k63 hk hK]
  unfold own_N
  have e : (k.toInt64.toBitVec.smod 64).toNat = K := by
    rw [own_k64 hk hK]
    have : BitVec.ofNat 64 K = BitVec.ofNat 64 K := rfl
    have q : (BitVec.ofNat 64 K).smod 64 = BitVec.ofNat 64 K := by
      apply BitVec.eq_of_toInt_eq
      rw [BitVec.toInt_smod]
      have e1 : (BitVec.ofNat 64 K).toInt = K := by rw [BitVec.toInt_eq_toNat_bmod, BitVec.toNat_ofNat, Nat.mod_eq_of_lt (by omega), Int.bmod_def]; omega
      have e2 : (64 : BitVec 64).toInt = 64 := by decide
      rw [e1, e2, Int.fmod_eq_emod_of_nonneg _ (by omega)]; omega
    rw [q, BitVec.toNat_ofNat, Nat.mod_eq_of_lt (by omega)]
  rw [Int64.toBitVec_shiftLeft]
  show (v.toBitVec <<< (k.toInt64.toBitVec.smod 64).toNat).toNat = _
  rw [e, BitVec.toNat_shiftLeft, Nat.shiftLeft_eq]
def own_ms (k : Int32) : Int64 := (((-1 : Int64).toUInt64 >>> (((64 : Int32) - k) &&& (0x3f : Int32)).toInt64.toUInt64).toInt64)
theorem own_div1 (K : Nat) (hK : K ≤ 64) : (18446744073709551615 : Nat) / 2 ^ (64 - K) = 2 ^ K - 1 := by
  have h : 2 ^ K * 2 ^ (64 - K) = 18446744073709551616 := by rw [← Nat.pow_add]; have : K + (64 - K) = 64 := by omega
                                                             rw [this]
  have p1 : 0 < 2 ^ (64 - K) := Nat.pow_pos (by decide)
  have p2 : 0 < 2 ^ K := Nat.pow_pos (by decide)
  have e : (18446744073709551615 : Nat) = (2 ^ K - 1) * 2 ^ (64 - K) + (2 ^ (64 - K) - 1) := by
    rw [Nat.sub_mul, h, Nat.one_mul]
    have : 2 ^ (64 - K) ≤ 18446744073709551616 := by rw [← h]; exact Nat.le_mul_of_pos_left _ p2
    omega
  rw [e, Nat.add_comm, Nat.add_mul_div_right _ _ p1, Nat.div_eq_of_lt (by omega), Nat.zero_add]
theorem own_ms_N {k : Int32} {K : Nat} (hk : k.toInt = K) (h1 : 1 ≤ K) (h2 : K ≤ 64) : own_N (own_ms k) = 2 ^ K - 1 := by
  have e64 : (64 : Int32).toInt = 64 := by decide
  have hs : ((64 : Int32) - k).toInt = ((64 - K : Nat) : Int) := by rw [Jvm.Kit.i32_sub (by omega) (by omega), e64]; omega
  have e1 : own_N (-1 : Int64) = 18446744073709551615 := by decide
  show own_N (((-1 : Int64).toUInt64 >>> (((64 : Int32) - k) &&& (0x3f : Int32)).toInt64.toUInt64).toInt64) = _
  rw [own_ushr _ hs (by omega), e1, own_div1 K h2]
theorem own_and {k : Int32} {K : Nat} (q : Int64) (hk : k.toInt = K) (h1 : 1 ≤ K) (h2 : K ≤ 64) : own_N (q &&& own_ms k) = own_N q % 2 ^ K := by
  have h := own_ms_N hk h1 h2
  unfold own_N at *
  rw [Int64.toBitVec_and, BitVec.toNat_and, h, Nat.and_two_pow_sub_one_eq_mod]
theorem own_or (x y : Int64) : own_N (x ||| y) = own_N x ||| own_N y := by
  unfold own_N; rw [Int64.toBitVec_or, BitVec.toNat_or]
theorem own_pow_le {a b : Nat} (h : a ≤ b) : 2 ^ a ≤ 2 ^ b := Nat.pow_le_pow_right (by decide) h
/-- three fields side by side -/
theorem own_pack (ts nd sq : Int64) (n s : Int32) (T N S : Nat) (hn : n.toInt = N) (hs : s.toInt = S) (hT : 1 ≤ T) (h64 : T + N + S ≤ 64) (h1 : own_N ts < 2 ^ T) (h2 : own_N nd < 2 ^ N) (h3 : own_N sq < 2 ^ S) :
    own_N (((ts <<< ((n + s) &&& (0x3f : Int32)).toInt64) ||| (nd <<< (s &&& (0x3f : Int32)).toInt64)) ||| sq) = own_N ts * 2 ^ (N + S) + own_N nd * 2 ^ S + own_N sq := by
  have hns : (n + s).toInt = ((N + S : Nat) : Int) := by rw [Jvm.Kit.i32_add (by omega) (by omega)]; omega
  have p64 : (2 : Nat) ^ 64 = 18446744073709551616 := by decide
  have a1 : own_N ts * 2 ^ (N + S) < 18446744073709551616 := by
    have : own_N ts * 2 ^ (N + S) < 2 ^ T * 2 ^ (N + S) := Nat.mul_lt_mul_of_pos_right h1 (Nat.pow_pos (by decide))
    rw [← Nat.pow_add] at this
    have := own_pow_le (a := T + (N + S)) (b := 64) (by omega)
    omega
  have a2 : own_N nd * 2 ^ S < 2 ^ (N + S) := by
    have : own_N nd * 2 ^ S < 2 ^ N * 2 ^ S := Nat.mul_lt_mul_of_pos_right h2 (Nat.pow_pos (by decide))
    rw [← Nat.pow_add] at this; exact this
  have a3 : own_N nd * 2 ^ S < 18446744073709551616 := by
    have := own_pow_le (a := N + S) (b := 64) (by omega)
    omega
  rw [own_or, own_or, own_shl _ hns (by omega), own_shl _ hs (by omega), Nat.mod_eq_of_lt a1, Nat.mod_eq_of_lt a3]
  have o1 := Nat.two_pow_add_eq_or_of_lt (i := N + S) a2 (own_N ts)
  rw [Nat.mul_comm] at o1
  rw [← o1]
  have e : own_N ts * 2 ^ (N + S) + own_N nd * 2 ^ S = 2 ^ S * (own_N ts * 2 ^ N + own_N nd) := by
    rw [Nat.pow_add, Nat.mul_add, Nat.mul_comm (2 ^ S) (own_N nd), Nat.mul_comm (2 ^ S) (own_N ts * 2 ^ N), Nat.mul_assoc]
  rw [e, ← Nat.two_pow_add_eq_or_of_lt h3]
theorem own_top (a b c N S : Nat) (h2 : b < 2 ^ N) (h3 : c < 2 ^ S) : (a * 2 ^ (N + S) + b * 2 ^ S + c) / 2 ^ (N + S) = a := by
  have p : 0 < 2 ^ (N + S) := Nat.pow_pos (by decide)
  have r : b * 2 ^ S + c < 2 ^ (N + S) := by
    have : (b + 1) * 2 ^ S ≤ 2 ^ N * 2 ^ S := Nat.mul_le_mul_right _ h2
    rw [Nat.add_mul, Nat.one_mul, ← Nat.pow_add] at this
    omega
  rw [Nat.add_assoc, Nat.add_comm, Nat.add_mul_div_right _ _ p, Nat.div_eq_of_lt r, Nat.zero_add]
theorem own_mid (a b c N S : Nat) (h2 : b < 2 ^ N) (h3 : c < 2 ^ S) : (a * 2 ^ (N + S) + b * 2 ^ S + c) / 2 ^ S % 2 ^ N = b := by
  have p : 0 < 2 ^ S := Nat.pow_pos (by decide)
  have e : a * 2 ^ (N + S) + b * 2 ^ S + c = c + (b + 2 ^ N * a) * 2 ^ S := by
    rw [Nat.pow_add, Nat.add_mul, Nat.mul_comm (2 ^ N) a, Nat.mul_assoc]; omega
  rw [e, Nat.add_mul_div_right _ _ p, Nat.div_eq_of_lt h3, Nat.zero_add, Nat.add_mul_mod_self_left, Nat.mod_eq_of_lt h2]
theorem own_low (a b c N S : Nat) (h3 : c < 2 ^ S) : (a * 2 ^ (N + S) + b * 2 ^ S + c) % 2 ^ S = c := by
  have e : a * 2 ^ (N + S) + b * 2 ^ S + c = c + 2 ^ S * (b + 2 ^ N * a) := by
    rw [Nat.pow_add, Nat.mul_add, Nat.mul_comm (2 ^ S) b, Nat.mul_comm (2 ^ S) (2 ^ N * a), Nat.mul_comm (2 ^ N) a, Nat.mul_assoc]; omega
  rw [e, Nat.add_mul_mod_self_left, Nat.mod_eq_of_lt h3]
theorem own_one32 : (1 : Int32).toInt = 1 := by decide
/-- 1 + (x & m) % d, for 1 ≤ d -/
theorem own_rem {x m d v : Int32} {k : Nat} (hk : k < 32) (hm : m.toBitVec.toNat = 2 ^ k - 1) (hd : 1 ≤ d.toInt) (hv : v = ((1 : Int32) + ((x &&& m) % d))) : 1 ≤ v.toInt ∧ v.toInt ≤ d.toInt := by
  have h0 := Jvm.Kit.i32_mask x m hk hm
  have p : (0 : Int) < 2 ^ k := Int.pow_pos (by decide)
  have q1 : 0 ≤ (x &&& m).toInt := by rw [h0]; exact Int.emod_nonneg _ (by omega)
  have hr := Jvm.Kit.i32_rem_nonneg (y := d) q1
  have a := Int.emod_nonneg (x &&& m).toInt (b := d.toInt) (by omega)
  have b := Int.emod_lt_of_pos (x &&& m).toInt (b := d.toInt) (by omega)
  have l := d.toInt_lt
  have e1 := own_one32
  rw [hv, Jvm.Kit.i32_add (by omega) (by omega)]; omega
theorem own_toN {v : Int32} (h : 1 ≤ v.toInt ∧ v.toInt ≤ 62) : ∃ K : Nat, v.toInt = K ∧ 1 ≤ K ∧ K ≤ 62 := ⟨v.toInt.toNat, by omega, by omega, by omega⟩
theorem own_fa {k : Int32} {v q : Int64} (h : 1 ≤ k.toInt ∧ k.toInt ≤ 62) (hv : v = (q &&& own_ms k)) : ¬ v < (0 : Int64) := by
  obtain ⟨K, hk, h1, h2⟩ := own_toN h
  have e := own_and q hk h1 (by omega)
  rw [← hv] at e
  have p : 0 < 2 ^ K := Nat.pow_pos (by decide)
  have l := Nat.mod_lt (own_N q) p
  have b := own_pow_le (a := K) (b := 62) h2
  have b62 : (2 : Nat) ^ 62 = 4611686018427387904 := by decide
  have e0 : (0 : Int64).toInt = 0 := by decide
  rw [Int64.lt_iff_toInt_lt, own_N_nn (by omega), e0]; omega
theorem own_fb {k : Int32} {v q : Int64} (h : 1 ≤ k.toInt ∧ k.toInt ≤ 62) (hv : v = (q &&& own_ms k)) : ¬ (own_ms k) < v := by
  obtain ⟨K, hk, h1, h2⟩ := own_toN h
  have e := own_and q hk h1 (by omega)
  rw [← hv] at e
  have m := own_ms_N hk h1 (by omega)
  have p : 0 < 2 ^ K := Nat.pow_pos (by decide)
  have l := Nat.mod_lt (own_N q) p
  have b := own_pow_le (a := K) (b := 62) h2
  have b62 : (2 : Nat) ^ 62 = 4611686018427387904 := by decide
  rw [Int64.lt_iff_toInt_lt, own_N_nn (x := own_ms k) (by omega), own_N_nn (x := v) (by omega)]; omega
theorem own_sum3 {a b c : Int32} (ha : 1 ≤ a.toInt) (hb : 1 ≤ b.toInt) (hc : 1 ≤ c.toInt) (h : a.toInt + b.toInt + c.toInt ≤ 64) : ¬ (64 : Int64) < (((a.toInt64) + (b.toInt64)) + (c.toInt64)) := by
  have e64 : (64 : Int64).toInt = 64 := by decide
  have ea := Jvm.Kit.i64_of_i32 a
  have eb := Jvm.Kit.i64_of_i32 b
  have ec := Jvm.Kit.i64_of_i32 c
  have s1 : (a.toInt64 + b.toInt64).toInt = a.toInt + b.toInt := by rw [Jvm.Kit.i64_add (by omega) (by omega)]; omega
  rw [Int64.lt_iff_toInt_lt, Jvm.Kit.i64_add (by omega) (by omega)]; omega
theorem own_not1 {a : Int32} (h : 1 ≤ a.toInt) : ¬ a < (1 : Int32) := by
  have e1 := own_one32
  rw [Int32.lt_iff_toInt_lt]; omega
section Rng3
variable {m v9 v26 v46 x y z : Int32} {k : Nat}
theorem own_b1 (hk : k < 32) (hm : m.toBitVec.toNat = 2 ^ k - 1) (h9 : v9 = ((1 : Int32) + ((x &&& m) % (62 : Int32)))) : 1 ≤ v9.toInt ∧ v9.toInt ≤ 62 := by
  have e : (62 : Int32).toInt = 62 := by decide
  have := own_rem hk hm (by omega) h9
  omega
theorem own_s63 (h : 1 ≤ v9.toInt ∧ v9.toInt ≤ 62) : ((63 : Int32) - v9).toInt = 63 - v9.toInt := by
  have e : (63 : Int32).toInt = 63 := by decide
  rw [Jvm.Kit.i32_sub (by omega) (by omega), e]
theorem own_b2 (hk : k < 32) (hm : m.toBitVec.toNat = 2 ^ k - 1) (h9 : v9 = ((1 : Int32) + ((x &&& m) % (62 : Int32)))) (h26 : v26 = ((1 : Int32) + ((y &&& m) % ((63 : Int32) - v9)))) : 1 ≤ v26.toInt ∧ v26.toInt ≤ 63 - v9.toInt := by
  have a := own_b1 hk hm h9
  have d := own_s63 a
  have := own_rem hk hm (by omega) h26
  omega
theorem own_s64 (h : 1 ≤ v9.toInt ∧ v9.toInt ≤ 62) (h' : 1 ≤ v26.toInt ∧ v26.toInt ≤ 63 - v9.toInt) : (((64 : Int32) - v9) - v26).toInt = 64 - v9.toInt - v26.toInt := by
  have e : (64 : Int32).toInt = 64 := by decide
  have e1 : ((64 : Int32) - v9).toInt = 64 - v9.toInt := by rw [Jvm.Kit.i32_sub (by omega) (by omega), e]
  rw [Jvm.Kit.i32_sub (by omega) (by omega), e1]
theorem own_b3 (hk : k < 32) (hm : m.toBitVec.toNat = 2 ^ k - 1) (h9 : v9 = ((1 : Int32) + ((x &&& m) % (62 : Int32)))) (h26 : v26 = ((1 : Int32) + ((y &&& m) % ((63 : Int32) - v9)))) (h46 : v46 = ((1 : Int32) + ((z &&& m) % (((64 : Int32) - v9) - v26)))) : 1 ≤ v46.toInt ∧ v46.toInt ≤ 64 - v9.toInt - v26.toInt := by
  have a := own_b1 hk hm h9
  have b := own_b2 hk hm h9 h26
  have d := own_s64 a b
  have := own_rem hk hm (by omega) h46
  omega
theorem own_z1 (hk : k < 32) (hm : m.toBitVec.toNat = 2 ^ k - 1) (h9 : v9 = ((1 : Int32) + ((x &&& m) % (62 : Int32)))) : ((63 : Int32) - v9) ≠ 0 := by
  have a := own_b1 hk hm h9
  have d := own_s63 a
  intro q; rw [q] at d
  have e0 : (0 : Int32).toInt = 0 := by decide
  omega
theorem own_z2 (hk : k < 32) (hm : m.toBitVec.toNat = 2 ^ k - 1) (h9 : v9 = ((1 : Int32) + ((x &&& m) % (62 : Int32)))) (h26 : v26 = ((1 : Int32) + ((y &&& m) % ((63 : Int32) - v9)))) : (((64 : Int32) - v9) - v26) ≠ 0 := by
  have a := own_b1 hk hm h9
  have b := own_b2 hk hm h9 h26
  have d := own_s64 a b
  intro q; rw [q] at d
  have e0 : (0 : Int32).toInt = 0 := by decide
  omega
end Rng3
/-- what is known of the three widths: the first (a), the second (b), the third (c) -/
def own_R (a b c : Int32) : Prop := (1 ≤ a.toInt ∧ a.toInt ≤ 62) ∧ (1 ≤ b.toInt ∧ b.toInt ≤ 62) ∧ (1 ≤ c.toInt ∧ c.toInt ≤ 62) ∧ a.toInt + b.toInt + c.toInt ≤ 64
theorem own_R_of {v9 v26 v46 x y z m : Int32} {k : Nat} (hk : k < 32) (hm : m.toBitVec.toNat = 2 ^ k - 1) (h9 : v9 = ((1 : Int32) + ((x &&& m) % (62 : Int32)))) (h26 : v26 = ((1 : Int32) + ((y &&& m) % ((63 : Int32) - v9)))) (h46 : v46 = ((1 : Int32) + ((z &&& m) % (((64 : Int32) - v9) - v26)))) : own_R v9 v26 v46 := by
  have a := own_b1 hk hm h9
  have b := own_b2 hk hm h9 h26
  have c := own_b3 hk hm h9 h26 h46
  exact ⟨a, by omega, by omega, by omega⟩
theorem own_msT {k : Int32} (h : 1 ≤ k.toInt ∧ k.toInt ≤ 62) : 0 ≤ (own_ms k).toInt ∧ (own_ms k).toInt ≤ 4611686018427387903 := by
  obtain ⟨K, hk, h1, h2⟩ := own_toN h
  have m := own_ms_N hk h1 (by omega)
  have b := own_pow_le (a := K) (b := 62) h2
  have b62 : (2 : Nat) ^ 62 = 4611686018427387904 := by decide
  rw [own_N_nn (x := own_ms k) (by omega)]; omega
/-! the plain law -/
theorem own_R1 {v9 v26 v46 x y z : Int32} (h9 : v9 = ((1 : Int32) + ((x &&& (2147483647 : Int32)) % (62 : Int32)))) (h26 : v26 = ((1 : Int32) + ((y &&& (2147483647 : Int32)) % ((63 : Int32) - v9)))) (h46 : v46 = ((1 : Int32) + ((z &&& (2147483647 : Int32)) % (((64 : Int32) - v9) - v26)))) : own_R v9 v26 v46 := own_R_of (k := 31) (by decide) (by decide) h9 h26 h46
theorem own_ep1 {t : Int32} (h : 1 ≤ t.toInt ∧ t.toInt ≤ 62) : ¬ ((9223372036854775807 : Int64) - (fnM t)) < (0 : Int64) := by
  have m := own_msT h
  have eM : (9223372036854775807 : Int64).toInt = 9223372036854775807 := by decide
  have e0 : (0 : Int64).toInt = 0 := by decide
  have f : fnM t = own_ms t := rfl
  rw [f, Int64.lt_iff_toInt_lt, Jvm.Kit.i64_sub (by omega) (by omega)]; omega
/-- x >>> (64 - k) has k bits -/
theorem own_hi {k : Int32} {K : Nat} {v x : Int64} (hk : k.toInt = K) (h1 : 1 ≤ K) (h2 : K ≤ 62) (hv : v = ((x.toUInt64 >>> (((64 : Int32) - k) &&& 0x3f).toInt64.toUInt64).toInt64)) : own_N v < 2 ^ K := by
  have e64 : (64 : Int32).toInt = 64 := by decide
  have hs : ((64 : Int32) - k).toInt = ((64 - K : Nat) : Int) := by rw [Jvm.Kit.i32_sub (by omega) (by omega), e64]; omega
  rw [hv, own_ushr _ hs (by omega)]
  have l := own_N_lt x
  have p : 2 ^ K * 2 ^ (64 - K) = 18446744073709551616 := by
    rw [← Nat.pow_add]; have : K + (64 - K) = 64 := by omega
    rw [this]
  apply Nat.div_lt_of_lt_mul
  rw [Nat.mul_comm, p]; exact l
section D
variable {t n s : Int32} {a b c w x y z : Int64}
theorem own_dec (h : own_R t n s) (ha : a = ((x.toUInt64 >>> (((64 : Int32) - t) &&& 0x3f).toInt64.toUInt64).toInt64)) (hb : b = ((y.toUInt64 >>> (((64 : Int32) - n) &&& 0x3f).toInt64.toUInt64).toInt64)) (hc : c = ((z.toUInt64 >>> (((64 : Int32) - s) &&& 0x3f).toInt64.toUInt64).toInt64)) (hw : w = (((a <<< ((n + s) &&& 0x3f).toInt64) ||| (b <<< (s &&& 0x3f).toInt64)) ||| c)) :
    ((fnT t n s) < (64 : Int32) → ((w.toUInt64 >>> ((fnT t n s) &&& 0x3f).toInt64.toUInt64).toInt64) = (0 : Int64)) ∧ ((w.toUInt64 >>> ((n + s) &&& 0x3f).toInt64.toUInt64).toInt64) = a ∧ (((w.toUInt64 >>> (s &&& 0x3f).toInt64.toUInt64).toInt64) &&& (fnY n)) = b ∧ (w &&& (fnW s)) = c := by
  obtain ⟨h1, h2, h3, h4⟩ := h
  obtain ⟨T, hT, T1, T2⟩ := own_toN h1
  obtain ⟨N, hN, N1, N2⟩ := own_toN h2
  obtain ⟨S, hS, S1, S2⟩ := own_toN h3
  have la := own_hi hT T1 T2 ha
  have lb := own_hi hN N1 N2 hb
  have lc := own_hi hS S1 S2 hc
  have id := own_pack a b c n s T N S hN hS T1 (by omega) la lb lc
  rw [← hw] at id
  have hns : (n + s).toInt = ((N + S : Nat) : Int) := by rw [Jvm.Kit.i32_add (by omega) (by omega)]; omega
  refine ⟨fun hlt => ?_, ?_, ?_, ?_⟩
  · have e : fnT t n s = (t + n) + s := rfl
    have s1 : (t + n).toInt = t.toInt + n.toInt := Jvm.Kit.i32_add (by omega) (by omega)
    have s2 : (fnT t n s).toInt = ((T + (N + S) : Nat) : Int) := by rw [e, Jvm.Kit.i32_add (by omega) (by omega), s1]; omega
    have e64 : (64 : Int32).toInt = 64 := by decide
    rw [Int32.lt_iff_toInt_lt, s2, e64] at hlt
    apply own_N_inj
    have z0 : own_N (0 : Int64) = 0 := by decide
    rw [own_ushr w s2 (by omega), id, z0]
    apply Nat.div_eq_of_lt
    have r : b.toBitVec.toNat * 2 ^ S + own_N c < 2 ^ (N + S) := by
      have : (b.toBitVec.toNat + 1) * 2 ^ S ≤ 2 ^ N * 2 ^ S := Nat.mul_le_mul_right _ lb
      rw [Nat.add_mul, Nat.one_mul, ← Nat.pow_add] at this
      omega
    have q : (a.toBitVec.toNat + 1) * 2 ^ (N + S) ≤ 2 ^ T * 2 ^ (N + S) := Nat.mul_le_mul_right _ la
    rw [Nat.add_mul, Nat.one_mul, ← Nat.pow_add] at q
    unfold own_N at *
    omega
  · apply own_N_inj; rw [own_ushr w hns (by omega), id, own_top _ _ _ _ _ lb lc]
  · apply own_N_inj
    show own_N (((w.toUInt64 >>> (s &&& 0x3f).toInt64.toUInt64).toInt64) &&& (own_ms n)) = _
    rw [own_and _ hN N1 (by omega), own_ushr w hS (by omega), id, own_mid _ _ _ _ _ lb lc]
  · apply own_N_inj
    show own_N (w &&& (own_ms s)) = _
    rw [own_and _ hS S1 (by omega), id, own_low _ _ _ _ _ lc]
end D
theorem own_one {u : Int32} {p : Prop} [Decidable p] (hu : u = (if p then (1 : Int32) else (0 : Int32))) (h : p) : u = 1 := by rw [hu, if_pos h]
def Q0 (Z : State) (p1 : Int32) (p2 : Int32) (p3 : Int32) (q4 : Int64) (q5 : Int64) (q6 : Int64) (h0 : Heap) (n0 : Nat) (v : Option Value) (h : Heap) (L : List Loc) : Prop := v = some (.int 1) ∧ Fr n0 L
set_option maxRecDepth 65536 in
set_option maxHeartbeats 40000000 in
theorem rm0 (l : Launch) (Z : State) (a0 : Array Value) (hw : ∀ d ∈ tables_1, d.before a0 Z = true) (ws : List Jvm.Cond) (p1 : Int32) (p2 : Int32) (p3 : Int32) (q4 : Int64) (q5 : Int64) (q6 : Int64) (h0 : Heap) (n0 : Nat) (Z0 : n0 ≤ h0.size) :
    MetFree l x (head1 (Jvm.Cond.code x code maxLocals ret :: ws) room_1) (fun a U => a = #[(.int p1), (.int p2), (.int p3), (.long q4), (.long q5), (.long q6)] ∧ Z.Warmed39 U.vm ∧ U.heap = h0) (fun _ _ _ _ _ => True) (fun _ U o U' => ∃ v L, o = .returned v ∧ Q0 Z p1 p2 p3 q4 q5 q6 h0 n0 v U'.heap L ∧ FrameEnd U o U' L room_1.cells room_1.slots) := by
  refine MetFree.of_bodySF (plainFor_of_name pn0) hisR ?_
  intro p e s m args below meth c s₁ Bd hml0 hP hK
  obtain ⟨rfl, hZ, hh⟩ := hP
  have hx := Bd.exec
  have hby := Bd.bytes
  have hml : c.maxLocals = 22 := hml0
  have hown : s.vm.findClass "com/example/rimefall/rimefall/model/LayoutDecodePinLaw" = some m.cls := findClass_of_methodNamed Bd.named
  have hnm := (name_of_methodNamed Bd.named Bd.method).1
  have X0 : Stand p l e room_1 s m #[(.int p1), (.int p2), (.int p3), (.long q4), (.long q5), (.long q6)] below meth c s₁ [] 0 0 := Stand.of_body Bd
  have e0 : s₁.heap = h0 := by rw [← hh, Bd.state]; rfl
  have N0 := Fr.nil n0
  have pre0 : ∀ t, Steps p.tables e below (s₁.setTop (mkF m 0 #[.val (.int p1), .val (.int p2), .val (.int p3), .val (.long q4), .second, .val (.long q5), .second, .val (.long q6), .second, .unset, .unset, .unset, .unset, .unset, .unset, .unset, .unset, .unset, .unset, .unset, .unset, .unset] [])) t → Steps p.tables e below (s₁.setTop (entryFrame m #[(.int p1), (.int p2), (.int p3), (.long q4), (.long q5), (.long q6)] maxLocals)) t := fun t k => castTop (ef0 m p1 p2 p3 q4 q5 q6) k
  obtain ⟨v9, hv9⟩ : ∃ z : Int32, z = ((1 : Int32) + ((p1 &&& (2147483647 : Int32)) % (62 : Int32))) := ⟨_, rfl⟩
  have pre1 : ∀ t, Steps p.tables e below (s₁.setTop (mkF m 11 #[.val (.int p1), .val (.int p2), .val (.int p3), .val (.long q4), .second, .val (.long q5), .second, .val (.long q6), .second, .val (.int v9), .unset, .unset, .unset, .unset, .unset, .unset, .unset, .unset, .unset, .unset, .unset, .unset] [])) t → Steps p.tables e below (s₁.setTop (entryFrame m #[(.int p1), (.int p2), (.int p3), (.long q4), (.long q5), (.long q6)] maxLocals)) t := by
    intro t k
    subst hv9
    refine pre0 t ?_
    show Steps p.tables e below (s₁.setTop (mkF m 0 #[.val (.int p1), .val (.int p2), .val (.int p3), .val (.long q4), .second, .val (.long q5), .second, .val (.long q6), .second, .unset, .unset, .unset, .unset, .unset, .unset, .unset, .unset, .unset, .unset, .unset, .unset, .unset] [])) _
    refine XS.iconst X0.here hx rfl (hb hby at_0) ?_
    show Steps p.tables e below (s₁.setTop (mkF m 1 #[.val (.int p1), .val (.int p2), .val (.int p3), .val (.long q4), .second, .val (.long q5), .second, .val (.long q6), .second, .unset, .unset, .unset, .unset, .unset, .unset, .unset, .unset, .unset, .unset, .unset, .unset, .unset] [(.int (1 : Int32))])) _
    refine XS.iloadN X0.here hx rfl (hb hby at_1) rfl ?_
    show Steps p.tables e below (s₁.setTop (mkF m 2 #[.val (.int p1), .val (.int p2), .val (.int p3), .val (.long q4), .second, .val (.long q5), .second, .val (.long q6), .second, .unset, .unset, .unset, .unset, .unset, .unset, .unset, .unset, .unset, .unset, .unset, .unset, .unset] [(.int p1), (.int (1 : Int32))])) _
    refine X0.ldcInt hx hown (mvT hZ (hw _ (List.mem_of_getElem? (i := 0) rfl))) (g := (mkF m 2 #[.val (.int p1), .val (.int p2), .val (.int p3), .val (.long q4), .second, .val (.long q5), .second, .val (.long q6), .second, .unset, .unset, .unset, .unset, .unset, .unset, .unset, .unset, .unset, .unset, .unset, .unset, .unset] [(.int p1), (.int (1 : Int32))])) rfl (hb hby at_2) _ ?_
    show Steps p.tables e below (s₁.setTop (mkF m 4 #[.val (.int p1), .val (.int p2), .val (.int p3), .val (.long q4), .second, .val (.long q5), .second, .val (.long q6), .second, .unset, .unset, .unset, .unset, .unset, .unset, .unset, .unset, .unset, .unset, .unset, .unset, .unset] [(.int (2147483647 : Int32)), (.int p1), (.int (1 : Int32))])) _
    refine XS.iand X0.here hx rfl (hb hby at_4) rfl ?_
    show Steps p.tables e below (s₁.setTop (mkF m 5 #[.val (.int p1), .val (.int p2), .val (.int p3), .val (.long q4), .second, .val (.long q5), .second, .val (.long q6), .second, .unset, .unset, .unset, .unset, .unset, .unset, .unset, .unset, .unset, .unset, .unset, .unset, .unset] [(.int (p1 &&& (2147483647 : Int32))), (.int (1 : Int32))])) _
    refine XS.bipush X0.here hx rfl (hb hby at_5) ?_
    show Steps p.tables e below (s₁.setTop (mkF m 7 #[.val (.int p1), .val (.int p2), .val (.int p3), .val (.long q4), .second, .val (.long q5), .second, .val (.long q6), .second, .unset, .unset, .unset, .unset, .unset, .unset, .unset, .unset, .unset, .unset, .unset, .unset, .unset] [(.int (62 : Int32)), (.int (p1 &&& (2147483647 : Int32))), (.int (1 : Int32))])) _
    refine iremM X0 hx rfl (hb hby at_7) rfl (by decide) ?_
    show Steps p.tables e below (s₁.setTop (mkF m 8 #[.val (.int p1), .val (.int p2), .val (.int p3), .val (.long q4), .second, .val (.long q5), .second, .val (.long q6), .second, .unset, .unset, .unset, .unset, .unset, .unset, .unset, .unset, .unset, .unset, .unset, .unset, .unset] [(.int ((p1 &&& (2147483647 : Int32)) % (62 : Int32))), (.int (1 : Int32))])) _
    refine XS.iadd X0.here hx rfl (hb hby at_8) rfl ?_
    show Steps p.tables e below (s₁.setTop (mkF m 9 #[.val (.int p1), .val (.int p2), .val (.int p3), .val (.long q4), .second, .val (.long q5), .second, .val (.long q6), .second, .unset, .unset, .unset, .unset, .unset, .unset, .unset, .unset, .unset, .unset, .unset, .unset, .unset] [(.int ((1 : Int32) + ((p1 &&& (2147483647 : Int32)) % (62 : Int32))))])) _
    refine XS.istore X0.here hx rfl (hb hby at_9) rfl (l' := #[.val (.int p1), .val (.int p2), .val (.int p3), .val (.long q4), .second, .val (.long q5), .second, .val (.long q6), .second, .val (.int ((1 : Int32) + ((p1 &&& (2147483647 : Int32)) % (62 : Int32)))), .unset, .unset, .unset, .unset, .unset, .unset, .unset, .unset, .unset, .unset, .unset, .unset]) rfl ?_
    show Steps p.tables e below (s₁.setTop (mkF m 11 #[.val (.int p1), .val (.int p2), .val (.int p3), .val (.long q4), .second, .val (.long q5), .second, .val (.long q6), .second, .val (.int ((1 : Int32) + ((p1 &&& (2147483647 : Int32)) % (62 : Int32)))), .unset, .unset, .unset, .unset, .unset, .unset, .unset, .unset, .unset, .unset, .unset, .unset] [])) _
    exact k
  obtain ⟨v23, hv23⟩ : ∃ z : Int32, z = ((1 : Int32) + ((p2 &&& (2147483647 : Int32)) % ((63 : Int32) - v9))) := ⟨_, rfl⟩
  have pre2 : ∀ t, Steps p.tables e below (s₁.setTop (mkF m 25 #[.val (.int p1), .val (.int p2), .val (.int p3), .val (.long q4), .second, .val (.long q5), .second, .val (.long q6), .second, .val (.int v9), .val (.int v23), .unset, .unset, .unset, .unset, .unset, .unset, .unset, .unset, .unset, .unset, .unset] [])) t → Steps p.tables e below (s₁.setTop (entryFrame m #[(.int p1), (.int p2), (.int p3), (.long q4), (.long q5), (.long q6)] maxLocals)) t := by
    intro t k
    subst hv23
    refine pre1 t ?_
    refine XS.iconst X0.here hx rfl (hb hby at_11) ?_
    show Steps p.tables e below (s₁.setTop (mkF m 12 #[.val (.int p1), .val (.int p2), .val (.int p3), .val (.long q4), .second, .val (.long q5), .second, .val (.long q6), .second, .val (.int v9), .unset, .unset, .unset, .unset, .unset, .unset, .unset, .unset, .unset, .unset, .unset, .unset] [(.int (1 : Int32))])) _
    refine XS.iloadN X0.here hx rfl (hb hby at_12) rfl ?_
    show Steps p.tables e below (s₁.setTop (mkF m 13 #[.val (.int p1), .val (.int p2), .val (.int p3), .val (.long q4), .second, .val (.long q5), .second, .val (.long q6), .second, .val (.int v9), .unset, .unset, .unset, .unset, .unset, .unset, .unset, .unset, .unset, .unset, .unset, .unset] [(.int p2), (.int (1 : Int32))])) _
    refine X0.ldcInt hx hown (mvT hZ (hw _ (List.mem_of_getElem? (i := 0) rfl))) (g := (mkF m 13 #[.val (.int p1), .val (.int p2), .val (.int p3), .val (.long q4), .second, .val (.long q5), .second, .val (.long q6), .second, .val (.int v9), .unset, .unset, .unset, .unset, .unset, .unset, .unset, .unset, .unset, .unset, .unset, .unset] [(.int p2), (.int (1 : Int32))])) rfl (hb hby at_13) _ ?_
    show Steps p.tables e below (s₁.setTop (mkF m 15 #[.val (.int p1), .val (.int p2), .val (.int p3), .val (.long q4), .second, .val (.long q5), .second, .val (.long q6), .second, .val (.int v9), .unset, .unset, .unset, .unset, .unset, .unset, .unset, .unset, .unset, .unset, .unset, .unset] [(.int (2147483647 : Int32)), (.int p2), (.int (1 : Int32))])) _
    refine XS.iand X0.here hx rfl (hb hby at_15) rfl ?_
    show Steps p.tables e below (s₁.setTop (mkF m 16 #[.val (.int p1), .val (.int p2), .val (.int p3), .val (.long q4), .second, .val (.long q5), .second, .val (.long q6), .second, .val (.int v9), .unset, .unset, .unset, .unset, .unset, .unset, .unset, .unset, .unset, .unset, .unset, .unset] [(.int (p2 &&& (2147483647 : Int32))), (.int (1 : Int32))])) _
    refine XS.bipush X0.here hx rfl (hb hby at_16) ?_
    show Steps p.tables e below (s₁.setTop (mkF m 18 #[.val (.int p1), .val (.int p2), .val (.int p3), .val (.long q4), .second, .val (.long q5), .second, .val (.long q6), .second, .val (.int v9), .unset, .unset, .unset, .unset, .unset, .unset, .unset, .unset, .unset, .unset, .unset, .unset] [(.int (63 : Int32)), (.int (p2 &&& (2147483647 : Int32))), (.int (1 : Int32))])) _
    refine XS.iload X0.here hx rfl (hb hby at_18) rfl ?_
    show Steps p.tables e below (s₁.setTop (mkF m 20 #[.val (.int p1), .val (.int p2), .val (.int p3), .val (.long q4), .second, .val (.long q5), .second, .val (.long q6), .second, .val (.int v9), .unset, .unset, .unset, .unset, .unset, .unset, .unset, .unset, .unset, .unset, .unset, .unset] [(.int v9), (.int (63 : Int32)), (.int (p2 &&& (2147483647 : Int32))), (.int (1 : Int32))])) _
    refine XS.isub X0.here hx rfl (hb hby at_20) rfl ?_
    show Steps p.tables e below (s₁.setTop (mkF m 21 #[.val (.int p1), .val (.int p2), .val (.int p3), .val (.long q4), .second, .val (.long q5), .second, .val (.long q6), .second, .val (.int v9), .unset, .unset, .unset, .unset, .unset, .unset, .unset, .unset, .unset, .unset, .unset, .unset] [(.int ((63 : Int32) - v9)), (.int (p2 &&& (2147483647 : Int32))), (.int (1 : Int32))])) _
    refine iremM X0 hx rfl (hb hby at_21) rfl (own_z1 (k := 31) (by decide) (by decide) hv9) ?_
    show Steps p.tables e below (s₁.setTop (mkF m 22 #[.val (.int p1), .val (.int p2), .val (.int p3), .val (.long q4), .second, .val (.long q5), .second, .val (.long q6), .second, .val (.int v9), .unset, .unset, .unset, .unset, .unset, .unset, .unset, .unset, .unset, .unset, .unset, .unset] [(.int ((p2 &&& (2147483647 : Int32)) % ((63 : Int32) - v9))), (.int (1 : Int32))])) _
    refine XS.iadd X0.here hx rfl (hb hby at_22) rfl ?_
    show Steps p.tables e below (s₁.setTop (mkF m 23 #[.val (.int p1), .val (.int p2), .val (.int p3), .val (.long q4), .second, .val (.long q5), .second, .val (.long q6), .second, .val (.int v9), .unset, .unset, .unset, .unset, .unset, .unset, .unset, .unset, .unset, .unset, .unset, .unset] [(.int ((1 : Int32) + ((p2 &&& (2147483647 : Int32)) % ((63 : Int32) - v9))))])) _
    refine XS.istore X0.here hx rfl (hb hby at_23) rfl (l' := #[.val (.int p1), .val (.int p2), .val (.int p3), .val (.long q4), .second, .val (.long q5), .second, .val (.long q6), .second, .val (.int v9), .val (.int ((1 : Int32) + ((p2 &&& (2147483647 : Int32)) % ((63 : Int32) - v9)))), .unset, .unset, .unset, .unset, .unset, .unset, .unset, .unset, .unset, .unset, .unset]) rfl ?_
    show Steps p.tables e below (s₁.setTop (mkF m 25 #[.val (.int p1), .val (.int p2), .val (.int p3), .val (.long q4), .second, .val (.long q5), .second, .val (.long q6), .second, .val (.int v9), .val (.int ((1 : Int32) + ((p2 &&& (2147483647 : Int32)) % ((63 : Int32) - v9)))), .unset, .unset, .unset, .unset, .unset, .unset, .unset, .unset, .unset, .unset, .unset] [])) _
    exact k
  obtain ⟨v40, hv40⟩ : ∃ z : Int32, z = ((1 : Int32) + ((p3 &&& (2147483647 : Int32)) % (((64 : Int32) - v9) - v23))) := ⟨_, rfl⟩
  have pre3 : ∀ t, Steps p.tables e below (s₁.setTop (mkF m 42 #[.val (.int p1), .val (.int p2), .val (.int p3), .val (.long q4), .second, .val (.long q5), .second, .val (.long q6), .second, .val (.int v9), .val (.int v23), .val (.int v40), .unset, .unset, .unset, .unset, .unset, .unset, .unset, .unset, .unset, .unset] [])) t → Steps p.tables e below (s₁.setTop (entryFrame m #[(.int p1), (.int p2), (.int p3), (.long q4), (.long q5), (.long q6)] maxLocals)) t := by
    intro t k
    subst hv40
    refine pre2 t ?_
    refine XS.iconst X0.here hx rfl (hb hby at_25) ?_
    show Steps p.tables e below (s₁.setTop (mkF m 26 #[.val (.int p1), .val (.int p2), .val (.int p3), .val (.long q4), .second, .val (.long q5), .second, .val (.long q6), .second, .val (.int v9), .val (.int v23), .unset, .unset, .unset, .unset, .unset, .unset, .unset, .unset, .unset, .unset, .unset] [(.int (1 : Int32))])) _
    refine XS.iloadN X0.here hx rfl (hb hby at_26) rfl ?_
    show Steps p.tables e below (s₁.setTop (mkF m 27 #[.val (.int p1), .val (.int p2), .val (.int p3), .val (.long q4), .second, .val (.long q5), .second, .val (.long q6), .second, .val (.int v9), .val (.int v23), .unset, .unset, .unset, .unset, .unset, .unset, .unset, .unset, .unset, .unset, .unset] [(.int p3), (.int (1 : Int32))])) _
    refine X0.ldcInt hx hown (mvT hZ (hw _ (List.mem_of_getElem? (i := 0) rfl))) (g := (mkF m 27 #[.val (.int p1), .val (.int p2), .val (.int p3), .val (.long q4), .second, .val (.long q5), .second, .val (.long q6), .second, .val (.int v9), .val (.int v23), .unset, .unset, .unset, .unset, .unset, .unset, .unset, .unset, .unset, .unset, .unset] [(.int p3), (.int (1 : Int32))])) rfl (hb hby at_27) _ ?_
    show Steps p.tables e below (s₁.setTop (mkF m 29 #[.val (.int p1), .val (.int p2), .val (.int p3), .val (.long q4), .second, .val (.long q5), .second, .val (.long q6), .second, .val (.int v9), .val (.int v23), .unset, .unset, .unset, .unset, .unset, .unset, .unset, .unset, .unset, .unset, .unset] [(.int (2147483647 : Int32)), (.int p3), (.int (1 : Int32))])) _
    refine XS.iand X0.here hx rfl (hb hby at_29) rfl ?_
    show Steps p.tables e below (s₁.setTop (mkF m 30 #[.val (.int p1), .val (.int p2), .val (.int p3), .val (.long q4), .second, .val (.long q5), .second, .val (.long q6), .second, .val (.int v9), .val (.int v23), .unset, .unset, .unset, .unset, .unset, .unset, .unset, .unset, .unset, .unset, .unset] [(.int (p3 &&& (2147483647 : Int32))), (.int (1 : Int32))])) _
    refine XS.bipush X0.here hx rfl (hb hby at_30) ?_
    show Steps p.tables e below (s₁.setTop (mkF m 32 #[.val (.int p1), .val (.int p2), .val (.int p3), .val (.long q4), .second, .val (.long q5), .second, .val (.long q6), .second, .val (.int v9), .val (.int v23), .unset, .unset, .unset, .unset, .unset, .unset, .unset, .unset, .unset, .unset, .unset] [(.int (64 : Int32)), (.int (p3 &&& (2147483647 : Int32))), (.int (1 : Int32))])) _
    refine XS.iload X0.here hx rfl (hb hby at_32) rfl ?_
    show Steps p.tables e below (s₁.setTop (mkF m 34 #[.val (.int p1), .val (.int p2), .val (.int p3), .val (.long q4), .second, .val (.long q5), .second, .val (.long q6), .second, .val (.int v9), .val (.int v23), .unset, .unset, .unset, .unset, .unset, .unset, .unset, .unset, .unset, .unset, .unset] [(.int v9), (.int (64 : Int32)), (.int (p3 &&& (2147483647 : Int32))), (.int (1 : Int32))])) _
    refine XS.isub X0.here hx rfl (hb hby at_34) rfl ?_
    show Steps p.tables e below (s₁.setTop (mkF m 35 #[.val (.int p1), .val (.int p2), .val (.int p3), .val (.long q4), .second, .val (.long q5), .second, .val (.long q6), .second, .val (.int v9), .val (.int v23), .unset, .unset, .unset, .unset, .unset, .unset, .unset, .unset, .unset, .unset, .unset] [(.int ((64 : Int32) - v9)), (.int (p3 &&& (2147483647 : Int32))), (.int (1 : Int32))])) _
    refine XS.iload X0.here hx rfl (hb hby at_35) rfl ?_
    show Steps p.tables e below (s₁.setTop (mkF m 37 #[.val (.int p1), .val (.int p2), .val (.int p3), .val (.long q4), .second, .val (.long q5), .second, .val (.long q6), .second, .val (.int v9), .val (.int v23), .unset, .unset, .unset, .unset, .unset, .unset, .unset, .unset, .unset, .unset, .unset] [(.int v23), (.int ((64 : Int32) - v9)), (.int (p3 &&& (2147483647 : Int32))), (.int (1 : Int32))])) _
    refine XS.isub X0.here hx rfl (hb hby at_37) rfl ?_
    show Steps p.tables e below (s₁.setTop (mkF m 38 #[.val (.int p1), .val (.int p2), .val (.int p3), .val (.long q4), .second, .val (.long q5), .second, .val (.long q6), .second, .val (.int v9), .val (.int v23), .unset, .unset, .unset, .unset, .unset, .unset, .unset, .unset, .unset, .unset, .unset] [(.int (((64 : Int32) - v9) - v23)), (.int (p3 &&& (2147483647 : Int32))), (.int (1 : Int32))])) _
    refine iremM X0 hx rfl (hb hby at_38) rfl (own_z2 (k := 31) (by decide) (by decide) hv9 hv23) ?_
    show Steps p.tables e below (s₁.setTop (mkF m 39 #[.val (.int p1), .val (.int p2), .val (.int p3), .val (.long q4), .second, .val (.long q5), .second, .val (.long q6), .second, .val (.int v9), .val (.int v23), .unset, .unset, .unset, .unset, .unset, .unset, .unset, .unset, .unset, .unset, .unset] [(.int ((p3 &&& (2147483647 : Int32)) % (((64 : Int32) - v9) - v23))), (.int (1 : Int32))])) _
    refine XS.iadd X0.here hx rfl (hb hby at_39) rfl ?_
    show Steps p.tables e below (s₁.setTop (mkF m 40 #[.val (.int p1), .val (.int p2), .val (.int p3), .val (.long q4), .second, .val (.long q5), .second, .val (.long q6), .second, .val (.int v9), .val (.int v23), .unset, .unset, .unset, .unset, .unset, .unset, .unset, .unset, .unset, .unset, .unset] [(.int ((1 : Int32) + ((p3 &&& (2147483647 : Int32)) % (((64 : Int32) - v9) - v23))))])) _
    refine XS.istore X0.here hx rfl (hb hby at_40) rfl (l' := #[.val (.int p1), .val (.int p2), .val (.int p3), .val (.long q4), .second, .val (.long q5), .second, .val (.long q6), .second, .val (.int v9), .val (.int v23), .val (.int ((1 : Int32) + ((p3 &&& (2147483647 : Int32)) % (((64 : Int32) - v9) - v23)))), .unset, .unset, .unset, .unset, .unset, .unset, .unset, .unset, .unset, .unset]) rfl ?_
    show Steps p.tables e below (s₁.setTop (mkF m 42 #[.val (.int p1), .val (.int p2), .val (.int p3), .val (.long q4), .second, .val (.long q5), .second, .val (.long q6), .second, .val (.int v9), .val (.int v23), .val (.int ((1 : Int32) + ((p3 &&& (2147483647 : Int32)) % (((64 : Int32) - v9) - v23)))), .unset, .unset, .unset, .unset, .unset, .unset, .unset, .unset, .unset, .unset] [])) _
    exact k
  obtain ⟨v49, hv49⟩ : ∃ z : Int64, z = ((q4.toUInt64 >>> (((64 : Int32) - v9) &&& 0x3f).toInt64.toUInt64).toInt64) := ⟨_, rfl⟩
  have pre4 : ∀ t, Steps p.tables e below (s₁.setTop (mkF m 51 #[.val (.int p1), .val (.int p2), .val (.int p3), .val (.long q4), .second, .val (.long q5), .second, .val (.long q6), .second, .val (.int v9), .val (.int v23), .val (.int v40), .val (.long v49), .second, .unset, .unset, .unset, .unset, .unset, .unset, .unset, .unset] [])) t → Steps p.tables e below (s₁.setTop (entryFrame m #[(.int p1), (.int p2), (.int p3), (.long q4), (.long q5), (.long q6)] maxLocals)) t := by
    intro t k
    subst hv49
    refine pre3 t ?_
    refine XS.lloadN X0.here hx rfl (hb hby at_42) rfl ?_
    show Steps p.tables e below (s₁.setTop (mkF m 43 #[.val (.int p1), .val (.int p2), .val (.int p3), .val (.long q4), .second, .val (.long q5), .second, .val (.long q6), .second, .val (.int v9), .val (.int v23), .val (.int v40), .unset, .unset, .unset, .unset, .unset, .unset, .unset, .unset, .unset, .unset] [(.long q4)])) _
    refine XS.bipush X0.here hx rfl (hb hby at_43) ?_
    show Steps p.tables e below (s₁.setTop (mkF m 45 #[.val (.int p1), .val (.int p2), .val (.int p3), .val (.long q4), .second, .val (.long q5), .second, .val (.long q6), .second, .val (.int v9), .val (.int v23), .val (.int v40), .unset, .unset, .unset, .unset, .unset, .unset, .unset, .unset, .unset, .unset] [(.int (64 : Int32)), (.long q4)])) _
    refine XS.iload X0.here hx rfl (hb hby at_45) rfl ?_
    show Steps p.tables e below (s₁.setTop (mkF m 47 #[.val (.int p1), .val (.int p2), .val (.int p3), .val (.long q4), .second, .val (.long q5), .second, .val (.long q6), .second, .val (.int v9), .val (.int v23), .val (.int v40), .unset, .unset, .unset, .unset, .unset, .unset, .unset, .unset, .unset, .unset] [(.int v9), (.int (64 : Int32)), (.long q4)])) _
    refine XS.isub X0.here hx rfl (hb hby at_47) rfl ?_
    show Steps p.tables e below (s₁.setTop (mkF m 48 #[.val (.int p1), .val (.int p2), .val (.int p3), .val (.long q4), .second, .val (.long q5), .second, .val (.long q6), .second, .val (.int v9), .val (.int v23), .val (.int v40), .unset, .unset, .unset, .unset, .unset, .unset, .unset, .unset, .unset, .unset] [(.int ((64 : Int32) - v9)), (.long q4)])) _
    refine XS.lushr X0.here hx rfl (hb hby at_48) rfl ?_
    show Steps p.tables e below (s₁.setTop (mkF m 49 #[.val (.int p1), .val (.int p2), .val (.int p3), .val (.long q4), .second, .val (.long q5), .second, .val (.long q6), .second, .val (.int v9), .val (.int v23), .val (.int v40), .unset, .unset, .unset, .unset, .unset, .unset, .unset, .unset, .unset, .unset] [(.long ((q4.toUInt64 >>> (((64 : Int32) - v9) &&& 0x3f).toInt64.toUInt64).toInt64))])) _
    refine XS.lstore X0.here hx rfl (hb hby at_49) rfl (l' := #[.val (.int p1), .val (.int p2), .val (.int p3), .val (.long q4), .second, .val (.long q5), .second, .val (.long q6), .second, .val (.int v9), .val (.int v23), .val (.int v40), .val (.long ((q4.toUInt64 >>> (((64 : Int32) - v9) &&& 0x3f).toInt64.toUInt64).toInt64)), .second, .unset, .unset, .unset, .unset, .unset, .unset, .unset, .unset]) rfl ?_
    show Steps p.tables e below (s₁.setTop (mkF m 51 #[.val (.int p1), .val (.int p2), .val (.int p3), .val (.long q4), .second, .val (.long q5), .second, .val (.long q6), .second, .val (.int v9), .val (.int v23), .val (.int v40), .val (.long ((q4.toUInt64 >>> (((64 : Int32) - v9) &&& 0x3f).toInt64.toUInt64).toInt64)), .second, .unset, .unset, .unset, .unset, .unset, .unset, .unset, .unset] [])) _
    exact k
  obtain ⟨v59, hv59⟩ : ∃ z : Int64, z = ((q5.toUInt64 >>> (((64 : Int32) - v23) &&& 0x3f).toInt64.toUInt64).toInt64) := ⟨_, rfl⟩
  have pre5 : ∀ t, Steps p.tables e below (s₁.setTop (mkF m 61 #[.val (.int p1), .val (.int p2), .val (.int p3), .val (.long q4), .second, .val (.long q5), .second, .val (.long q6), .second, .val (.int v9), .val (.int v23), .val (.int v40), .val (.long v49), .second, .val (.long v59), .second, .unset, .unset, .unset, .unset, .unset, .unset] [])) t → Steps p.tables e below (s₁.setTop (entryFrame m #[(.int p1), (.int p2), (.int p3), (.long q4), (.long q5), (.long q6)] maxLocals)) t := by
    intro t k
    subst hv59
    refine pre4 t ?_
    refine XS.lload X0.here hx rfl (hb hby at_51) rfl ?_
    show Steps p.tables e below (s₁.setTop (mkF m 53 #[.val (.int p1), .val (.int p2), .val (.int p3), .val (.long q4), .second, .val (.long q5), .second, .val (.long q6), .second, .val (.int v9), .val (.int v23), .val (.int v40), .val (.long v49), .second, .unset, .unset, .unset, .unset, .unset, .unset, .unset, .unset] [(.long q5)])) _
    refine XS.bipush X0.here hx rfl (hb hby at_53) ?_
    show Steps p.tables e below (s₁.setTop (mkF m 55 #[.val (.int p1), .val (.int p2), .val (.int p3), .val (.long q4), .second, .val (.long q5), .second, .val (.long q6), .second, .val (.int v9), .val (.int v23), .val (.int v40), .val (.long v49), .second, .unset, .unset, .unset, .unset, .unset, .unset, .unset, .unset] [(.int (64 : Int32)), (.long q5)])) _
    refine XS.iload X0.here hx rfl (hb hby at_55) rfl ?_
    show Steps p.tables e below (s₁.setTop (mkF m 57 #[.val (.int p1), .val (.int p2), .val (.int p3), .val (.long q4), .second, .val (.long q5), .second, .val (.long q6), .second, .val (.int v9), .val (.int v23), .val (.int v40), .val (.long v49), .second, .unset, .unset, .unset, .unset, .unset, .unset, .unset, .unset] [(.int v23), (.int (64 : Int32)), (.long q5)])) _
    refine XS.isub X0.here hx rfl (hb hby at_57) rfl ?_
    show Steps p.tables e below (s₁.setTop (mkF m 58 #[.val (.int p1), .val (.int p2), .val (.int p3), .val (.long q4), .second, .val (.long q5), .second, .val (.long q6), .second, .val (.int v9), .val (.int v23), .val (.int v40), .val (.long v49), .second, .unset, .unset, .unset, .unset, .unset, .unset, .unset, .unset] [(.int ((64 : Int32) - v23)), (.long q5)])) _
    refine XS.lushr X0.here hx rfl (hb hby at_58) rfl ?_
    show Steps p.tables e below (s₁.setTop (mkF m 59 #[.val (.int p1), .val (.int p2), .val (.int p3), .val (.long q4), .second, .val (.long q5), .second, .val (.long q6), .second, .val (.int v9), .val (.int v23), .val (.int v40), .val (.long v49), .second, .unset, .unset, .unset, .unset, .unset, .unset, .unset, .unset] [(.long ((q5.toUInt64 >>> (((64 : Int32) - v23) &&& 0x3f).toInt64.toUInt64).toInt64))])) _
    refine XS.lstore X0.here hx rfl (hb hby at_59) rfl (l' := #[.val (.int p1), .val (.int p2), .val (.int p3), .val (.long q4), .second, .val (.long q5), .second, .val (.long q6), .second, .val (.int v9), .val (.int v23), .val (.int v40), .val (.long v49), .second, .val (.long ((q5.toUInt64 >>> (((64 : Int32) - v23) &&& 0x3f).toInt64.toUInt64).toInt64)), .second, .unset, .unset, .unset, .unset, .unset, .unset]) rfl ?_
    show Steps p.tables e below (s₁.setTop (mkF m 61 #[.val (.int p1), .val (.int p2), .val (.int p3), .val (.long q4), .second, .val (.long q5), .second, .val (.long q6), .second, .val (.int v9), .val (.int v23), .val (.int v40), .val (.long v49), .second, .val (.long ((q5.toUInt64 >>> (((64 : Int32) - v23) &&& 0x3f).toInt64.toUInt64).toInt64)), .second, .unset, .unset, .unset, .unset, .unset, .unset] [])) _
    exact k
  obtain ⟨v69, hv69⟩ : ∃ z : Int64, z = ((q6.toUInt64 >>> (((64 : Int32) - v40) &&& 0x3f).toInt64.toUInt64).toInt64) := ⟨_, rfl⟩
  have pre6 : ∀ t, Steps p.tables e below (s₁.setTop (mkF m 71 #[.val (.int p1), .val (.int p2), .val (.int p3), .val (.long q4), .second, .val (.long q5), .second, .val (.long q6), .second, .val (.int v9), .val (.int v23), .val (.int v40), .val (.long v49), .second, .val (.long v59), .second, .val (.long v69), .second, .unset, .unset, .unset, .unset] [])) t → Steps p.tables e below (s₁.setTop (entryFrame m #[(.int p1), (.int p2), (.int p3), (.long q4), (.long q5), (.long q6)] maxLocals)) t := by
    intro t k
    subst hv69
    refine pre5 t ?_
    refine XS.lload X0.here hx rfl (hb hby at_61) rfl ?_
    show Steps p.tables e below (s₁.setTop (mkF m 63 #[.val (.int p1), .val (.int p2), .val (.int p3), .val (.long q4), .second, .val (.long q5), .second, .val (.long q6), .second, .val (.int v9), .val (.int v23), .val (.int v40), .val (.long v49), .second, .val (.long v59), .second, .unset, .unset, .unset, .unset, .unset, .unset] [(.long q6)])) _
    refine XS.bipush X0.here hx rfl (hb hby at_63) ?_
    show Steps p.tables e below (s₁.setTop (mkF m 65 #[.val (.int p1), .val (.int p2), .val (.int p3), .val (.long q4), .second, .val (.long q5), .second, .val (.long q6), .second, .val (.int v9), .val (.int v23), .val (.int v40), .val (.long v49), .second, .val (.long v59), .second, .unset, .unset, .unset, .unset, .unset, .unset] [(.int (64 : Int32)), (.long q6)])) _
    refine XS.iload X0.here hx rfl (hb hby at_65) rfl ?_
    show Steps p.tables e below (s₁.setTop (mkF m 67 #[.val (.int p1), .val (.int p2), .val (.int p3), .val (.long q4), .second, .val (.long q5), .second, .val (.long q6), .second, .val (.int v9), .val (.int v23), .val (.int v40), .val (.long v49), .second, .val (.long v59), .second, .unset, .unset, .unset, .unset, .unset, .unset] [(.int v40), (.int (64 : Int32)), (.long q6)])) _
    refine XS.isub X0.here hx rfl (hb hby at_67) rfl ?_
    show Steps p.tables e below (s₁.setTop (mkF m 68 #[.val (.int p1), .val (.int p2), .val (.int p3), .val (.long q4), .second, .val (.long q5), .second, .val (.long q6), .second, .val (.int v9), .val (.int v23), .val (.int v40), .val (.long v49), .second, .val (.long v59), .second, .unset, .unset, .unset, .unset, .unset, .unset] [(.int ((64 : Int32) - v40)), (.long q6)])) _
    refine XS.lushr X0.here hx rfl (hb hby at_68) rfl ?_
    show Steps p.tables e below (s₁.setTop (mkF m 69 #[.val (.int p1), .val (.int p2), .val (.int p3), .val (.long q4), .second, .val (.long q5), .second, .val (.long q6), .second, .val (.int v9), .val (.int v23), .val (.int v40), .val (.long v49), .second, .val (.long v59), .second, .unset, .unset, .unset, .unset, .unset, .unset] [(.long ((q6.toUInt64 >>> (((64 : Int32) - v40) &&& 0x3f).toInt64.toUInt64).toInt64))])) _
    refine XS.lstore X0.here hx rfl (hb hby at_69) rfl (l' := #[.val (.int p1), .val (.int p2), .val (.int p3), .val (.long q4), .second, .val (.long q5), .second, .val (.long q6), .second, .val (.int v9), .val (.int v23), .val (.int v40), .val (.long v49), .second, .val (.long v59), .second, .val (.long ((q6.toUInt64 >>> (((64 : Int32) - v40) &&& 0x3f).toInt64.toUInt64).toInt64)), .second, .unset, .unset, .unset, .unset]) rfl ?_
    show Steps p.tables e below (s₁.setTop (mkF m 71 #[.val (.int p1), .val (.int p2), .val (.int p3), .val (.long q4), .second, .val (.long q5), .second, .val (.long q6), .second, .val (.int v9), .val (.int v23), .val (.int v40), .val (.long v49), .second, .val (.long v59), .second, .val (.long ((q6.toUInt64 >>> (((64 : Int32) - v40) &&& 0x3f).toInt64.toUInt64).toInt64)), .second, .unset, .unset, .unset, .unset] [])) _
    exact k
  obtain ⟨v88, hv88⟩ : ∃ z : Int64, z = (((v49 <<< ((v23 + v40) &&& 0x3f).toInt64) ||| (v59 <<< (v40 &&& 0x3f).toInt64)) ||| v69) := ⟨_, rfl⟩
  have pre7 : ∀ t, Steps p.tables e below (s₁.setTop (mkF m 90 #[.val (.int p1), .val (.int p2), .val (.int p3), .val (.long q4), .second, .val (.long q5), .second, .val (.long q6), .second, .val (.int v9), .val (.int v23), .val (.int v40), .val (.long v49), .second, .val (.long v59), .second, .val (.long v69), .second, .val (.long v88), .second, .unset, .unset] [])) t → Steps p.tables e below (s₁.setTop (entryFrame m #[(.int p1), (.int p2), (.int p3), (.long q4), (.long q5), (.long q6)] maxLocals)) t := by
    intro t k
    subst hv88
    refine pre6 t ?_
    refine XS.lload X0.here hx rfl (hb hby at_71) rfl ?_
    show Steps p.tables e below (s₁.setTop (mkF m 73 #[.val (.int p1), .val (.int p2), .val (.int p3), .val (.long q4), .second, .val (.long q5), .second, .val (.long q6), .second, .val (.int v9), .val (.int v23), .val (.int v40), .val (.long v49), .second, .val (.long v59), .second, .val (.long v69), .second, .unset, .unset, .unset, .unset] [(.long v49)])) _
    refine XS.iload X0.here hx rfl (hb hby at_73) rfl ?_
    show Steps p.tables e below (s₁.setTop (mkF m 75 #[.val (.int p1), .val (.int p2), .val (.int p3), .val (.long q4), .second, .val (.long q5), .second, .val (.long q6), .second, .val (.int v9), .val (.int v23), .val (.int v40), .val (.long v49), .second, .val (.long v59), .second, .val (.long v69), .second, .unset, .unset, .unset, .unset] [(.int v23), (.long v49)])) _
    refine XS.iload X0.here hx rfl (hb hby at_75) rfl ?_
    show Steps p.tables e below (s₁.setTop (mkF m 77 #[.val (.int p1), .val (.int p2), .val (.int p3), .val (.long q4), .second, .val (.long q5), .second, .val (.long q6), .second, .val (.int v9), .val (.int v23), .val (.int v40), .val (.long v49), .second, .val (.long v59), .second, .val (.long v69), .second, .unset, .unset, .unset, .unset] [(.int v40), (.int v23), (.long v49)])) _
    refine XS.iadd X0.here hx rfl (hb hby at_77) rfl ?_
    show Steps p.tables e below (s₁.setTop (mkF m 78 #[.val (.int p1), .val (.int p2), .val (.int p3), .val (.long q4), .second, .val (.long q5), .second, .val (.long q6), .second, .val (.int v9), .val (.int v23), .val (.int v40), .val (.long v49), .second, .val (.long v59), .second, .val (.long v69), .second, .unset, .unset, .unset, .unset] [(.int (v23 + v40)), (.long v49)])) _
    refine XS.lshl X0.here hx rfl (hb hby at_78) rfl ?_
    show Steps p.tables e below (s₁.setTop (mkF m 79 #[.val (.int p1), .val (.int p2), .val (.int p3), .val (.long q4), .second, .val (.long q5), .second, .val (.long q6), .second, .val (.int v9), .val (.int v23), .val (.int v40), .val (.long v49), .second, .val (.long v59), .second, .val (.long v69), .second, .unset, .unset, .unset, .unset] [(.long (v49 <<< ((v23 + v40) &&& 0x3f).toInt64))])) _
    refine XS.lload X0.here hx rfl (hb hby at_79) rfl ?_
    show Steps p.tables e below (s₁.setTop (mkF m 81 #[.val (.int p1), .val (.int p2), .val (.int p3), .val (.long q4), .second, .val (.long q5), .second, .val (.long q6), .second, .val (.int v9), .val (.int v23), .val (.int v40), .val (.long v49), .second, .val (.long v59), .second, .val (.long v69), .second, .unset, .unset, .unset, .unset] [(.long v59), (.long (v49 <<< ((v23 + v40) &&& 0x3f).toInt64))])) _
    refine XS.iload X0.here hx rfl (hb hby at_81) rfl ?_
    show Steps p.tables e below (s₁.setTop (mkF m 83 #[.val (.int p1), .val (.int p2), .val (.int p3), .val (.long q4), .second, .val (.long q5), .second, .val (.long q6), .second, .val (.int v9), .val (.int v23), .val (.int v40), .val (.long v49), .second, .val (.long v59), .second, .val (.long v69), .second, .unset, .unset, .unset, .unset] [(.int v40), (.long v59), (.long (v49 <<< ((v23 + v40) &&& 0x3f).toInt64))])) _
    refine XS.lshl X0.here hx rfl (hb hby at_83) rfl ?_
    show Steps p.tables e below (s₁.setTop (mkF m 84 #[.val (.int p1), .val (.int p2), .val (.int p3), .val (.long q4), .second, .val (.long q5), .second, .val (.long q6), .second, .val (.int v9), .val (.int v23), .val (.int v40), .val (.long v49), .second, .val (.long v59), .second, .val (.long v69), .second, .unset, .unset, .unset, .unset] [(.long (v59 <<< (v40 &&& 0x3f).toInt64)), (.long (v49 <<< ((v23 + v40) &&& 0x3f).toInt64))])) _
    refine XS.lor X0.here hx rfl (hb hby at_84) rfl ?_
    show Steps p.tables e below (s₁.setTop (mkF m 85 #[.val (.int p1), .val (.int p2), .val (.int p3), .val (.long q4), .second, .val (.long q5), .second, .val (.long q6), .second, .val (.int v9), .val (.int v23), .val (.int v40), .val (.long v49), .second, .val (.long v59), .second, .val (.long v69), .second, .unset, .unset, .unset, .unset] [(.long ((v49 <<< ((v23 + v40) &&& 0x3f).toInt64) ||| (v59 <<< (v40 &&& 0x3f).toInt64)))])) _
    refine XS.lload X0.here hx rfl (hb hby at_85) rfl ?_
    show Steps p.tables e below (s₁.setTop (mkF m 87 #[.val (.int p1), .val (.int p2), .val (.int p3), .val (.long q4), .second, .val (.long q5), .second, .val (.long q6), .second, .val (.int v9), .val (.int v23), .val (.int v40), .val (.long v49), .second, .val (.long v59), .second, .val (.long v69), .second, .unset, .unset, .unset, .unset] [(.long v69), (.long ((v49 <<< ((v23 + v40) &&& 0x3f).toInt64) ||| (v59 <<< (v40 &&& 0x3f).toInt64)))])) _
    refine XS.lor X0.here hx rfl (hb hby at_87) rfl ?_
    show Steps p.tables e below (s₁.setTop (mkF m 88 #[.val (.int p1), .val (.int p2), .val (.int p3), .val (.long q4), .second, .val (.long q5), .second, .val (.long q6), .second, .val (.int v9), .val (.int v23), .val (.int v40), .val (.long v49), .second, .val (.long v59), .second, .val (.long v69), .second, .unset, .unset, .unset, .unset] [(.long (((v49 <<< ((v23 + v40) &&& 0x3f).toInt64) ||| (v59 <<< (v40 &&& 0x3f).toInt64)) ||| v69))])) _
    refine XS.lstore X0.here hx rfl (hb hby at_88) rfl (l' := #[.val (.int p1), .val (.int p2), .val (.int p3), .val (.long q4), .second, .val (.long q5), .second, .val (.long q6), .second, .val (.int v9), .val (.int v23), .val (.int v40), .val (.long v49), .second, .val (.long v59), .second, .val (.long v69), .second, .val (.long (((v49 <<< ((v23 + v40) &&& 0x3f).toInt64) ||| (v59 <<< (v40 &&& 0x3f).toInt64)) ||| v69)), .second, .unset, .unset]) rfl ?_
    show Steps p.tables e below (s₁.setTop (mkF m 90 #[.val (.int p1), .val (.int p2), .val (.int p3), .val (.long q4), .second, .val (.long q5), .second, .val (.long q6), .second, .val (.int v9), .val (.int v23), .val (.int v40), .val (.long v49), .second, .val (.long v59), .second, .val (.long v69), .second, .val (.long (((v49 <<< ((v23 + v40) &&& 0x3f).toInt64) ||| (v59 <<< (v40 &&& 0x3f).toInt64)) ||| v69)), .second, .unset, .unset] [])) _
    exact k
  have hdec := own_dec (own_R1 hv9 hv23 hv40) hv49 hv59 hv69 hv88
  obtain ⟨T8, h8, X8, e8, E8, A8, D8, -, st8⟩ := newO X0 hx hZ hown (hw _ (List.mem_of_getElem? (i := 1) rfl)) (hw _ (List.mem_of_getElem? (i := 2) rfl)) (hw _ (List.mem_of_getElem? (i := 3) rfl)) e0 (g := (mkF m 90 #[.val (.int p1), .val (.int p2), .val (.int p3), .val (.long q4), .second, .val (.long q5), .second, .val (.long q6), .second, .val (.int v9), .val (.int v23), .val (.int v40), .val (.long v49), .second, .val (.long v59), .second, .val (.long v69), .second, .val (.long v88), .second, .unset, .unset] [])) rfl (hb hby at_90) (by decide) (by decide)
  obtain ⟨b8, g8⟩ : ∃ z, z = h0.size := ⟨_, rfl⟩
  rw [← g8] at A8 D8 st8
  have gg8 : n0 ≤ b8 := Nat.le_trans Z0 (Nat.le_of_eq g8.symm)
  have Z8 : n0 ≤ h8.size := Nat.le_trans Z0 E8.1
  have F8_timestampBits : Fld Z h8 b8 "com/example/rimefall/rimefall/model/Layout" "timestampBits" "I" (.int (0 : Int32)) := D8 (Or.inr (hw _ (List.mem_of_getElem? (i := 22) rfl))) (ty := .int) (by decide)
  have F8_nodeBits : Fld Z h8 b8 "com/example/rimefall/rimefall/model/Layout" "nodeBits" "I" (.int (0 : Int32)) := D8 (Or.inr (hw _ (List.mem_of_getElem? (i := 24) rfl))) (ty := .int) (by decide)
  have F8_sequenceBits : Fld Z h8 b8 "com/example/rimefall/rimefall/model/Layout" "sequenceBits" "I" (.int (0 : Int32)) := D8 (Or.inr (hw _ (List.mem_of_getElem? (i := 26) rfl))) (ty := .int) (by decide)
  have F8_epochMillis : Fld Z h8 b8 "com/example/rimefall/rimefall/model/Layout" "epochMillis" "J" (.long (0 : Int64)) := D8 (Or.inr (hw _ (List.mem_of_getElem? (i := 28) rfl))) (ty := .long) (by decide)
  have pre8 : ∀ t, Steps p.tables e below (T8.setTop (mkF m 93 #[.val (.int p1), .val (.int p2), .val (.int p3), .val (.long q4), .second, .val (.long q5), .second, .val (.long q6), .second, .val (.int v9), .val (.int v23), .val (.int v40), .val (.long v49), .second, .val (.long v59), .second, .val (.long v69), .second, .val (.long v88), .second, .unset, .unset] [(.ref b8)])) t → Steps p.tables e below (s₁.setTop (entryFrame m #[(.int p1), (.int p2), (.int p3), (.long q4), (.long q5), (.long q6)] maxLocals)) t := fun t k => pre7 t (st8 _ k)
  have pre9 : ∀ t, Steps p.tables e below (T8.setTop (mkF m 101 #[.val (.int p1), .val (.int p2), .val (.int p3), .val (.long q4), .second, .val (.long q5), .second, .val (.long q6), .second, .val (.int v9), .val (.int v23), .val (.int v40), .val (.long v49), .second, .val (.long v59), .second, .val (.long v69), .second, .val (.long v88), .second, .unset, .unset] [(.long (0 : Int64)), (.int v40), (.int v23), (.int v9), (.ref b8), (.ref b8)])) t → Steps p.tables e below (s₁.setTop (entryFrame m #[(.int p1), (.int p2), (.int p3), (.long q4), (.long q5), (.long q6)] maxLocals)) t := by
    intro t k
    refine pre8 t ?_
    refine XS.dup X8.here hx rfl (hb hby at_93) rfl rfl ?_
    show Steps p.tables e below (T8.setTop (mkF m 94 #[.val (.int p1), .val (.int p2), .val (.int p3), .val (.long q4), .second, .val (.long q5), .second, .val (.long q6), .second, .val (.int v9), .val (.int v23), .val (.int v40), .val (.long v49), .second, .val (.long v59), .second, .val (.long v69), .second, .val (.long v88), .second, .unset, .unset] [(.ref b8), (.ref b8)])) _
    refine XS.iload X8.here hx rfl (hb hby at_94) rfl ?_
    show Steps p.tables e below (T8.setTop (mkF m 96 #[.val (.int p1), .val (.int p2), .val (.int p3), .val (.long q4), .second, .val (.long q5), .second, .val (.long q6), .second, .val (.int v9), .val (.int v23), .val (.int v40), .val (.long v49), .second, .val (.long v59), .second, .val (.long v69), .second, .val (.long v88), .second, .unset, .unset] [(.int v9), (.ref b8), (.ref b8)])) _
    refine XS.iload X8.here hx rfl (hb hby at_96) rfl ?_
    show Steps p.tables e below (T8.setTop (mkF m 98 #[.val (.int p1), .val (.int p2), .val (.int p3), .val (.long q4), .second, .val (.long q5), .second, .val (.long q6), .second, .val (.int v9), .val (.int v23), .val (.int v40), .val (.long v49), .second, .val (.long v59), .second, .val (.long v69), .second, .val (.long v88), .second, .unset, .unset] [(.int v23), (.int v9), (.ref b8), (.ref b8)])) _
    refine XS.iload X8.here hx rfl (hb hby at_98) rfl ?_
    show Steps p.tables e below (T8.setTop (mkF m 100 #[.val (.int p1), .val (.int p2), .val (.int p3), .val (.long q4), .second, .val (.long q5), .second, .val (.long q6), .second, .val (.int v9), .val (.int v23), .val (.int v40), .val (.long v49), .second, .val (.long v59), .second, .val (.long v69), .second, .val (.long v88), .second, .unset, .unset] [(.int v40), (.int v23), (.int v9), (.ref b8), (.ref b8)])) _
    refine XS.lconst X8.here hx rfl (hb hby at_100) ?_
    show Steps p.tables e below (T8.setTop (mkF m 101 #[.val (.int p1), .val (.int p2), .val (.int p3), .val (.long q4), .second, .val (.long q5), .second, .val (.long q6), .second, .val (.int v9), .val (.int v23), .val (.int v40), .val (.long v49), .second, .val (.long v59), .second, .val (.long v69), .second, .val (.long v88), .second, .unset, .unset] [(.long (0 : Int64)), (.int v40), (.int v23), (.int v9), (.ref b8), (.ref b8)])) _
    exact k
  obtain ⟨_, _, ⟨T10, L10, k10, n10⟩, -, X10, ⟨Lc10, hQ10, l10, y10, z10⟩, st10⟩ := X8.specialBack hx (y := (⟨"com/example/rimefall/rimefall/model/Layout", "<init>", "(IIIJ)V"⟩ : MethodName)) rfl hown (mvT hZ (hw _ (List.mem_of_getElem? (i := 4) rfl))) (mvT hZ (hw _ (List.mem_of_getElem? (i := 5) rfl))) (mvT hZ (hw _ (List.mem_of_getElem? (i := 6) rfl))) (by decide) (backOf (W := 1) (rmC l Z a0 hw [] b8 v9 v23 v40 (0 : Int64) h8 n0 Z8 A8 F8_timestampBits F8_nodeBits F8_sequenceBits F8_epochMillis gg8 (own_not1 (own_R1 hv9 hv23 hv40).1.1) (own_not1 (own_R1 hv9 hv23 hv40).2.1.1) (own_not1 (own_R1 hv9 hv23 hv40).2.2.1.1) (own_sum3 (own_R1 hv9 hv23 hv40).1.1 (own_R1 hv9 hv23 hv40).2.1.1 (own_R1 hv9 hv23 hv40).2.2.1.1 (own_R1 hv9 hv23 hv40).2.2.2) (by decide) (own_ep1 (own_R1 hv9 hv23 hv40).1)) hZ (hw _ (List.mem_of_getElem? (i := 6) rfl)) (hw _ (List.mem_of_getElem? (i := 3) rfl)) (by decide) (by decide)) (g := (mkF m 101 #[.val (.int p1), .val (.int p2), .val (.int p3), .val (.long q4), .second, .val (.long q5), .second, .val (.long q6), .second, .val (.int v9), .val (.int v23), .val (.int v40), .val (.long v49), .second, .val (.long v59), .second, .val (.long v69), .second, .val (.long v88), .second, .unset, .unset] [(.long (0 : Int64)), (.int v40), (.int v23), (.int v9), (.ref b8), (.ref b8)])) rfl (by rw [hml]; rfl) (Steps.refl _) (a := b8) (argsL := [(.int v9), (.int v23), (.int v40), (.long (0 : Int64))]) (rest := [(.ref b8)]) (lenOf pd0_0 rfl) rfl (by show 2 * 0 + _ ≤ _; exact Nat.le_of_eq rfl) (hb hby at_101) (fun _ _ => ⟨rfl, e8, (by decide : 1 + 0 ≤ _), (by decide : 4 + 0 ≤ _)⟩)
  dsimp only [Pt.U, Pt.locs, Pt.cells, Pt.slots] at X10 l10 y10 z10 st10 hQ10
  subst l10 y10 z10
  obtain ⟨rfl, Nq10, Kc10, Ec10, Fc10_timestampBits, Fc10_nodeBits, Fc10_sequenceBits, Fc10_epochMillis⟩ := hQ10
  have F10_0 := A8.keep Kc10
  have Z10 : n0 ≤ T10.heap.size := Nat.le_trans Z8 Kc10.1
  have N10 := Fr.app N0 Nq10
  have pre10 : ∀ t, Steps p.tables e below (T10.setTop (mkF m 104 #[.val (.int p1), .val (.int p2), .val (.int p3), .val (.long q4), .second, .val (.long q5), .second, .val (.long q6), .second, .val (.int v9), .val (.int v23), .val (.int v40), .val (.long v49), .second, .val (.long v59), .second, .val (.long v69), .second, .val (.long v88), .second, .unset, .unset] [(.ref b8)])) t → Steps p.tables e below (s₁.setTop (entryFrame m #[(.int p1), (.int p2), (.int p3), (.long q4), (.long q5), (.long q6)] maxLocals)) t := fun t k => pre9 t (st10.trans k)
  have pre11 : ∀ t, Steps p.tables e below (T10.setTop (mkF m 110 #[.val (.int p1), .val (.int p2), .val (.int p3), .val (.long q4), .second, .val (.long q5), .second, .val (.long q6), .second, .val (.int v9), .val (.int v23), .val (.int v40), .val (.long v49), .second, .val (.long v59), .second, .val (.long v69), .second, .val (.long v88), .second, .val (.ref b8), .unset] [(.long v88), (.ref b8)])) t → Steps p.tables e below (s₁.setTop (entryFrame m #[(.int p1), (.int p2), (.int p3), (.long q4), (.long q5), (.long q6)] maxLocals)) t := by
    intro t k
    refine pre10 t ?_
    refine XS.astore X10.here hx rfl (hb hby at_104) rfl rfl (l' := #[.val (.int p1), .val (.int p2), .val (.int p3), .val (.long q4), .second, .val (.long q5), .second, .val (.long q6), .second, .val (.int v9), .val (.int v23), .val (.int v40), .val (.long v49), .second, .val (.long v59), .second, .val (.long v69), .second, .val (.long v88), .second, .val (.ref b8), .unset]) rfl ?_
    show Steps p.tables e below (T10.setTop (mkF m 106 #[.val (.int p1), .val (.int p2), .val (.int p3), .val (.long q4), .second, .val (.long q5), .second, .val (.long q6), .second, .val (.int v9), .val (.int v23), .val (.int v40), .val (.long v49), .second, .val (.long v59), .second, .val (.long v69), .second, .val (.long v88), .second, .val (.ref b8), .unset] [])) _
    refine XS.aload X10.here hx rfl (hb hby at_106) rfl rfl ?_
    show Steps p.tables e below (T10.setTop (mkF m 108 #[.val (.int p1), .val (.int p2), .val (.int p3), .val (.long q4), .second, .val (.long q5), .second, .val (.long q6), .second, .val (.int v9), .val (.int v23), .val (.int v40), .val (.long v49), .second, .val (.long v59), .second, .val (.long v69), .second, .val (.long v88), .second, .val (.ref b8), .unset] [(.ref b8)])) _
    refine XS.lload X10.here hx rfl (hb hby at_108) rfl ?_
    show Steps p.tables e below (T10.setTop (mkF m 110 #[.val (.int p1), .val (.int p2), .val (.int p3), .val (.long q4), .second, .val (.long q5), .second, .val (.long q6), .second, .val (.int v9), .val (.int v23), .val (.int v40), .val (.long v49), .second, .val (.long v59), .second, .val (.long v69), .second, .val (.long v88), .second, .val (.ref b8), .unset] [(.long v88), (.ref b8)])) _
    exact k
  obtain ⟨cq12, kq12, qa12, qb12, qc12⟩ := isOf hZ rfl Ec10
  obtain ⟨_, _, ⟨T12, L12, k12, n12⟩, -, X12, ⟨Lc12, hQ12, l12, y12, z12⟩, st12⟩ := X10.virtualBack hx (y := (⟨"com/example/rimefall/rimefall/model/Layout", "decode", "(J)Lcom/example/rimefall/rimefall/model/IdFields;"⟩ : MethodName)) (z := (⟨"com/example/rimefall/rimefall/model/Layout", "decode", "(J)Lcom/example/rimefall/rimefall/model/IdFields;"⟩ : MethodName)) hown (mvT hZ (hw _ (List.mem_of_getElem? (i := 29) rfl))) (mvT hZ (hw _ (List.mem_of_getElem? (i := 30) rfl))) (notFace_of_selects (args := #[]) (mvT hZ (hw _ (List.mem_of_getElem? (i := 32) rfl)))) (mvT hZ (hw _ (List.mem_of_getElem? (i := 32) rfl))) (mvT hZ (hw _ (List.mem_of_getElem? (i := 31) rfl))) (by decide) (backOf (W := 0) (rmD l Z a0 hw [] b8 v88 v9 v23 v40 T10.heap n0 Z10 Ec10 Fc10_timestampBits Fc10_nodeBits Fc10_sequenceBits hdec.1) hZ (hw _ (List.mem_of_getElem? (i := 33) rfl)) (hw _ (List.mem_of_getElem? (i := 3) rfl)) (by decide) (by decide)) qa12 qc12 (g := (mkF m 110 #[.val (.int p1), .val (.int p2), .val (.int p3), .val (.long q4), .second, .val (.long q5), .second, .val (.long q6), .second, .val (.int v9), .val (.int v23), .val (.int v40), .val (.long v49), .second, .val (.long v59), .second, .val (.long v69), .second, .val (.long v88), .second, .val (.ref b8), .unset] [(.long v88), (.ref b8)])) rfl (by rw [hml]; rfl) (Steps.refl _) (argsL := [(.long v88)]) (rest := []) (lenOf pd0_1 rfl) rfl (by show 2 * 0 + _ ≤ _; exact Nat.le_of_eq rfl) (hb hby at_110) (fun _ _ => ⟨rfl, rfl, (by decide : 1 + 1 ≤ _), (by decide : 4 + 3 ≤ _)⟩)
  dsimp only [Pt.U, Pt.locs, Pt.cells, Pt.slots] at X12 l12 y12 z12 st12 hQ12
  subst l12 y12 z12
  obtain ⟨b12, rfl, Nq12, Kc12, gg12, Ec12, Fc12_timestamp, Fc12_node, Fc12_sequence⟩ := hQ12
  have F12_0 := Fc10_timestampBits.keep Kc12 nin0
  have F12_1 := Fc10_nodeBits.keep Kc12 nin0
  have F12_2 := Fc10_sequenceBits.keep Kc12 nin0
  have F12_3 := Fc10_epochMillis.keep Kc12 nin0
  have F12_4 := Ec10.keep Kc12
  have Z12 : n0 ≤ T12.heap.size := Nat.le_trans Z10 Kc12.1
  have N12 := Fr.app N10 Nq12
  have pre12 : ∀ t, Steps p.tables e below (T12.setTop (mkF m 113 #[.val (.int p1), .val (.int p2), .val (.int p3), .val (.long q4), .second, .val (.long q5), .second, .val (.long q6), .second, .val (.int v9), .val (.int v23), .val (.int v40), .val (.long v49), .second, .val (.long v59), .second, .val (.long v69), .second, .val (.long v88), .second, .val (.ref b8), .unset] [(.ref b12)])) t → Steps p.tables e below (s₁.setTop (entryFrame m #[(.int p1), (.int p2), (.int p3), (.long q4), (.long q5), (.long q6)] maxLocals)) t := fun t k => pre11 t (st12.trans k)
  have pre13 : ∀ t, Steps p.tables e below (T12.setTop (mkF m 117 #[.val (.int p1), .val (.int p2), .val (.int p3), .val (.long q4), .second, .val (.long q5), .second, .val (.long q6), .second, .val (.int v9), .val (.int v23), .val (.int v40), .val (.long v49), .second, .val (.long v59), .second, .val (.long v69), .second, .val (.long v88), .second, .val (.ref b8), .val (.ref b12)] [(.ref b12)])) t → Steps p.tables e below (s₁.setTop (entryFrame m #[(.int p1), (.int p2), (.int p3), (.long q4), (.long q5), (.long q6)] maxLocals)) t := by
    intro t k
    refine pre12 t ?_
    refine XS.astore X12.here hx rfl (hb hby at_113) rfl rfl (l' := #[.val (.int p1), .val (.int p2), .val (.int p3), .val (.long q4), .second, .val (.long q5), .second, .val (.long q6), .second, .val (.int v9), .val (.int v23), .val (.int v40), .val (.long v49), .second, .val (.long v59), .second, .val (.long v69), .second, .val (.long v88), .second, .val (.ref b8), .val (.ref b12)]) rfl ?_
    show Steps p.tables e below (T12.setTop (mkF m 115 #[.val (.int p1), .val (.int p2), .val (.int p3), .val (.long q4), .second, .val (.long q5), .second, .val (.long q6), .second, .val (.int v9), .val (.int v23), .val (.int v40), .val (.long v49), .second, .val (.long v59), .second, .val (.long v69), .second, .val (.long v88), .second, .val (.ref b8), .val (.ref b12)] [])) _
    refine XS.aload X12.here hx rfl (hb hby at_115) rfl rfl ?_
    show Steps p.tables e below (T12.setTop (mkF m 117 #[.val (.int p1), .val (.int p2), .val (.int p3), .val (.long q4), .second, .val (.long q5), .second, .val (.long q6), .second, .val (.int v9), .val (.int v23), .val (.int v40), .val (.long v49), .second, .val (.long v59), .second, .val (.long v69), .second, .val (.long v88), .second, .val (.ref b8), .val (.ref b12)] [(.ref b12)])) _
    exact k
  obtain ⟨cq14, kq14, qa14, qb14, qc14⟩ := isOf hZ rfl Ec12
  obtain ⟨_, _, ⟨T14, L14, k14, n14⟩, -, X14, ⟨Lc14, hQ14, l14, y14, z14⟩, st14⟩ := X12.virtualBack hx (y := (⟨"com/example/rimefall/rimefall/model/IdFields", "timestamp", "()J"⟩ : MethodName)) (z := (⟨"com/example/rimefall/rimefall/model/IdFields", "timestamp", "()J"⟩ : MethodName)) hown (mvT hZ (hw _ (List.mem_of_getElem? (i := 62) rfl))) (mvT hZ (hw _ (List.mem_of_getElem? (i := 63) rfl))) (notFace_of_selects (args := #[]) (mvT hZ (hw _ (List.mem_of_getElem? (i := 65) rfl)))) (mvT hZ (hw _ (List.mem_of_getElem? (i := 65) rfl))) (mvT hZ (hw _ (List.mem_of_getElem? (i := 64) rfl))) (by decide) (backOf (W := 0) (rmGa l Z a0 hw [] b12 ((v88.toUInt64 >>> ((v23 + v40) &&& 0x3f).toInt64.toUInt64).toInt64) T12.heap n0 Z12 Fc12_timestamp) hZ (hw _ (List.mem_of_getElem? (i := 66) rfl)) (hw _ (List.mem_of_getElem? (i := 51) rfl)) (by decide) (by decide)) qa14 qc14 (g := (mkF m 117 #[.val (.int p1), .val (.int p2), .val (.int p3), .val (.long q4), .second, .val (.long q5), .second, .val (.long q6), .second, .val (.int v9), .val (.int v23), .val (.int v40), .val (.long v49), .second, .val (.long v59), .second, .val (.long v69), .second, .val (.long v88), .second, .val (.ref b8), .val (.ref b12)] [(.ref b12)])) rfl (by rw [hml]; rfl) (Steps.refl _) (argsL := []) (rest := []) (lenOf pd0_2 rfl) rfl (by show 2 * 0 + _ ≤ _; exact Nat.le_of_eq rfl) (hb hby at_117) (fun _ _ => ⟨rfl, rfl, (by decide : 2 + 0 ≤ _), (by decide : 7 + 0 ≤ _)⟩)
  dsimp only [Pt.U, Pt.locs, Pt.cells, Pt.slots] at X14 l14 y14 z14 st14 hQ14
  subst l14 y14 z14
  obtain ⟨rfl, Nq14, e14⟩ := hQ14
  have N14 := Fr.app N12 Nq14
  have pre14 : ∀ t, Steps p.tables e below (T14.setTop (mkF m 120 #[.val (.int p1), .val (.int p2), .val (.int p3), .val (.long q4), .second, .val (.long q5), .second, .val (.long q6), .second, .val (.int v9), .val (.int v23), .val (.int v40), .val (.long v49), .second, .val (.long v59), .second, .val (.long v69), .second, .val (.long v88), .second, .val (.ref b8), .val (.ref b12)] [(.long (fnGa ((v88.toUInt64 >>> ((v23 + v40) &&& 0x3f).toInt64.toUInt64).toInt64)))])) t → Steps p.tables e below (s₁.setTop (entryFrame m #[(.int p1), (.int p2), (.int p3), (.long q4), (.long q5), (.long q6)] maxLocals)) t := fun t k => pre13 t (st14.trans k)
  have pre15 : ∀ t, Steps p.tables e below (T14.setTop (mkF m 123 #[.val (.int p1), .val (.int p2), .val (.int p3), .val (.long q4), .second, .val (.long q5), .second, .val (.long q6), .second, .val (.int v9), .val (.int v23), .val (.int v40), .val (.long v49), .second, .val (.long v59), .second, .val (.long v69), .second, .val (.long v88), .second, .val (.ref b8), .val (.ref b12)] [(.int (lcmpW (fnGa ((v88.toUInt64 >>> ((v23 + v40) &&& 0x3f).toInt64.toUInt64).toInt64)) v49))])) t → Steps p.tables e below (s₁.setTop (entryFrame m #[(.int p1), (.int p2), (.int p3), (.long q4), (.long q5), (.long q6)] maxLocals)) t := by
    intro t k
    refine pre14 t ?_
    refine XS.lload X14.here hx rfl (hb hby at_120) rfl ?_
    show Steps p.tables e below (T14.setTop (mkF m 122 #[.val (.int p1), .val (.int p2), .val (.int p3), .val (.long q4), .second, .val (.long q5), .second, .val (.long q6), .second, .val (.int v9), .val (.int v23), .val (.int v40), .val (.long v49), .second, .val (.long v59), .second, .val (.long v69), .second, .val (.long v88), .second, .val (.ref b8), .val (.ref b12)] [(.long v49), (.long (fnGa ((v88.toUInt64 >>> ((v23 + v40) &&& 0x3f).toInt64.toUInt64).toInt64)))])) _
    refine XS.lcmp X14.here hx rfl (hb hby at_122) rfl ?_
    show Steps p.tables e below (T14.setTop (mkF m 123 #[.val (.int p1), .val (.int p2), .val (.int p3), .val (.long q4), .second, .val (.long q5), .second, .val (.long q6), .second, .val (.int v9), .val (.int v23), .val (.int v40), .val (.long v49), .second, .val (.long v59), .second, .val (.long v69), .second, .val (.long v88), .second, .val (.ref b8), .val (.ref b12)] [(.int (lcmpW (fnGa ((v88.toUInt64 >>> ((v23 + v40) &&& 0x3f).toInt64.toUInt64).toInt64)) v49))])) _
    exact k
  have hd123 : (fnGa ((v88.toUInt64 >>> ((v23 + v40) &&& 0x3f).toInt64.toUInt64).toInt64)) = v49 := hdec.2.1
  have pre16 : ∀ t, Steps p.tables e below (T14.setTop (mkF m 128 #[.val (.int p1), .val (.int p2), .val (.int p3), .val (.long q4), .second, .val (.long q5), .second, .val (.long q6), .second, .val (.int v9), .val (.int v23), .val (.int v40), .val (.long v49), .second, .val (.long v59), .second, .val (.long v69), .second, .val (.long v88), .second, .val (.ref b8), .val (.ref b12)] [(.ref b12)])) t → Steps p.tables e below (s₁.setTop (entryFrame m #[(.int p1), (.int p2), (.int p3), (.long q4), (.long q5), (.long q6)] maxLocals)) t := by
    intro t k
    refine pre15 t ?_
    refine XS.ifNo X14.here hx rfl (hb hby at_123) rfl (own_Teq hd123).2 ?_
    show Steps p.tables e below (T14.setTop (mkF m 126 #[.val (.int p1), .val (.int p2), .val (.int p3), .val (.long q4), .second, .val (.long q5), .second, .val (.long q6), .second, .val (.int v9), .val (.int v23), .val (.int v40), .val (.long v49), .second, .val (.long v59), .second, .val (.long v69), .second, .val (.long v88), .second, .val (.ref b8), .val (.ref b12)] [])) _
    refine XS.aload X14.here hx rfl (hb hby at_126) rfl rfl ?_
    show Steps p.tables e below (T14.setTop (mkF m 128 #[.val (.int p1), .val (.int p2), .val (.int p3), .val (.long q4), .second, .val (.long q5), .second, .val (.long q6), .second, .val (.int v9), .val (.int v23), .val (.int v40), .val (.long v49), .second, .val (.long v59), .second, .val (.long v69), .second, .val (.long v88), .second, .val (.ref b8), .val (.ref b12)] [(.ref b12)])) _
    exact k
  obtain ⟨cq17, kq17, qa17, qb17, qc17⟩ := isOf hZ e14 Ec12
  obtain ⟨_, _, ⟨T17, L17, k17, n17⟩, -, X17, ⟨Lc17, hQ17, l17, y17, z17⟩, st17⟩ := X14.virtualBack hx (y := (⟨"com/example/rimefall/rimefall/model/IdFields", "node", "()J"⟩ : MethodName)) (z := (⟨"com/example/rimefall/rimefall/model/IdFields", "node", "()J"⟩ : MethodName)) hown (mvT hZ (hw _ (List.mem_of_getElem? (i := 67) rfl))) (mvT hZ (hw _ (List.mem_of_getElem? (i := 68) rfl))) (notFace_of_selects (args := #[]) (mvT hZ (hw _ (List.mem_of_getElem? (i := 70) rfl)))) (mvT hZ (hw _ (List.mem_of_getElem? (i := 70) rfl))) (mvT hZ (hw _ (List.mem_of_getElem? (i := 69) rfl))) (by decide) (backOf (W := 0) (rmGb l Z a0 hw [] b12 (((v88.toUInt64 >>> (v40 &&& 0x3f).toInt64.toUInt64).toInt64) &&& (fnY v23)) T12.heap n0 Z12 Fc12_node) hZ (hw _ (List.mem_of_getElem? (i := 71) rfl)) (hw _ (List.mem_of_getElem? (i := 51) rfl)) (by decide) (by decide)) qa17 qc17 (g := (mkF m 128 #[.val (.int p1), .val (.int p2), .val (.int p3), .val (.long q4), .second, .val (.long q5), .second, .val (.long q6), .second, .val (.int v9), .val (.int v23), .val (.int v40), .val (.long v49), .second, .val (.long v59), .second, .val (.long v69), .second, .val (.long v88), .second, .val (.ref b8), .val (.ref b12)] [(.ref b12)])) rfl (by rw [hml]; rfl) (Steps.refl _) (argsL := []) (rest := []) (lenOf pd0_2 rfl) rfl (by show 2 * 0 + _ ≤ _; exact Nat.le_of_eq rfl) (hb hby at_128) (fun _ _ => ⟨rfl, e14, (by decide : 2 + 0 ≤ _), (by decide : 7 + 0 ≤ _)⟩)
  dsimp only [Pt.U, Pt.locs, Pt.cells, Pt.slots] at X17 l17 y17 z17 st17 hQ17
  subst l17 y17 z17
  obtain ⟨rfl, Nq17, e17⟩ := hQ17
  have N17 := Fr.app N14 Nq17
  have pre17 : ∀ t, Steps p.tables e below (T17.setTop (mkF m 131 #[.val (.int p1), .val (.int p2), .val (.int p3), .val (.long q4), .second, .val (.long q5), .second, .val (.long q6), .second, .val (.int v9), .val (.int v23), .val (.int v40), .val (.long v49), .second, .val (.long v59), .second, .val (.long v69), .second, .val (.long v88), .second, .val (.ref b8), .val (.ref b12)] [(.long (fnGb (((v88.toUInt64 >>> (v40 &&& 0x3f).toInt64.toUInt64).toInt64) &&& (fnY v23))))])) t → Steps p.tables e below (s₁.setTop (entryFrame m #[(.int p1), (.int p2), (.int p3), (.long q4), (.long q5), (.long q6)] maxLocals)) t := fun t k => pre16 t (st17.trans k)
  have pre18 : ∀ t, Steps p.tables e below (T17.setTop (mkF m 134 #[.val (.int p1), .val (.int p2), .val (.int p3), .val (.long q4), .second, .val (.long q5), .second, .val (.long q6), .second, .val (.int v9), .val (.int v23), .val (.int v40), .val (.long v49), .second, .val (.long v59), .second, .val (.long v69), .second, .val (.long v88), .second, .val (.ref b8), .val (.ref b12)] [(.int (lcmpW (fnGb (((v88.toUInt64 >>> (v40 &&& 0x3f).toInt64.toUInt64).toInt64) &&& (fnY v23))) v59))])) t → Steps p.tables e below (s₁.setTop (entryFrame m #[(.int p1), (.int p2), (.int p3), (.long q4), (.long q5), (.long q6)] maxLocals)) t := by
    intro t k
    refine pre17 t ?_
    refine XS.lload X17.here hx rfl (hb hby at_131) rfl ?_
    show Steps p.tables e below (T17.setTop (mkF m 133 #[.val (.int p1), .val (.int p2), .val (.int p3), .val (.long q4), .second, .val (.long q5), .second, .val (.long q6), .second, .val (.int v9), .val (.int v23), .val (.int v40), .val (.long v49), .second, .val (.long v59), .second, .val (.long v69), .second, .val (.long v88), .second, .val (.ref b8), .val (.ref b12)] [(.long v59), (.long (fnGb (((v88.toUInt64 >>> (v40 &&& 0x3f).toInt64.toUInt64).toInt64) &&& (fnY v23))))])) _
    refine XS.lcmp X17.here hx rfl (hb hby at_133) rfl ?_
    show Steps p.tables e below (T17.setTop (mkF m 134 #[.val (.int p1), .val (.int p2), .val (.int p3), .val (.long q4), .second, .val (.long q5), .second, .val (.long q6), .second, .val (.int v9), .val (.int v23), .val (.int v40), .val (.long v49), .second, .val (.long v59), .second, .val (.long v69), .second, .val (.long v88), .second, .val (.ref b8), .val (.ref b12)] [(.int (lcmpW (fnGb (((v88.toUInt64 >>> (v40 &&& 0x3f).toInt64.toUInt64).toInt64) &&& (fnY v23))) v59))])) _
    exact k
  have hd134 : (fnGb (((v88.toUInt64 >>> (v40 &&& 0x3f).toInt64.toUInt64).toInt64) &&& (fnY v23))) = v59 := hdec.2.2.1
  have pre19 : ∀ t, Steps p.tables e below (T17.setTop (mkF m 139 #[.val (.int p1), .val (.int p2), .val (.int p3), .val (.long q4), .second, .val (.long q5), .second, .val (.long q6), .second, .val (.int v9), .val (.int v23), .val (.int v40), .val (.long v49), .second, .val (.long v59), .second, .val (.long v69), .second, .val (.long v88), .second, .val (.ref b8), .val (.ref b12)] [(.ref b12)])) t → Steps p.tables e below (s₁.setTop (entryFrame m #[(.int p1), (.int p2), (.int p3), (.long q4), (.long q5), (.long q6)] maxLocals)) t := by
    intro t k
    refine pre18 t ?_
    refine XS.ifNo X17.here hx rfl (hb hby at_134) rfl (own_Teq hd134).2 ?_
    show Steps p.tables e below (T17.setTop (mkF m 137 #[.val (.int p1), .val (.int p2), .val (.int p3), .val (.long q4), .second, .val (.long q5), .second, .val (.long q6), .second, .val (.int v9), .val (.int v23), .val (.int v40), .val (.long v49), .second, .val (.long v59), .second, .val (.long v69), .second, .val (.long v88), .second, .val (.ref b8), .val (.ref b12)] [])) _
    refine XS.aload X17.here hx rfl (hb hby at_137) rfl rfl ?_
    show Steps p.tables e below (T17.setTop (mkF m 139 #[.val (.int p1), .val (.int p2), .val (.int p3), .val (.long q4), .second, .val (.long q5), .second, .val (.long q6), .second, .val (.int v9), .val (.int v23), .val (.int v40), .val (.long v49), .second, .val (.long v59), .second, .val (.long v69), .second, .val (.long v88), .second, .val (.ref b8), .val (.ref b12)] [(.ref b12)])) _
    exact k
  obtain ⟨cq20, kq20, qa20, qb20, qc20⟩ := isOf hZ e17 Ec12
  obtain ⟨_, _, ⟨T20, L20, k20, n20⟩, -, X20, ⟨Lc20, hQ20, l20, y20, z20⟩, st20⟩ := X17.virtualBack hx (y := (⟨"com/example/rimefall/rimefall/model/IdFields", "sequence", "()J"⟩ : MethodName)) (z := (⟨"com/example/rimefall/rimefall/model/IdFields", "sequence", "()J"⟩ : MethodName)) hown (mvT hZ (hw _ (List.mem_of_getElem? (i := 72) rfl))) (mvT hZ (hw _ (List.mem_of_getElem? (i := 73) rfl))) (notFace_of_selects (args := #[]) (mvT hZ (hw _ (List.mem_of_getElem? (i := 75) rfl)))) (mvT hZ (hw _ (List.mem_of_getElem? (i := 75) rfl))) (mvT hZ (hw _ (List.mem_of_getElem? (i := 74) rfl))) (by decide) (backOf (W := 0) (rmGc l Z a0 hw [] b12 (v88 &&& (fnW v40)) T12.heap n0 Z12 Fc12_sequence) hZ (hw _ (List.mem_of_getElem? (i := 76) rfl)) (hw _ (List.mem_of_getElem? (i := 51) rfl)) (by decide) (by decide)) qa20 qc20 (g := (mkF m 139 #[.val (.int p1), .val (.int p2), .val (.int p3), .val (.long q4), .second, .val (.long q5), .second, .val (.long q6), .second, .val (.int v9), .val (.int v23), .val (.int v40), .val (.long v49), .second, .val (.long v59), .second, .val (.long v69), .second, .val (.long v88), .second, .val (.ref b8), .val (.ref b12)] [(.ref b12)])) rfl (by rw [hml]; rfl) (Steps.refl _) (argsL := []) (rest := []) (lenOf pd0_2 rfl) rfl (by show 2 * 0 + _ ≤ _; exact Nat.le_of_eq rfl) (hb hby at_139) (fun _ _ => ⟨rfl, e17, (by decide : 2 + 0 ≤ _), (by decide : 7 + 0 ≤ _)⟩)
  dsimp only [Pt.U, Pt.locs, Pt.cells, Pt.slots] at X20 l20 y20 z20 st20 hQ20
  subst l20 y20 z20
  obtain ⟨rfl, Nq20, e20⟩ := hQ20
  have N20 := Fr.app N17 Nq20
  have pre20 : ∀ t, Steps p.tables e below (T20.setTop (mkF m 142 #[.val (.int p1), .val (.int p2), .val (.int p3), .val (.long q4), .second, .val (.long q5), .second, .val (.long q6), .second, .val (.int v9), .val (.int v23), .val (.int v40), .val (.long v49), .second, .val (.long v59), .second, .val (.long v69), .second, .val (.long v88), .second, .val (.ref b8), .val (.ref b12)] [(.long (fnGc (v88 &&& (fnW v40))))])) t → Steps p.tables e below (s₁.setTop (entryFrame m #[(.int p1), (.int p2), (.int p3), (.long q4), (.long q5), (.long q6)] maxLocals)) t := fun t k => pre19 t (st20.trans k)
  obtain ⟨u153s0, hu153s0⟩ : ∃ z : Int32, z = (if (fnGc (v88 &&& (fnW v40))) = v69 then (1 : Int32) else (0 : Int32)) := ⟨_, rfl⟩
  have pre21 : ∀ t, Steps p.tables e below (T20.setTop (mkF m 153 #[.val (.int p1), .val (.int p2), .val (.int p3), .val (.long q4), .second, .val (.long q5), .second, .val (.long q6), .second, .val (.int v9), .val (.int v23), .val (.int v40), .val (.long v49), .second, .val (.long v59), .second, .val (.long v69), .second, .val (.long v88), .second, .val (.ref b8), .val (.ref b12)] [(.int u153s0)])) t → Steps p.tables e below (s₁.setTop (entryFrame m #[(.int p1), (.int p2), (.int p3), (.long q4), (.long q5), (.long q6)] maxLocals)) t := by
    intro t k
    subst hu153s0
    refine pre20 t ?_
    refine XS.lload X20.here hx rfl (hb hby at_142) rfl ?_
    show Steps p.tables e below (T20.setTop (mkF m 144 #[.val (.int p1), .val (.int p2), .val (.int p3), .val (.long q4), .second, .val (.long q5), .second, .val (.long q6), .second, .val (.int v9), .val (.int v23), .val (.int v40), .val (.long v49), .second, .val (.long v59), .second, .val (.long v69), .second, .val (.long v88), .second, .val (.ref b8), .val (.ref b12)] [(.long v69), (.long (fnGc (v88 &&& (fnW v40))))])) _
    refine XS.lcmp X20.here hx rfl (hb hby at_144) rfl ?_
    show Steps p.tables e below (T20.setTop (mkF m 145 #[.val (.int p1), .val (.int p2), .val (.int p3), .val (.long q4), .second, .val (.long q5), .second, .val (.long q6), .second, .val (.int v9), .val (.int v23), .val (.int v40), .val (.long v49), .second, .val (.long v59), .second, .val (.long v69), .second, .val (.long v88), .second, .val (.ref b8), .val (.ref b12)] [(.int (lcmpW (fnGc (v88 &&& (fnW v40))) v69))])) _
    by_cases hb145 : (fnGc (v88 &&& (fnW v40))) = v69
    · simp only [if_pos hb145] at k
      refine XS.ifNo X20.here hx rfl (hb hby at_145) rfl (own_Teq hb145).2 ?_
      show Steps p.tables e below (T20.setTop (mkF m 148 #[.val (.int p1), .val (.int p2), .val (.int p3), .val (.long q4), .second, .val (.long q5), .second, .val (.long q6), .second, .val (.int v9), .val (.int v23), .val (.int v40), .val (.long v49), .second, .val (.long v59), .second, .val (.long v69), .second, .val (.long v88), .second, .val (.ref b8), .val (.ref b12)] [])) _
      refine XS.iconst X20.here hx rfl (hb hby at_148) ?_
      show Steps p.tables e below (T20.setTop (mkF m 149 #[.val (.int p1), .val (.int p2), .val (.int p3), .val (.long q4), .second, .val (.long q5), .second, .val (.long q6), .second, .val (.int v9), .val (.int v23), .val (.int v40), .val (.long v49), .second, .val (.long v59), .second, .val (.long v69), .second, .val (.long v88), .second, .val (.ref b8), .val (.ref b12)] [(.int (1 : Int32))])) _
      refine XS.goto X20.here hx rfl (pc0 := 149) (pc' := 153) rfl (hb hby at_149) (by decide) (by decide) ?_
      show Steps p.tables e below (T20.setTop (mkF m 153 #[.val (.int p1), .val (.int p2), .val (.int p3), .val (.long q4), .second, .val (.long q5), .second, .val (.long q6), .second, .val (.int v9), .val (.int v23), .val (.int v40), .val (.long v49), .second, .val (.long v59), .second, .val (.long v69), .second, .val (.long v88), .second, .val (.ref b8), .val (.ref b12)] [(.int (1 : Int32))])) _
      exact k
    · simp only [if_neg hb145] at k
      refine XS.ifYes X20.here hx rfl (pc0 := 145) (pc' := 152) rfl (hb hby at_145) rfl (own_Feq hb145).2 (by decide) (by decide) ?_
      show Steps p.tables e below (T20.setTop (mkF m 152 #[.val (.int p1), .val (.int p2), .val (.int p3), .val (.long q4), .second, .val (.long q5), .second, .val (.long q6), .second, .val (.int v9), .val (.int v23), .val (.int v40), .val (.long v49), .second, .val (.long v59), .second, .val (.long v69), .second, .val (.long v88), .second, .val (.ref b8), .val (.ref b12)] [])) _
      refine XS.iconst X20.here hx rfl (hb hby at_152) ?_
      show Steps p.tables e below (T20.setTop (mkF m 153 #[.val (.int p1), .val (.int p2), .val (.int p3), .val (.long q4), .second, .val (.long q5), .second, .val (.long q6), .second, .val (.int v9), .val (.int v23), .val (.int v40), .val (.long v49), .second, .val (.long v59), .second, .val (.long v69), .second, .val (.long v88), .second, .val (.ref b8), .val (.ref b12)] [(.int (0 : Int32))])) _
      exact k
  obtain ⟨fs, hr, hrun, hended, hW, hsame⟩ := X20.leave (v := some (.int (nar .boolean u153s0))) (fun h => by rw [Bd.returns] at h; cases h)
  refine ⟨_, _, pre21 _ ?_, hrun, hended, _, _, rfl, ?_, ⟨_, rfl⟩, hW, hsame.mono (by decide) (by decide)⟩
  · show Steps p.tables e below (T20.setTop (mkF m 153 #[.val (.int p1), .val (.int p2), .val (.int p3), .val (.long q4), .second, .val (.long q5), .second, .val (.long q6), .second, .val (.int v9), .val (.int v23), .val (.int v40), .val (.long v49), .second, .val (.long v59), .second, .val (.long v69), .second, .val (.long v88), .second, .val (.ref b8), .val (.ref b12)] [(.int u153s0)])) _
    exact retN X20 hx (t := .boolean) Bd.returns (by simp) (hb hby at_153) hr
  · show Q0 Z p1 p2 p3 q4 q5 q6 h0 n0 _ T20.heap _
    have yF := own_one hu153s0 hdec.2.2.2
    refine ⟨?_, N20⟩
    rw [yF]; rfl
set_option maxRecDepth 65536 in
set_option maxHeartbeats 40000000 in
theorem comes_1 {Post : Tables → Env → Array Value → State → Outcome → State → Prop} (hpost : ∀ tb e args s v u, (limb_1_1.after args s (.returned v) u = true ∧ limb_1_2.after args s (.returned v) u = true ∧ True) → FrameEnd s (.returned v) u (Jvm.fieldLocs frame_1_writes args s ++ Jvm.arrayLocs frame_1_arrays args s ++ Jvm.staticLocs frame_1_statics s) 16 128 → Post tb e args s (.returned v) u) :
    ArmFor flags0 classFile x code maxLocals ret World_1 tables_1 room_1 Calls_1 rest_1 Pre_1 Post := by
  intro l hfl _ _ p e ha hc hk s m args below hf hA hF happ hP
  obtain ⟨hcalls, hrest, hpre⟩ := hP
  obtain ⟨-, -, -, hnamed, -, -, -, hat⟩ := (Spec.applies_iff hf).mp happ
  obtain ⟨hg, hn⟩ := and_e (Cond.before_iff.mp (show (Jvm.Cond.and given_1 narrow_1).before args s = true from hpre))
  obtain ⟨hcount, g0⟩ := and_e hg
  obtain ⟨a0, g1⟩ := and_e g0
  obtain ⟨a1, g2⟩ := and_e g1
  obtain ⟨a2, g3⟩ := and_e g2
  obtain ⟨a3, g4⟩ := and_e g3
  obtain ⟨a4, g5⟩ := and_e g4
  have a5 := g5
  obtain ⟨w0, w1, w2, w3, w4, w5, rfl⟩ : ∃ w0 w1 w2 w3 w4 w5 : Value, args = #[w0, w1, w2, w3, w4, w5] := by
    have hs : args.size = 6 := by simpa [Cond.value, given_1] using hcount
    obtain ⟨L⟩ := args
    match L, hs with
    | [w0, w1, w2, w3, w4, w5], _ => exact ⟨w0, w1, w2, w3, w4, w5, rfl⟩
  have hw := fun d (hd : d ∈ tables_1) => atoms_spec (ws := Jvm.Cond.code x code maxLocals ret :: tables_1) hat d (List.mem_cons_of_mem _ hd)
  obtain ⟨i0, ei0⟩ := is_v a0
  obtain rfl : w0 = (.int i0) := Option.some.inj ei0
  obtain ⟨i1, ei1⟩ := is_v a1
  obtain rfl : w1 = (.int i1) := Option.some.inj ei1
  obtain ⟨i2, ei2⟩ := is_v a2
  obtain rfl : w2 = (.int i2) := Option.some.inj ei2
  obtain ⟨i3, ei3⟩ := isL_v a3
  obtain rfl : w3 = (.long i3) := Option.some.inj ei3
  obtain ⟨i4, ei4⟩ := isL_v a4
  obtain rfl : w4 = (.long i4) := Option.some.inj ei4
  obtain ⟨i5, ei5⟩ := isL_v a5
  obtain rfl : w5 = (.long i5) := Option.some.inj ei5
  obtain ⟨n, o, h1, h2, h3, v, L, rfl, ⟨hv, N⟩, hq⟩ := rm0 l s _ hw tables_1 i0 i1 i2 i3 i4 i5 s.heap s.heap.size (Nat.le_refl _) p e ha hc hk s m _ below hf ((Spec.applies_iff_loose hf).mp happ).1 ⟨rfl, State.Warmed39.refl s, rfl⟩ trivial
  skip
  subst hv
  refine ⟨n, _, h1, h2, h3, hpost _ _ _ _ _ _ ⟨Cond.after_iff.mpr rfl, Cond.after_iff.mpr (eq_i res_at (Term.int_eval (1)) rfl), trivial⟩ ⟨hq.1, hq.2.1, (hq.2.2.sift fun y hy => Or.inr (N y hy)).mono (by decide) (by decide)⟩⟩
theorem main_1_1 : Claimed_1_1 := comes_1 fun _ _ _ _ _ _ h hF => ⟨h.1, hF⟩
theorem main_1_2 : Claimed_1_2 := comes_1 fun _ _ _ _ _ _ h hF => ⟨h.2.1, hF⟩
end Jvm.Pilot.@@N@@
namespace Jvm.Pilot.@@N@@
open Jvm Jvm.ClassFile Sem Op Lib Jvm.Free Jvm.Stand Jvm.Pilot.@@N@@.Jvm.D
/-! MADE BY PROGRAM (witnessworld.py) out of the Statement's table words and the real class files: 11 classes; the members and pool entries that the words name. The judged class is class 1, her method 1. -/
namespace start1
open Jvm.ClassFile
def u (s : String) : CpInfo := .utf8 (stringToUtf16 s)
/-- a pool by its gaps: so many unusable entries, then the entry; so many at the end -/
def gap : Nat → List CpInfo → List CpInfo
  | 0, r => r
  | n + 1, r => .unusable :: gap n r
def poolList (es : List (Nat × CpInfo)) (last : Nat) : List CpInfo := es.foldr (fun e r => gap e.1 (e.2 :: r)) (gap last [])
def pool (es : List (Nat × CpInfo)) (last : Nat) : Array CpInfo := ⟨poolList es last⟩
def fileOf (pool : Array CpInfo) (this : Nat) (attrs : Array Attribute := #[]) (ms : Array MethodInfo := #[]) (fl : Nat := 33) (sup : Nat := 0) (ifs : Array Nat := #[]) (fds : Array FieldInfo := #[]) : ClassFile where
  minorVersion := 0
  majorVersion := 65
  constantPool := pool
  accessFlags := fl
  thisClass := this
  superClass := sup
  interfaces := ifs
  fields := fds
  methods := ms
  attributes := attrs
def plain (name : String) (sup : Option ClassId) : Class where
  name := name
  kind := .ordinary
  loader := none
  accessFlags := 33
  super := sup
  interfaces := #[]
  cf := none
  fields := #[]
  methods := #[]
  instanceTypes := #[]
  staticTypes := #[]
  resolved := #[]
  callSites := []
  init := .initialized
  statics := none
  mirror := none

def pool0 : Array CpInfo := pool [(5, u "<init>"), (0, u "()V"), (1, .class_ 10), (1, u "java/lang/Object")] 113

def k0c0 : Code := { maxStack := 0, maxLocals := 1, code := object_method_1_code, exceptionTable := #[], attributes := #[] }
def k0m0 : Method := { name := "<init>", desc := "()V", sig := { parameters := [], returnType := none }, accessFlags := 1, code := some k0c0 }
/-- java/lang/Object -/
def k0 : Class := { plain "java/lang/Object" none with
  accessFlags := 33
  interfaces := #[]
  cf := some (fileOf pool0 8 #[] #[{ accessFlags := 1, nameIndex := 5, descriptorIndex := 6, attributes := #[] }] 33 0 #[] #[])
  fields := #[]
  methods := #[k0m0]
  instanceTypes := #[]
  staticTypes := #[]
  resolved := Array.replicate 124 none
  statics := none }

def pool1 : Array CpInfo := pool [(2, .class_ 4), (1, u "java/lang/Object"), (0, u "<init>"), (0, u "()V"), (0, .integer 2147483647), (0, .class_ 9), (0, u "com/example/rimefall/rimefall/model/Layout"), (0, .methodref 8 11), (0, .nameAndType 5 12), (0, u "(IIIJ)V"), (0, .methodref 8 14), (0, .nameAndType 15 16), (0, u "decode"), (0, u "(J)Lcom/example/rimefall/rimefall/model/IdFields;"), (0, .methodref 18 19), (0, .class_ 20), (0, .nameAndType 21 22), (0, u "com/example/rimefall/rimefall/model/IdFields"), (0, u "timestamp"), (0, u "()J"), (0, .methodref 18 24), (0, .nameAndType 25 22), (0, u "node"), (0, .methodref 18 27), (0, .nameAndType 28 22), (0, u "sequence"), (0, .class_ 30), (0, u "com/example/rimefall/rimefall/model/LayoutDecodePinLaw"), (2, u "law"), (0, u "(IIIJJJ)Z")] 3

def k1m0 : Method := { name := "<init>", desc := "()V", sig := { parameters := [], returnType := none }, accessFlags := 1, code := none }
def k1c1 : Code := { maxStack := 7, maxLocals := 22, code := code, exceptionTable := #[], attributes := #[] }
def k1m1 : Method := { name := "law", desc := "(IIIJJJ)Z", sig := { parameters := [.int, .int, .int, .long, .long, .long], returnType := some .boolean }, accessFlags := 9, code := some k1c1 }
/-- com/example/rimefall/rimefall/model/LayoutDecodePinLaw -/
def k1 : Class := { plain "com/example/rimefall/rimefall/model/LayoutDecodePinLaw" (some 0) with
  accessFlags := 49
  interfaces := #[]
  cf := some (fileOf pool1 29 #[] #[{ accessFlags := 1, nameIndex := 5, descriptorIndex := 6, attributes := #[] }, { accessFlags := 9, nameIndex := 33, descriptorIndex := 34, attributes := #[] }] 49 2 #[] #[])
  fields := #[]
  methods := #[k1m0, k1m1]
  instanceTypes := #[]
  staticTypes := #[]
  resolved := Array.replicate 38 none
  statics := none }

def pool2 : Array CpInfo := pool [(1, .methodref 2 3), (0, .class_ 4), (0, .nameAndType 5 6), (0, u "java/lang/Object"), (0, u "<init>"), (0, u "()V"), (0, .class_ 8), (0, u "java/lang/Record")] 13

def k2c0 : Code := { maxStack := 1, maxLocals := 1, code := jdk_30_method_1_code, exceptionTable := #[], attributes := #[] }
def k2m0 : Method := { name := "<init>", desc := "()V", sig := { parameters := [], returnType := none }, accessFlags := 4, code := some k2c0 }
/-- java/lang/Record -/
def k2 : Class := { plain "java/lang/Record" (some 0) with
  accessFlags := 1057
  interfaces := #[]
  cf := some (fileOf pool2 7 #[] #[{ accessFlags := 4, nameIndex := 5, descriptorIndex := 6, attributes := #[] }] 1057 2 #[] #[])
  fields := #[]
  methods := #[k2m0]
  instanceTypes := #[]
  staticTypes := #[]
  resolved := Array.replicate 22 none
  statics := none }

def pool3 : Array CpInfo := pool [(1, .methodref 2 3), (0, .class_ 4), (0, .nameAndType 5 6), (0, u "java/lang/Record"), (0, u "<init>"), (0, u "()V"), (3, .class_ 12), (1, u "com/example/rimefall/rimefall/model/Layout"), (11, .long 64), (7, .long 9223372036854775807), (1, .methodref 10 35), (0, .nameAndType 36 37), (0, u "mask"), (0, u "(I)J"), (3, .fieldref 10 42), (0, .nameAndType 43 44), (0, u "timestampBits"), (0, u "I"), (0, .fieldref 10 46), (0, .nameAndType 47 44), (0, u "nodeBits"), (0, .fieldref 10 49), (0, .nameAndType 50 44), (0, u "sequenceBits"), (0, .fieldref 10 52), (0, .nameAndType 53 54), (0, u "epochMillis"), (0, u "J"), (10, .methodref 10 66), (0, .nameAndType 67 68), (0, u "totalBits"), (0, u "()I"), (6, .methodref 10 76), (0, .nameAndType 77 78), (0, u "maxNode"), (0, u "()J"), (0, .methodref 10 80), (0, .nameAndType 81 78), (0, u "maxSequence"), (0, .class_ 83), (0, u "com/example/rimefall/rimefall/model/IdFields"), (0, .methodref 82 85), (0, .nameAndType 5 86), (0, u "(JJJ)V"), (4, .long 18446744073709551615), (15, u "(IIIJ)V"), (2, u "DEFAULT"), (0, u "Lcom/example/rimefall/rimefall/model/Layout;"), (7, u "decode"), (0, u "(J)Lcom/example/rimefall/rimefall/model/IdFields;")] 49

def k3c0 : Code := { maxStack := 6, maxLocals := 8, code := prog_25_method_1_code, exceptionTable := #[], attributes := #[] }
def k3m0 : Method := { name := "<init>", desc := "(IIIJ)V", sig := { parameters := [.int, .int, .int, .long], returnType := none }, accessFlags := 1, code := some k3c0 }
def k3c1 : Code := { maxStack := 2, maxLocals := 1, code := prog_25_method_2_code, exceptionTable := #[], attributes := #[] }
def k3m1 : Method := { name := "totalBits", desc := "()I", sig := { parameters := [], returnType := some .int }, accessFlags := 1, code := some k3c1 }
def k3c2 : Code := { maxStack := 2, maxLocals := 1, code := prog_25_method_4_code, exceptionTable := #[], attributes := #[] }
def k3m2 : Method := { name := "maxNode", desc := "()J", sig := { parameters := [], returnType := some .long }, accessFlags := 1, code := some k3c2 }
def k3c3 : Code := { maxStack := 2, maxLocals := 1, code := prog_25_method_5_code, exceptionTable := #[], attributes := #[] }
def k3m3 : Method := { name := "maxSequence", desc := "()J", sig := { parameters := [], returnType := some .long }, accessFlags := 1, code := some k3c3 }
def k3c4 : Code := { maxStack := 8, maxLocals := 9, code := prog_25_method_7_code, exceptionTable := #[], attributes := #[] }
def k3m4 : Method := { name := "decode", desc := "(J)Lcom/example/rimefall/rimefall/model/IdFields;", sig := { parameters := [.long], returnType := some (.object "com/example/rimefall/rimefall/model/IdFields") }, accessFlags := 1, code := some k3c4 }
def k3c5 : Code := { maxStack := 4, maxLocals := 1, code := prog_25_method_10_code, exceptionTable := #[], attributes := #[] }
def k3m5 : Method := { name := "mask", desc := "(I)J", sig := { parameters := [.int], returnType := some .long }, accessFlags := 10, code := some k3c5 }
/-- com/example/rimefall/rimefall/model/Layout -/
def k3 : Class := { plain "com/example/rimefall/rimefall/model/Layout" (some 2) with
  accessFlags := 49
  interfaces := #[]
  cf := some (fileOf pool3 10 #[] #[{ accessFlags := 1, nameIndex := 5, descriptorIndex := 107, attributes := #[] }, { accessFlags := 1, nameIndex := 67, descriptorIndex := 68, attributes := #[] }, { accessFlags := 1, nameIndex := 77, descriptorIndex := 78, attributes := #[] }, { accessFlags := 1, nameIndex := 81, descriptorIndex := 78, attributes := #[] }, { accessFlags := 1, nameIndex := 119, descriptorIndex := 120, attributes := #[] }, { accessFlags := 10, nameIndex := 36, descriptorIndex := 37, attributes := #[] }] 49 2 #[] #[{ accessFlags := 18, nameIndex := 43, descriptorIndex := 44, attributes := #[] }, { accessFlags := 18, nameIndex := 47, descriptorIndex := 44, attributes := #[] }, { accessFlags := 18, nameIndex := 50, descriptorIndex := 44, attributes := #[] }, { accessFlags := 18, nameIndex := 53, descriptorIndex := 54, attributes := #[] }, { accessFlags := 25, nameIndex := 110, descriptorIndex := 111, attributes := #[] }])
  fields := #[{ name := "timestampBits", type := .int, accessFlags := 18, slot := 0, constantValue := 0 }, { name := "nodeBits", type := .int, accessFlags := 18, slot := 1, constantValue := 0 }, { name := "sequenceBits", type := .int, accessFlags := 18, slot := 2, constantValue := 0 }, { name := "epochMillis", type := .long, accessFlags := 18, slot := 3, constantValue := 0 }, { name := "DEFAULT", type := (.object "com/example/rimefall/rimefall/model/Layout"), accessFlags := 25, slot := 0, constantValue := 0 }]
  methods := #[k3m0, k3m1, k3m2, k3m3, k3m4, k3m5]
  instanceTypes := #[.int, .int, .int, .long]
  staticTypes := #[(.object "com/example/rimefall/rimefall/model/Layout")]
  resolved := Array.replicate 170 none
  statics := none }

def pool4 : Array CpInfo := pool [(1, .methodref 2 3), (0, .class_ 4), (0, .nameAndType 5 6), (0, u "java/lang/Record"), (0, u "<init>"), (0, u "()V"), (0, .fieldref 8 9), (0, .class_ 10), (0, .nameAndType 11 12), (0, u "com/example/rimefall/rimefall/model/IdFields"), (0, u "timestamp"), (0, u "J"), (0, .fieldref 8 14), (0, .nameAndType 15 12), (0, u "node"), (0, .fieldref 8 17), (0, .nameAndType 18 12), (0, u "sequence"), (12, u "(JJJ)V"), (6, u "()J")] 22

def k4c0 : Code := { maxStack := 3, maxLocals := 7, code := prog_24_method_1_code, exceptionTable := #[], attributes := #[] }
def k4m0 : Method := { name := "<init>", desc := "(JJJ)V", sig := { parameters := [.long, .long, .long], returnType := none }, accessFlags := 1, code := some k4c0 }
def k4c1 : Code := { maxStack := 2, maxLocals := 1, code := prog_24_method_5_code, exceptionTable := #[], attributes := #[] }
def k4m1 : Method := { name := "timestamp", desc := "()J", sig := { parameters := [], returnType := some .long }, accessFlags := 1, code := some k4c1 }
def k4c2 : Code := { maxStack := 2, maxLocals := 1, code := prog_24_method_6_code, exceptionTable := #[], attributes := #[] }
def k4m2 : Method := { name := "node", desc := "()J", sig := { parameters := [], returnType := some .long }, accessFlags := 1, code := some k4c2 }
def k4c3 : Code := { maxStack := 2, maxLocals := 1, code := prog_24_method_7_code, exceptionTable := #[], attributes := #[] }
def k4m3 : Method := { name := "sequence", desc := "()J", sig := { parameters := [], returnType := some .long }, accessFlags := 1, code := some k4c3 }
/-- com/example/rimefall/rimefall/model/IdFields -/
def k4 : Class := { plain "com/example/rimefall/rimefall/model/IdFields" (some 2) with
  accessFlags := 49
  interfaces := #[]
  cf := some (fileOf pool4 8 #[] #[{ accessFlags := 1, nameIndex := 5, descriptorIndex := 31, attributes := #[] }, { accessFlags := 1, nameIndex := 11, descriptorIndex := 38, attributes := #[] }, { accessFlags := 1, nameIndex := 15, descriptorIndex := 38, attributes := #[] }, { accessFlags := 1, nameIndex := 18, descriptorIndex := 38, attributes := #[] }] 49 2 #[] #[{ accessFlags := 18, nameIndex := 11, descriptorIndex := 12, attributes := #[] }, { accessFlags := 18, nameIndex := 15, descriptorIndex := 12, attributes := #[] }, { accessFlags := 18, nameIndex := 18, descriptorIndex := 12, attributes := #[] }])
  fields := #[{ name := "timestamp", type := .long, accessFlags := 18, slot := 0, constantValue := 0 }, { name := "node", type := .long, accessFlags := 18, slot := 1, constantValue := 0 }, { name := "sequence", type := .long, accessFlags := 18, slot := 2, constantValue := 0 }]
  methods := #[k4m0, k4m1, k4m2, k4m3]
  instanceTypes := #[.long, .long, .long]
  staticTypes := #[]
  resolved := Array.replicate 61 none
  statics := none }

def pool5 : Array CpInfo := pool [(1, u "java/lang/Cloneable"), (0, .class_ 1), (0, u "java/lang/Object"), (0, .class_ 3)] 3

/-- java/lang/Cloneable -/
def k5 : Class := { plain "java/lang/Cloneable" (some 0) with
  accessFlags := 1537
  interfaces := #[]
  cf := some (fileOf pool5 2 #[] #[] 1537 4 #[] #[])
  fields := #[]
  methods := #[]
  instanceTypes := #[]
  staticTypes := #[]
  resolved := Array.replicate 8 none
  statics := none }

def pool6 : Array CpInfo := pool [(1, u "java/io/Serializable"), (0, .class_ 1), (0, u "java/lang/Object"), (0, .class_ 3)] 3

/-- java/io/Serializable -/
def k6 : Class := { plain "java/io/Serializable" (some 0) with
  accessFlags := 1537
  interfaces := #[]
  cf := some (fileOf pool6 2 #[] #[] 1537 4 #[] #[])
  fields := #[]
  methods := #[]
  instanceTypes := #[]
  staticTypes := #[]
  resolved := Array.replicate 8 none
  statics := none }

/-- the primitive byte -/
def k7 : Class := { plain "byte" none with kind := .primitive 'B', accessFlags := 0x411 }
/-- [B -/
def k8 : Class := { plain "[B" (some 0) with kind := .array 7 .byte, interfaces := #[5, 6], accessFlags := 1041 }

/-- the primitive int -/
def k9 : Class := { plain "int" none with kind := .primitive 'I', accessFlags := 0x411 }
/-- [I -/
def k10 : Class := { plain "[I" (some 0) with kind := .array 9 .int, interfaces := #[5, 6], accessFlags := 1041 }

def heap : Heap := #[]
def classes : Array Class := #[k0, k1, k2, k3, k4, k5, k6, k7, k8, k9, k10]
def interned : List (Array UInt16 × Addr) := []
def slotsUsed : Nat := 0
def theMethod : MethodId := ⟨1, 1⟩
def args0 : Array Value := #[.int 300, .int 4, .int 7, .long 5, .long 7, .long 99]
def aboutOver (below : List Frame) : State where
  vm := { classes := classes, interned := interned.toArray }
  heap := heap
  slotsUsed := slotsUsed
  threads := #[{ frames := .invoking theMethod args0 :: below }]
def below0 : List Frame := [.native { method := ⟨0, 0⟩, args := #[] }]
def about1 : State := aboutOver below0
def p0 : Program := .bare "" "" ""
def e0 : Env := launch0.env 0 0 0
theorem w_frames : about1.frames = Frame.invoking theMethod args0 :: below0 := rfl
set_option maxRecDepth 65536 in
theorem w_args : argsFit about1.vm theMethod args0 = true := by decide +kernel
set_option maxRecDepth 65536 in
theorem w_heap : heapFits about1 = true := by decide +kernel
set_option maxRecDepth 65536 in
theorem w_runnable : about1.curStatus? = some .runnable := by decide +kernel
set_option maxRecDepth 65536 in
theorem w_alone : about1.alone = true := by decide +kernel
set_option maxRecDepth 65536 in
theorem w_named : about1.methodNamed? x = some theMethod := by decide +kernel
set_option maxRecDepth 65536 in
theorem w_hears : about1.hears theMethod below0 = true := by decide +kernel
set_option maxRecDepth 65536 in
theorem w_ripe : about1.ripe theMethod args0 below0 = true := by decide +kernel
theorem w_running : about1.status = .running := rfl
set_option maxRecDepth 65536 in
theorem w_room : about1.hasRoom e0.platform room_1 = true :=
  launch0.hasRoom_least _ room_1 (by decide +kernel) (by decide +kernel) (by decide +kernel) (by decide +kernel) (by decide +kernel) (by decide +kernel)
theorem allAtoms_all (ts : List Jvm.Cond) (a : Array Jvm.Value) (st : Jvm.State) : (allAtoms ts).before a st = ts.all (fun c => c.before a st) := by
  induction ts with
  | nil => rfl
  | cons c t ih =>
    show (Jvm.Cond.and c (allAtoms t)).before a st = _
    rw [Jvm.Cond.before_and, ih, List.all_cons]
def words1 : List Jvm.Cond := Jvm.Cond.code x code maxLocals ret :: tables_1
/-- a 'code' word, met by the world's own term for the bytes: nothing is compared byte by byte -/
theorem code_word {y : MethodName} {bytes : ByteArray} {mx : Nat} {rt : Option FieldType} {a : Array Value} {s : State} {m : MethodId} {meth : Method} {c : Code} (h1 : s.methodNamed? y = some m) (h2 : s.vm.method? m = some meth) (h3 : meth.code = some c) (h4 : c.code = bytes)
    (h5 : (c.maxLocals == mx && c.exceptionTable.isEmpty && decide (c.maxStack ≤ mostOperands) && decide (meth.sig.returnType = rt) && !meth.locks && decide (parseMethodDescriptor y.desc = some meth.sig)) = true) : (Jvm.Cond.code y bytes mx rt).before a s = true := by
  simp only [Bool.and_eq_true, beq_iff_eq, Bool.not_eq_true', decide_eq_true_eq] at h5
  obtain ⟨⟨⟨⟨⟨g1, g2⟩, g3⟩, g4⟩, g5⟩, g6⟩ := h5
  simp [Cond.before, Cond.holds, Cond.value, h1, h2, h3, h4, g1, g2, g3, g4, g5, g6]
def isCode : Jvm.Cond → Bool
  | .code _ _ _ _ => true
  | _ => false
theorem all_split {L : List Jvm.Cond} {P : Jvm.Cond → Bool} (h1 : L.all (fun c => isCode c || P c) = true) (h2 : ∀ c ∈ L.filter isCode, P c = true) : L.all P = true := by
  refine List.all_eq_true.mpr fun c hc => ?_
  have h := List.all_eq_true.mp h1 c hc
  rcases Bool.eq_false_or_eq_true (isCode c) with hi | hi
  · exact h2 c (List.mem_filter.mpr ⟨hc, hi⟩)
  · simpa [hi] using h
set_option maxRecDepth 65536 in
theorem w_c0 : (Jvm.Cond.code x code maxLocals ret).before args0 about1 = true := code_word (m := ⟨1, 1⟩) (meth := k1m1) (c := k1c1) (by decide +kernel) rfl rfl rfl (by decide +kernel)
set_option maxRecDepth 65536 in
theorem w_c1 : (Jvm.Cond.code ({ cls := "com/example/rimefall/rimefall/model/Layout", name := "<init>", desc := "(IIIJ)V" } : Jvm.MethodName) prog_25_method_1_code (8 : Nat) (Option.none : Option Jvm.ClassFile.FieldType)).before args0 about1 = true := code_word (m := ⟨3, 0⟩) (meth := k3m0) (c := k3c0) (by decide +kernel) rfl rfl rfl (by decide +kernel)
set_option maxRecDepth 65536 in
theorem w_c2 : (Jvm.Cond.code ({ cls := "java/lang/Record", name := "<init>", desc := "()V" } : Jvm.MethodName) jdk_30_method_1_code (1 : Nat) (Option.none : Option Jvm.ClassFile.FieldType)).before args0 about1 = true := code_word (m := ⟨2, 0⟩) (meth := k2m0) (c := k2c0) (by decide +kernel) rfl rfl rfl (by decide +kernel)
set_option maxRecDepth 65536 in
theorem w_c3 : (Jvm.Cond.code ({ cls := "java/lang/Object", name := "<init>", desc := "()V" } : Jvm.MethodName) object_method_1_code (1 : Nat) (Option.none : Option Jvm.ClassFile.FieldType)).before args0 about1 = true := code_word (m := ⟨0, 0⟩) (meth := k0m0) (c := k0c0) (by decide +kernel) rfl rfl rfl (by decide +kernel)
set_option maxRecDepth 65536 in
theorem w_c4 : (Jvm.Cond.code ({ cls := "com/example/rimefall/rimefall/model/Layout", name := "mask", desc := "(I)J" } : Jvm.MethodName) prog_25_method_10_code (1 : Nat) (Option.some Jvm.ClassFile.FieldType.long)).before args0 about1 = true := code_word (m := ⟨3, 5⟩) (meth := k3m5) (c := k3c5) (by decide +kernel) rfl rfl rfl (by decide +kernel)
set_option maxRecDepth 65536 in
theorem w_c5 : (Jvm.Cond.code ({ cls := "com/example/rimefall/rimefall/model/Layout", name := "decode", desc := "(J)Lcom/example/rimefall/rimefall/model/IdFields;" } : Jvm.MethodName) prog_25_method_7_code (9 : Nat) (Option.some (Jvm.ClassFile.FieldType.object "com/example/rimefall/rimefall/model/IdFields"))).before args0 about1 = true := code_word (m := ⟨3, 4⟩) (meth := k3m4) (c := k3c4) (by decide +kernel) rfl rfl rfl (by decide +kernel)
set_option maxRecDepth 65536 in
theorem w_c6 : (Jvm.Cond.code ({ cls := "com/example/rimefall/rimefall/model/Layout", name := "totalBits", desc := "()I" } : Jvm.MethodName) prog_25_method_2_code (1 : Nat) (Option.some Jvm.ClassFile.FieldType.int)).before args0 about1 = true := code_word (m := ⟨3, 1⟩) (meth := k3m1) (c := k3c1) (by decide +kernel) rfl rfl rfl (by decide +kernel)
set_option maxRecDepth 65536 in
theorem w_c7 : (Jvm.Cond.code ({ cls := "com/example/rimefall/rimefall/model/Layout", name := "maxNode", desc := "()J" } : Jvm.MethodName) prog_25_method_4_code (1 : Nat) (Option.some Jvm.ClassFile.FieldType.long)).before args0 about1 = true := code_word (m := ⟨3, 2⟩) (meth := k3m2) (c := k3c2) (by decide +kernel) rfl rfl rfl (by decide +kernel)
set_option maxRecDepth 65536 in
theorem w_c8 : (Jvm.Cond.code ({ cls := "com/example/rimefall/rimefall/model/Layout", name := "maxSequence", desc := "()J" } : Jvm.MethodName) prog_25_method_5_code (1 : Nat) (Option.some Jvm.ClassFile.FieldType.long)).before args0 about1 = true := code_word (m := ⟨3, 3⟩) (meth := k3m3) (c := k3c3) (by decide +kernel) rfl rfl rfl (by decide +kernel)
set_option maxRecDepth 65536 in
theorem w_c9 : (Jvm.Cond.code ({ cls := "com/example/rimefall/rimefall/model/IdFields", name := "<init>", desc := "(JJJ)V" } : Jvm.MethodName) prog_24_method_1_code (7 : Nat) (Option.none : Option Jvm.ClassFile.FieldType)).before args0 about1 = true := code_word (m := ⟨4, 0⟩) (meth := k4m0) (c := k4c0) (by decide +kernel) rfl rfl rfl (by decide +kernel)
set_option maxRecDepth 65536 in
theorem w_c10 : (Jvm.Cond.code ({ cls := "com/example/rimefall/rimefall/model/IdFields", name := "timestamp", desc := "()J" } : Jvm.MethodName) prog_24_method_5_code (1 : Nat) (Option.some Jvm.ClassFile.FieldType.long)).before args0 about1 = true := code_word (m := ⟨4, 1⟩) (meth := k4m1) (c := k4c1) (by decide +kernel) rfl rfl rfl (by decide +kernel)
set_option maxRecDepth 65536 in
theorem w_c11 : (Jvm.Cond.code ({ cls := "com/example/rimefall/rimefall/model/IdFields", name := "node", desc := "()J" } : Jvm.MethodName) prog_24_method_6_code (1 : Nat) (Option.some Jvm.ClassFile.FieldType.long)).before args0 about1 = true := code_word (m := ⟨4, 2⟩) (meth := k4m2) (c := k4c2) (by decide +kernel) rfl rfl rfl (by decide +kernel)
set_option maxRecDepth 65536 in
theorem w_c12 : (Jvm.Cond.code ({ cls := "com/example/rimefall/rimefall/model/IdFields", name := "sequence", desc := "()J" } : Jvm.MethodName) prog_24_method_7_code (1 : Nat) (Option.some Jvm.ClassFile.FieldType.long)).before args0 about1 = true := code_word (m := ⟨4, 3⟩) (meth := k4m3) (c := k4c3) (by decide +kernel) rfl rfl rfl (by decide +kernel)
def codes1 : List Jvm.Cond := [Jvm.Cond.code x code maxLocals ret, Jvm.Cond.code ({ cls := "com/example/rimefall/rimefall/model/Layout", name := "<init>", desc := "(IIIJ)V" } : Jvm.MethodName) prog_25_method_1_code (8 : Nat) (Option.none : Option Jvm.ClassFile.FieldType), Jvm.Cond.code ({ cls := "java/lang/Record", name := "<init>", desc := "()V" } : Jvm.MethodName) jdk_30_method_1_code (1 : Nat) (Option.none : Option Jvm.ClassFile.FieldType), Jvm.Cond.code ({ cls := "java/lang/Object", name := "<init>", desc := "()V" } : Jvm.MethodName) object_method_1_code (1 : Nat) (Option.none : Option Jvm.ClassFile.FieldType), Jvm.Cond.code ({ cls := "com/example/rimefall/rimefall/model/Layout", name := "mask", desc := "(I)J" } : Jvm.MethodName) prog_25_method_10_code (1 : Nat) (Option.some Jvm.ClassFile.FieldType.long), Jvm.Cond.code ({ cls := "com/example/rimefall/rimefall/model/Layout", name := "decode", desc := "(J)Lcom/example/rimefall/rimefall/model/IdFields;" } : Jvm.MethodName) prog_25_method_7_code (9 : Nat) (Option.some (Jvm.ClassFile.FieldType.object "com/example/rimefall/rimefall/model/IdFields")), Jvm.Cond.code ({ cls := "com/example/rimefall/rimefall/model/Layout", name := "totalBits", desc := "()I" } : Jvm.MethodName) prog_25_method_2_code (1 : Nat) (Option.some Jvm.ClassFile.FieldType.int), Jvm.Cond.code ({ cls := "com/example/rimefall/rimefall/model/Layout", name := "maxNode", desc := "()J" } : Jvm.MethodName) prog_25_method_4_code (1 : Nat) (Option.some Jvm.ClassFile.FieldType.long), Jvm.Cond.code ({ cls := "com/example/rimefall/rimefall/model/Layout", name := "maxSequence", desc := "()J" } : Jvm.MethodName) prog_25_method_5_code (1 : Nat) (Option.some Jvm.ClassFile.FieldType.long), Jvm.Cond.code ({ cls := "com/example/rimefall/rimefall/model/IdFields", name := "<init>", desc := "(JJJ)V" } : Jvm.MethodName) prog_24_method_1_code (7 : Nat) (Option.none : Option Jvm.ClassFile.FieldType), Jvm.Cond.code ({ cls := "com/example/rimefall/rimefall/model/IdFields", name := "timestamp", desc := "()J" } : Jvm.MethodName) prog_24_method_5_code (1 : Nat) (Option.some Jvm.ClassFile.FieldType.long), Jvm.Cond.code ({ cls := "com/example/rimefall/rimefall/model/IdFields", name := "node", desc := "()J" } : Jvm.MethodName) prog_24_method_6_code (1 : Nat) (Option.some Jvm.ClassFile.FieldType.long), Jvm.Cond.code ({ cls := "com/example/rimefall/rimefall/model/IdFields", name := "sequence", desc := "()J" } : Jvm.MethodName) prog_24_method_7_code (1 : Nat) (Option.some Jvm.ClassFile.FieldType.long)]
set_option maxRecDepth 65536 in
theorem codes_eq : words1.filter isCode = codes1 := rfl
theorem w_codes : ∀ c ∈ words1.filter isCode, c.before args0 about1 = true := by
  rw [codes_eq]
  intro c hc
  simp only [codes1, List.mem_cons, List.not_mem_nil, or_false] at hc
  rcases hc with rfl | rfl | rfl | rfl | rfl | rfl | rfl | rfl | rfl | rfl | rfl | rfl | rfl
  · exact w_c0
  · exact w_c1
  · exact w_c2
  · exact w_c3
  · exact w_c4
  · exact w_c5
  · exact w_c6
  · exact w_c7
  · exact w_c8
  · exact w_c9
  · exact w_c10
  · exact w_c11
  · exact w_c12
set_option maxRecDepth 65536 in
theorem w_t1 : (words1.take 24).all (fun c => isCode c || c.before args0 about1) = true := by decide +kernel
set_option maxRecDepth 65536 in
theorem w_t2 : ((words1.drop 24).take 24).all (fun c => isCode c || c.before args0 about1) = true := by decide +kernel
set_option maxRecDepth 65536 in
theorem w_t3 : (((words1.drop 24).drop 24).take 24).all (fun c => isCode c || c.before args0 about1) = true := by decide +kernel
set_option maxRecDepth 65536 in
theorem w_t4 : (((words1.drop 24).drop 24).drop 24).all (fun c => isCode c || c.before args0 about1) = true := by decide +kernel
theorem w_tables : (allAtoms (Jvm.Cond.code x code maxLocals ret :: tables_1)).before args0 about1 = true := by
  rw [allAtoms_all]
  show words1.all (fun c => c.before args0 about1) = true
  refine all_split ?_ w_codes
  rw [← List.take_append_drop 24 words1, List.all_append, w_t1, ← List.take_append_drop 24 (words1.drop 24), List.all_append, w_t2, ← List.take_append_drop 24 ((words1.drop 24).drop 24), List.all_append, w_t3, w_t4]
  rfl
set_option maxRecDepth 65536 in
theorem w_case : (Jvm.Cond.and given_1 narrow_1).before args0 about1 = true := by decide +kernel
theorem w_applies : (headSpec (Jvm.Cond.code x code maxLocals ret :: tables_1) room_1).applies x e0.platform about1 = true :=
  (Spec.applies_iff w_frames).mpr ⟨w_running, w_runnable, w_alone, w_named, w_hears, w_ripe, w_room, w_tables⟩
theorem atStart : AtStart classFile x code maxLocals ret World_1 tables_1 room_1 Calls_1 rest_1 Pre_1 launch0 p0 e0 about1 theMethod args0 below0 :=
  ⟨lists_1, trivial, launch0.admits_env _ _ _, launch0.least_env, fairChoices_fair.cas, fairChoices_fair.clock, w_frames, w_args, w_heap, w_applies, trivial, trivial, w_case⟩
end start1
theorem witness_1 : WitnessClaimed_1 := ⟨start1.p0, start1.e0, start1.about1, start1.theMethod, start1.args0, start1.below0, start1.atStart⟩
end Jvm.Pilot.@@N@@
