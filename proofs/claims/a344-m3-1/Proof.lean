import JvmDerived
import JvmDerived.Pilot.@@N@@Statement
import JvmDerived.Pilot.@@N@@Code
set_option linter.unusedVariables false
set_option linter.unusedSimpArgs false
namespace Jvm.Pilot.@@N@@
open Jvm Jvm.ClassFile Sem Op Lib Jvm.Free Jvm.Stand Jvm.LawKit Jvm.RoadKit Bundle Jvm.Pilot.@@N@@.Jvm.D
section Own
variable {p : Program} {l : Launch} {e : Env} {R : Room} {s : State} {m : MethodId} {args : Array Value} {below : List Frame} {meth : Method} {c : Code} {T : State} {locs : List Loc} {cells slots : Nat} {Z : State} {h h' : Heap}
def Run (p : Program) (e : Env) (below : List Frame) (s : State) (C N : Nat) (Q : Option Value → Heap → List Loc → Prop) (S : State) : Prop :=
  ∃ s₂ o, Steps p.tables e below S s₂ ∧ s₂.status = .running ∧ Ended s₂ below o ∧ ∃ v L, o = .returned v ∧ Q v s₂.heap L ∧ FrameEnd s o s₂ L C N
variable {C N : Nat} {Q : Option Value → Heap → List Loc → Prop} {S S' : State}
theorem Run.go (k : ∀ t, Steps p.tables e below S' t → Steps p.tables e below S t) (r : Run p e below s C N Q S') : Run p e below s C N Q S := by
  obtain ⟨s₂, o, h1, r⟩ := r
  exact ⟨s₂, o, k _ h1, r⟩
theorem Run.tr (k : Steps p.tables e below S S') (r : Run p e below s C N Q S') : Run p e below s C N Q S := by
  obtain ⟨s₂, o, h1, r⟩ := r
  exact ⟨s₂, o, k.trans h1, r⟩
theorem Run.retI (X : Stand p l e R s m args below meth c T locs cells slots) (hx : p.tables.exec = Jvm.exec) {pc : Nat} {Ls : Array Slot} {z : Int32} {rest : List Value} (hret : meth.sig.returnType = some .int) (hlk : meth.locks = false) (hd : decode c.code pc = .ok (.ireturn, 1)) (hc : cells ≤ C) (hn : slots ≤ N)
    (hQ : Q (some (.int z)) T.heap locs) : Run p e below s C N Q (T.setTop (mkF m pc Ls (.int z :: rest))) := by
  obtain ⟨fs, hr, hrun, hended, hW, hsame⟩ := X.leave (v := some (.int z)) (fun q => by rw [hret] at q; cases q)
  refine ⟨_, _, ?_, hrun, hended, _, _, rfl, hQ, ⟨_, rfl⟩, hW, hsame.mono hc hn⟩
  have hm' : T.vm.method? m = some meth := X.method'
  have hn : narrow .int (.int z) = .int z := rfl
  show Steps p.tables e below (T.setTop { method := m, pc := pc, locals := Ls, stack := _ :: rest, locked := none }) _
  jvm_step X.here [X.here.top, hx, hd, hm', hret, hn]
  first | (intro acts; rw [hr _ acts rfl rfl rfl]) | rw [hr _ _ rfl rfl rfl]
  exact Steps.refl _
theorem Run.retN (X : Stand p l e R s m args below meth c T locs cells slots) (hx : p.tables.exec = Jvm.exec) {pc : Nat} {Ls : Array Slot} {z y : Int32} {t : FieldType} {rest : List Value} (hret : meth.sig.returnType = some t) (ht : t = .boolean ∨ t = .byte ∨ t = .char ∨ t = .short) (hy : nar t z = y) (hlk : meth.locks = false) (hd : decode c.code pc = .ok (.ireturn, 1)) (hc : cells ≤ C) (hn : slots ≤ N)
    (hQ : Q (some (.int y)) T.heap locs) : Run p e below s C N Q (T.setTop (mkF m pc Ls (.int z :: rest))) := by
  subst hy
  obtain ⟨fs, hr, hrun, hended, hW, hsame⟩ := X.leave (v := some (.int (nar t z))) (fun q => by rw [hret] at q; cases q)
  exact ⟨_, _, Jvm.RoadKit.retN X hx hret ht hd hr, hrun, hended, _, _, rfl, hQ, ⟨_, rfl⟩, hW, hsame.mono hc hn⟩
theorem Run.retJ (X : Stand p l e R s m args below meth c T locs cells slots) (hx : p.tables.exec = Jvm.exec) {pc : Nat} {Ls : Array Slot} {z : Int64} {rest : List Value} (hret : meth.sig.returnType = some .long) (hlk : meth.locks = false) (hd : decode c.code pc = .ok (.lreturn, 1)) (hc : cells ≤ C) (hn : slots ≤ N)
    (hQ : Q (some (.long z)) T.heap locs) : Run p e below s C N Q (T.setTop (mkF m pc Ls (.long z :: rest))) := by
  obtain ⟨fs, hr, hrun, hended, hW, hsame⟩ := X.leave (v := some (.long z)) (fun q => by rw [hret] at q; cases q)
  refine ⟨_, _, ?_, hrun, hended, _, _, rfl, hQ, ⟨_, rfl⟩, hW, hsame.mono hc hn⟩
  have hm' : T.vm.method? m = some meth := X.method'
  show Steps p.tables e below (T.setTop { method := m, pc := pc, locals := Ls, stack := _ :: rest, locked := none }) _
  jvm_step X.here [X.here.top, hx, hd, hm', hret, narrow]
  first | (intro acts; rw [hr _ acts rfl rfl rfl]) | rw [hr _ _ rfl rfl rfl]
  exact Steps.refl _
theorem Run.retA (X : Stand p l e R s m args below meth c T locs cells slots) (hx : p.tables.exec = Jvm.exec) {pc : Nat} {Ls : Array Slot} {w : Value} {t : FieldType} {rest : List Value} (hw : w.isRef = true) (hret : meth.sig.returnType = some t) (ht : t.isReference = true) (hlk : meth.locks = false) (hd : decode c.code pc = .ok (.areturn, 1)) (hc : cells ≤ C) (hn : slots ≤ N)
    (hQ : Q (some w) T.heap locs) : Run p e below s C N Q (T.setTop (mkF m pc Ls (w :: rest))) := by
  obtain ⟨fs, hr, hrun, hended, hW, hsame⟩ := X.leave (v := some w) (fun q => by rw [hret] at q; cases q)
  refine ⟨_, _, ?_, hrun, hended, _, _, rfl, hQ, ⟨_, rfl⟩, hW, hsame.mono hc hn⟩
  have hm' : T.vm.method? m = some meth := X.method'
  show Steps p.tables e below (T.setTop { method := m, pc := pc, locals := Ls, stack := _ :: rest, locked := none }) _
  rcases ref_cases hw with rfl | ⟨a, rfl⟩
  all_goals
    jvm_step X.here [X.here.top, hx, hd, hm', hret, Value.isRef, ht]
    first | (intro acts; rw [hr _ acts rfl rfl rfl]) | rw [hr _ _ rfl rfl rfl]
    exact Steps.refl _
theorem Run.ret0 (X : Stand p l e R s m args below meth c T locs cells slots) (hx : p.tables.exec = Jvm.exec) {pc : Nat} {Ls : Array Slot} (hret : meth.sig.returnType = none) (hlk : meth.locks = false) (hd : decode c.code pc = .ok (.return_, 1)) (hc : cells ≤ C) (hn : slots ≤ N)
    (hQ : Q none T.heap locs) : Run p e below s C N Q (T.setTop (mkF m pc Ls [])) := by
  obtain ⟨fs, hr, hrun, hended, hW, hsame⟩ := X.leave (v := none) (fun _ => rfl)
  exact ⟨_, _, X.returnOut hx hret hd hr, hrun, hended, _, _, rfl, hQ, ⟨_, rfl⟩, hW, hsame.mono hc hn⟩
theorem Sta.keep {C n d : String} {w : Value} {ws : List Addr} (F : Sta Z h C n d w) (K : Keep h h' ws) (q : ∀ x ∈ ws, ∀ c : Cell, h[x]? = some c → c.vm.isStatics = false) : Sta Z h' C n d w := by
  obtain ⟨cf, i, k, f, st, cell, h1, h2, h3, h4, h5, h6, h7⟩ := F
  refine ⟨cf, i, k, f, st, cell, h1, h2, h3, h4, K.2.1 st cell h5 (fun hm => ?_), h6, h7⟩
  rw [q st hm cell h5] at h6; cases h6
theorem Exa.nst {a : Addr} {C : String} (F : Exa Z h a C) : ∀ c : Cell, h[a]? = some c → c.vm.isStatics = false := fun c q => by
  obtain ⟨cell, k, h1, -, -, h4, -⟩ := F
  cases h1.symm.trans q; exact h4
/-- an array of n elements, the i-th is f i -/
def Ary (Z : State) (h : Heap) (a : Addr) (ty : FieldType) (n : Nat) (f : Nat → Value) : Prop := ∃ c : Cell, Arr Z h a c ty ∧ c.slots.size = n ∧ ∀ i, i < n → c.slots[i]? = some (f i)
variable {a b : Addr} {ty : FieldType} {n sl : Nat} {f : Nat → Value} {v : Value} {ws : List Addr}
theorem Ary.lt (F : Ary Z h a ty n f) : a < h.size := by obtain ⟨c, A, -⟩ := F; exact A.lt
theorem Ary.ext (F : Ary Z h a ty n f) (E : Ext h h') : Ary Z h' a ty n f := by obtain ⟨c, A, r⟩ := F; exact ⟨c, A.ext E, r⟩
theorem Ary.other (F : Ary Z h b ty n f) (W : Wr h h' a sl v) (q : b ≠ a) : Ary Z h' b ty n f := by obtain ⟨c, A, r⟩ := F; exact ⟨c, A.other W q, r⟩
theorem Ary.keep (F : Ary Z h a ty n f) (K : Keep h h' ws) (q : a ∉ ws) : Ary Z h' a ty n f := by obtain ⟨c, A, r⟩ := F; exact ⟨c, ⟨K.2.1 a c A.1 q, A.2⟩, r⟩
theorem Ary.ne {C : String} {a0 : Array Value} {k : Nat} (F : Ary Z h a ty n f) (G : Exa Z h b C) (wi : (Jvm.Cond.instantiable C k).before a0 Z = true) : a ≠ b := by
  obtain ⟨c, A, r⟩ := F; exact (ne_arr G wi A).symm
theorem Ary.same (F : Ary Z h a ty n f) (W : Wr h h' a sl v) : Ary Z h' a ty n (fun i => if i = sl then v else f i) := by
  obtain ⟨c, A, hs, hf⟩ := F
  obtain ⟨c1, q1, q2, q3, q4⟩ := W
  obtain rfl := Option.some.inj (q1.symm.trans A.1)
  refine ⟨c1.setSlot sl v, A.same ⟨c1, q1, q2, q3, q4⟩, by simp [Cell.setSlot, hs], fun i hi => ?_⟩
  by_cases e : i = sl
  · subst e; simp [Cell.setSlot, q3]
  · simp only [if_neg e]; rw [← hf i hi]; exact Array.getElem?_setIfInBounds_ne (Ne.symm e)
theorem Ary.nst (F : Ary Z h a ty n f) : ∀ c : Cell, h[a]? = some c → c.vm.isStatics = false := fun c q => by
  obtain ⟨cl, A, -⟩ := F
  cases A.1.symm.trans q; exact A.plain
theorem Ary.congr {g : Nat → Value} (F : Ary Z h a ty n f) (q : ∀ i, i < n → f i = g i) : Ary Z h a ty n g := by
  obtain ⟨c, A, hs, hf⟩ := F; exact ⟨c, A, hs, fun i hi => by rw [hf i hi, q i hi]⟩
theorem Ary.new {k : ClassId} {z : Int32} (A : Arr Z h a (newA k ty z) ty) (q : z.toNatClampNeg = n) : Ary Z h a ty n (fun _ => defaultValue ty) := by
  subst q
  exact ⟨_, A, sz_new _ _ _, fun i hi => by simp [newA, hi]⟩
theorem out_of {j : Int32} {c : Cell} (hs : c.slots.size = n) (h0 : ¬ j < 0) (hj : j.toNatClampNeg < n) : ¬ (j < 0 ∨ c.slots.size ≤ j.toNatClampNeg) := by
  rw [hs]; exact fun q => q.elim h0 (fun q => absurd hj (Nat.not_lt.mpr q))
/-- an array of references: besides, its class is that of arrays over C -/
def ArR (Z : State) (h : Heap) (a : Addr) (C : String) (n : Nat) (f : Nat → Value) : Prop := ∃ c : Cell, Arr Z h a c (.object C) ∧ Ovr Z c.cls C ∧ c.slots.size = n ∧ ∀ i, i < n → c.slots[i]? = some (f i)
variable {K : String}
theorem ArR.lt (F : ArR Z h a K n f) : a < h.size := by obtain ⟨c, A, -⟩ := F; exact A.lt
theorem ArR.ext (F : ArR Z h a K n f) (E : Ext h h') : ArR Z h' a K n f := by obtain ⟨c, A, r⟩ := F; exact ⟨c, A.ext E, r⟩
theorem ArR.other (F : ArR Z h b K n f) (W : Wr h h' a sl v) (q : b ≠ a) : ArR Z h' b K n f := by obtain ⟨c, A, r⟩ := F; exact ⟨c, A.other W q, r⟩
theorem ArR.keep (F : ArR Z h a K n f) (k : Keep h h' ws) (q : a ∉ ws) : ArR Z h' a K n f := by obtain ⟨c, A, r⟩ := F; exact ⟨c, ⟨k.2.1 a c A.1 q, A.2⟩, r⟩
theorem ArR.ary (F : ArR Z h a K n f) : Ary Z h a (.object K) n f := by obtain ⟨c, A, -, r⟩ := F; exact ⟨c, A, r⟩
theorem ArR.same (F : ArR Z h a K n f) (W : Wr h h' a sl v) : ArR Z h' a K n (fun i => if i = sl then v else f i) := by
  obtain ⟨c, A, o, hs, hf⟩ := F
  obtain ⟨c1, q1, q2, q3, q4⟩ := W
  obtain rfl := Option.some.inj (q1.symm.trans A.1)
  refine ⟨c1.setSlot sl v, A.same ⟨c1, q1, q2, q3, q4⟩, o, by simp [Cell.setSlot, hs], fun i hi => ?_⟩
  by_cases e : i = sl
  · subst e; simp [Cell.setSlot, q3]
  · simp only [if_neg e]; rw [← hf i hi]; exact Array.getElem?_setIfInBounds_ne (Ne.symm e)
theorem ArR.new {k : ClassId} {z : Int32} (A : Arr Z h a (newA k (.object K) z) (.object K)) (O : Ovr Z k K) (q : z.toNatClampNeg = n) : ArR Z h a K n (fun _ => .null) := by
  subst q
  exact ⟨_, A, O, sz_new _ _ _, fun i hi => by simp [newA, hi]; rfl⟩
section Arrays
theorem ary_iget (X : Stand p l e R s m args below meth c T locs cells slots) (hx : p.tables.exec = Jvm.exec) (hZ : Z.Warmed39 s.vm) (eT : T.heap = h) (A : Ary Z h a .int n f) {j : Int32} (h0 : ¬ j < 0) (hj : j.toNatClampNeg < n) {g : JFrame} (hg : g.method = m) {rest : List Value} (hs : g.stack = .int j :: .ref a :: rest) (hd : decode c.code g.pc = .ok (.iaload, 1)) {v : Value} (hv : f j.toNatClampNeg = v) (target : State)
    (k : Steps p.tables e below (T.setTop { g with pc := g.pc + 1, stack := v :: rest }) target) : Steps p.tables e below (T.setTop g) target := by
  subst hv; obtain ⟨cl, A, q, F⟩ := A
  exact X.iaload hx (by rw [eT]; exact A.1) (State.isArrayOf_alike hZ.alike A.2.1) A.2.2 (out_of q h0 hj) (F _ hj) hg hs hd target k
theorem ary_lget (X : Stand p l e R s m args below meth c T locs cells slots) (hx : p.tables.exec = Jvm.exec) (hZ : Z.Warmed39 s.vm) (eT : T.heap = h) (A : Ary Z h a .long n f) {j : Int32} (h0 : ¬ j < 0) (hj : j.toNatClampNeg < n) {g : JFrame} (hg : g.method = m) {rest : List Value} (hs : g.stack = .int j :: .ref a :: rest) (hd : decode c.code g.pc = .ok (.laload, 1)) {v : Value} (hv : f j.toNatClampNeg = v) (target : State)
    (k : Steps p.tables e below (T.setTop { g with pc := g.pc + 1, stack := v :: rest }) target) : Steps p.tables e below (T.setTop g) target := by
  subst hv; obtain ⟨cl, A, q, F⟩ := A
  exact X.laload hx (by rw [eT]; exact A.1) (State.isArrayOf_alike hZ.alike A.2.1) A.2.2 (out_of q h0 hj) (F _ hj) hg hs hd target k
theorem ary_bget (X : Stand p l e R s m args below meth c T locs cells slots) (hx : p.tables.exec = Jvm.exec) (hZ : Z.Warmed39 s.vm) (eT : T.heap = h) (A : Ary Z h a .byte n f) {j : Int32} (h0 : ¬ j < 0) (hj : j.toNatClampNeg < n) {g : JFrame} (hg : g.method = m) {rest : List Value} (hs : g.stack = .int j :: .ref a :: rest) (hd : decode c.code g.pc = .ok (.baload, 1)) {v : Value} (hv : f j.toNatClampNeg = v) (target : State)
    (k : Steps p.tables e below (T.setTop { g with pc := g.pc + 1, stack := v :: rest }) target) : Steps p.tables e below (T.setTop g) target := by
  subst hv; obtain ⟨cl, A, q, F⟩ := A
  exact X.baloadBytes hx (by rw [eT]; exact A.1) (State.isArrayOf_alike hZ.alike A.2.1) A.2.2 (out_of q h0 hj) (F _ hj) hg hs hd target k
theorem ary_cget (X : Stand p l e R s m args below meth c T locs cells slots) (hx : p.tables.exec = Jvm.exec) (hZ : Z.Warmed39 s.vm) (eT : T.heap = h) (A : Ary Z h a .char n f) {j : Int32} (h0 : ¬ j < 0) (hj : j.toNatClampNeg < n) {g : JFrame} (hg : g.method = m) {rest : List Value} (hs : g.stack = .int j :: .ref a :: rest) (hd : decode c.code g.pc = .ok (.caload, 1)) {v : Value} (hv : f j.toNatClampNeg = v) (target : State)
    (k : Steps p.tables e below (T.setTop { g with pc := g.pc + 1, stack := v :: rest }) target) : Steps p.tables e below (T.setTop g) target := by
  subst hv; obtain ⟨cl, A, q, F⟩ := A
  exact X.caload hx (by rw [eT]; exact A.1) (State.isArrayOf_alike hZ.alike A.2.1) A.2.2 (out_of q h0 hj) (F _ hj) hg hs hd target k
theorem ary_aget (X : Stand p l e R s m args below meth c T locs cells slots) (hx : p.tables.exec = Jvm.exec) (hZ : Z.Warmed39 s.vm) (eT : T.heap = h) (A : Ary Z h a ty n f) (hr : ty.isReference = true) {j : Int32} (h0 : ¬ j < 0) (hj : j.toNatClampNeg < n) {g : JFrame} (hg : g.method = m) {rest : List Value} (hs : g.stack = .int j :: .ref a :: rest) (hd : decode c.code g.pc = .ok (.aaload, 1)) {v : Value} (hv : f j.toNatClampNeg = v) (target : State)
    (k : Steps p.tables e below (T.setTop { g with pc := g.pc + 1, stack := v :: rest }) target) : Steps p.tables e below (T.setTop g) target := by
  subst hv; obtain ⟨cl, A, q, F⟩ := A
  exact X.aaload hx (by rw [eT]; exact A.1) (State.isArrayOf_alike hZ.alike A.2.1) hr A.2.2 (out_of q h0 hj) (F _ hj) hg hs hd target k
theorem ary_len (X : Stand p l e R s m args below meth c T locs cells slots) (hx : p.tables.exec = Jvm.exec) (hZ : Z.Warmed39 s.vm) (eT : T.heap = h) (A : Ary Z h a ty n f) {g : JFrame} (hg : g.method = m) {rest : List Value} (hs : g.stack = .ref a :: rest) (hd : decode c.code g.pc = .ok (.arraylength, 1)) {z : Int32} (hv : n.toInt32 = z) (target : State)
    (k : Steps p.tables e below (T.setTop { g with pc := g.pc + 1, stack := .int z :: rest }) target) : Steps p.tables e below (T.setTop g) target := by
  subst hv; obtain ⟨cl, A, q, F⟩ := A
  subst q
  exact X.arraylength hx (by rw [eT]; exact A.1) (State.isArrayOf_alike hZ.alike A.2.1) hg hs hd target k
theorem ary_iset (X : Stand p l e R s m args below meth c T locs cells slots) (hx : p.tables.exec = Jvm.exec) (hZ : Z.Warmed39 s.vm) (eT : T.heap = h) (A : Ary Z h a .int n f) {j x : Int32} (h0 : ¬ j < 0) (hj : j.toNatClampNeg < n) {g : JFrame} (hg : g.method = m) {rest : List Value} (hs : g.stack = .int x :: .int j :: .ref a :: rest) (hd : decode c.code g.pc = .ok (.iastore, 1)) :
    ∃ T' h', Stand p l e R s m args below meth c T' (locs ++ [⟨a, j.toNatClampNeg⟩]) cells slots ∧ T'.heap = h' ∧ Wr h h' a j.toNatClampNeg (.int x) ∧ ∀ target, Steps p.tables e below (T'.setTop { g with pc := g.pc + 1, stack := rest }) target → Steps p.tables e below (T.setTop g) target := by
  obtain ⟨cl, A, q, F⟩ := A
  exact stI X hx hZ eT A (out_of q h0 hj) hg hs hd
theorem ary_lset (X : Stand p l e R s m args below meth c T locs cells slots) (hx : p.tables.exec = Jvm.exec) (hZ : Z.Warmed39 s.vm) (eT : T.heap = h) (A : Ary Z h a .long n f) {j : Int32} {x : Int64} (h0 : ¬ j < 0) (hj : j.toNatClampNeg < n) {g : JFrame} (hg : g.method = m) {rest : List Value} (hs : g.stack = .long x :: .int j :: .ref a :: rest) (hd : decode c.code g.pc = .ok (.lastore, 1)) :
    ∃ T' h', Stand p l e R s m args below meth c T' (locs ++ [⟨a, j.toNatClampNeg⟩]) cells slots ∧ T'.heap = h' ∧ Wr h h' a j.toNatClampNeg (.long x) ∧ ∀ target, Steps p.tables e below (T'.setTop { g with pc := g.pc + 1, stack := rest }) target → Steps p.tables e below (T.setTop g) target := by
  obtain ⟨cl, A, q, F⟩ := A
  exact stJ X hx hZ eT A (out_of q h0 hj) hg hs hd
theorem ary_bset (X : Stand p l e R s m args below meth c T locs cells slots) (hx : p.tables.exec = Jvm.exec) (hZ : Z.Warmed39 s.vm) (eT : T.heap = h) (A : Ary Z h a .byte n f) {j x y : Int32} (h0 : ¬ j < 0) (hj : j.toNatClampNeg < n) {g : JFrame} (hg : g.method = m) {rest : List Value} (hs : g.stack = .int x :: .int j :: .ref a :: rest) (hd : decode c.code g.pc = .ok (.bastore, 1)) (hy : x.toInt8.toInt32 = y) :
    ∃ T' h', Stand p l e R s m args below meth c T' (locs ++ [⟨a, j.toNatClampNeg⟩]) cells slots ∧ T'.heap = h' ∧ Wr h h' a j.toNatClampNeg (.int y) ∧ ∀ target, Steps p.tables e below (T'.setTop { g with pc := g.pc + 1, stack := rest }) target → Steps p.tables e below (T.setTop g) target := by
  subst hy; obtain ⟨cl, A, q, F⟩ := A
  exact stB X hx hZ eT A (out_of q h0 hj) hg hs hd
theorem ary_cset (X : Stand p l e R s m args below meth c T locs cells slots) (hx : p.tables.exec = Jvm.exec) (hZ : Z.Warmed39 s.vm) (eT : T.heap = h) (A : Ary Z h a .char n f) {j x y : Int32} (h0 : ¬ j < 0) (hj : j.toNatClampNeg < n) {g : JFrame} (hg : g.method = m) {rest : List Value} (hs : g.stack = .int x :: .int j :: .ref a :: rest) (hd : decode c.code g.pc = .ok (.castore, 1)) (hy : nar .char x = y) :
    ∃ T' h', Stand p l e R s m args below meth c T' (locs ++ [⟨a, j.toNatClampNeg⟩]) cells slots ∧ T'.heap = h' ∧ Wr h h' a j.toNatClampNeg (.int y) ∧ ∀ target, Steps p.tables e below (T'.setTop { g with pc := g.pc + 1, stack := rest }) target → Steps p.tables e below (T.setTop g) target := by
  subst hy; obtain ⟨cl, A, q, F⟩ := A
  exact stC X hx hZ eT A (out_of q h0 hj) hg hs hd
theorem arr_set (X : Stand p l e R s m args below meth c T locs cells slots) (hx : p.tables.exec = Jvm.exec) (hZ : Z.Warmed39 s.vm) (eT : T.heap = h) (A : ArR Z h a K n f) {j : Int32} {y : Addr} (I : Ins Z h y K true) (h0 : ¬ j < 0) (hj : j.toNatClampNeg < n) {g : JFrame} (hg : g.method = m) {rest : List Value} (hs : g.stack = .ref y :: .int j :: .ref a :: rest) (hd : decode c.code g.pc = .ok (.aastore, 1)) :
    ∃ T' h', Stand p l e R s m args below meth c T' (locs ++ [⟨a, j.toNatClampNeg⟩]) cells slots ∧ T'.heap = h' ∧ Wr h h' a j.toNatClampNeg (.ref y) ∧ ∀ target, Steps p.tables e below (T'.setTop { g with pc := g.pc + 1, stack := rest }) target → Steps p.tables e below (T.setTop g) target := by
  obtain ⟨cl, A, O, q, F⟩ := A
  exact stR X hx hZ eT A (out_of q h0 hj) rfl (Sto.of A O I) hg hs hd
end Arrays
theorem nar_ite (P : Prop) [Decidable P] : nar .boolean (if P then (1 : Int32) else 0) = if P then 1 else 0 := by by_cases q : P <;> simp [q] <;> rfl
theorem b_idem (x : Int32) : x.toInt8.toInt32.toInt8.toInt32 = x.toInt8.toInt32 := by rw [Int8.toInt8_toInt32]
theorem isI_c (x : Int32) : ∀ n : Nat, ∃ y, (fun _ => Value.int x) n = Value.int y := fun _ => ⟨x, rfl⟩
theorem isI_s {f : Nat → Value} (q : ∀ n, ∃ y, f n = Value.int y) (k : Nat) (x : Int32) : ∀ n, ∃ y, (fun i => if i = k then Value.int x else f i) n = Value.int y := fun n => by
  by_cases e : n = k
  · exact ⟨x, if_pos e⟩
  · obtain ⟨y, hy⟩ := q n
    exact ⟨y, (if_neg e).trans hy⟩
end Own
theorem d2_0 : decode jdk_30_method_1_code 0 = .ok (.aload_n 0, 1) := by decide +kernel
theorem d2_1 : decode jdk_30_method_1_code 1 = .ok (.invokespecial 1, 3) := by decide +kernel
theorem d2_4 : decode jdk_30_method_1_code 4 = .ok (.return_, 1) := by decide +kernel
def Q_rm2 (Z : State) (a1 : Addr) (h0 : Heap) (n0 : Nat) (v : Option Value) (h : Heap) (L : List Loc) : Prop := v = none ∧ Fr n0 L ∧ h = h0
theorem ef_rm2 (m : MethodId) (x0 : Addr) : entryFrame m #[(.ref x0)] 1 = mkF m 0 #[.val (.ref x0)] [] := by first | (simp [entryFrame, mkF, argsToLocals, Value.category]; done) | rfl
theorem pn_0 : plainName "java/lang/Record" = true := by first | (simp [plainName, overriddenIn]; done) | decide +kernel
set_option maxRecDepth 65536 in
set_option maxHeartbeats 40000000 in
theorem rm2 (l : Launch) (Z : State) (a0 : Array Value) (hw : ∀ d ∈ tables_1, d.before a0 Z = true) (ws : List Jvm.Cond) (a1 : Addr) (h0 : Heap) (n0 : Nat) (Z0 : n0 ≤ h0.size)  :
    MetFree l (⟨"java/lang/Record", "<init>", "()V"⟩ : MethodName) (head1 (Jvm.Cond.code (⟨"java/lang/Record", "<init>", "()V"⟩ : MethodName) jdk_30_method_1_code 1 none :: ws) ({ frames := 1, cells := 0, slots := 0, locals := 12 } : Room)) (fun a U => a = #[(.ref a1)] ∧ Z.Warmed39 U.vm ∧ U.heap = h0) (fun _ _ _ _ _ => True) (fun _ U o U' => ∃ v L, o = .returned v ∧ Q_rm2 Z a1 h0 n0 v U'.heap L ∧ FrameEnd U o U' L ({ frames := 1, cells := 0, slots := 0, locals := 12 } : Room).cells ({ frames := 1, cells := 0, slots := 0, locals := 12 } : Room).slots) := by
  refine MetFree.of_bodySF (plainFor_of_name pn_0) hisR ?_
  intro p e s m args below meth c s₁ Bd hml0 hP hK
  obtain ⟨rfl, hZ, hh⟩ := hP
  have hx := Bd.exec
  have hby := Bd.bytes
  have hml : c.maxLocals = 1 := hml0
  have hown : s.vm.findClass "java/lang/Record" = some m.cls := findClass_of_methodNamed Bd.named
  have hnm := (name_of_methodNamed Bd.named Bd.method).1
  have X0 : Stand p l e ({ frames := 1, cells := 0, slots := 0, locals := 12 } : Room) s m #[(.ref a1)] below meth c s₁ [] 0 0 := Stand.of_body Bd
  have e0 : s₁.heap = h0 := by rw [← hh, Bd.state]; rfl
  have N0 := Fr.nil n0
  show Run p e below s 0 0 (Q_rm2 Z a1 h0 n0) (s₁.setTop (entryFrame m #[(.ref a1)] 1))
  refine Run.go (fun _ k => castTop (ef_rm2 m a1) k) ?_
  show Run p e below s 0 0 (Q_rm2 Z a1 h0 n0) (s₁.setTop (mkF m 0 #[.val (.ref a1)] []))
  refine Run.go (fun _ k => XS.aloadN X0.here hx rfl (hb hby d2_0) rfl rfl k) ?_
  show Run p e below s 0 0 (Q_rm2 Z a1 h0 n0) (s₁.setTop (mkF m 1 #[.val (.ref a1)] [(.ref a1)]))
  obtain ⟨T2, X2, e2, st2⟩ := initO X0 hx hZ hown (hw _ (List.mem_of_getElem? (i := 12) rfl)) (hw _ (List.mem_of_getElem? (i := 13) rfl)) (hw _ (List.mem_of_getElem? (i := 14) rfl)) e0 (g := (mkF m 1 #[.val (.ref a1)] [(.ref a1)])) rfl (by rw [hml]; rfl) rfl (hb hby d2_1) (by decide) (W := 0) (by show 2 * 0 + _ ≤ _; exact Nat.le_of_eq rfl) (by decide)
  refine Run.go st2 ?_
  show Run p e below s 0 0 (Q_rm2 Z a1 h0 n0) (T2.setTop (mkF m 4 #[.val (.ref a1)] []))
  refine Run.ret0 X2 hx Bd.returns Bd.notSynchronized (hb hby d2_4) (by decide) (by decide) ?_
  show Q_rm2 Z a1 h0 n0 _ T2.heap _
  exact ⟨rfl, N0, e2⟩
theorem d1_0 : decode prog_7_method_1_code 0 = .ok (.aload_n 0, 1) := by decide +kernel
theorem d1_1 : decode prog_7_method_1_code 1 = .ok (.invokespecial 1, 3) := by decide +kernel
theorem pd_0 : parseMethodDescriptor "()V" = some ⟨[], none⟩ := by decide +kernel
theorem d1_4 : decode prog_7_method_1_code 4 = .ok (.iload_n 2, 1) := by decide +kernel
theorem d1_5 : decode prog_7_method_1_code 5 = .ok (.ifCond .lt 9, 3) := by decide +kernel
theorem d1_8 : decode prog_7_method_1_code 8 = .ok (.iload_n 2, 1) := by decide +kernel
theorem d1_9 : decode prog_7_method_1_code 9 = .ok (.ldc 7, 2) := by decide +kernel
theorem d1_11 : decode prog_7_method_1_code 11 = .ok (.if_icmp .le 17, 3) := by decide +kernel
theorem d1_28 : decode prog_7_method_1_code 28 = .ok (.aload_n 0, 1) := by decide +kernel
theorem d1_29 : decode prog_7_method_1_code 29 = .ok (.iload_n 1, 1) := by decide +kernel
theorem d1_30 : decode prog_7_method_1_code 30 = .ok (.putfield 17, 3) := by decide +kernel
theorem d1_33 : decode prog_7_method_1_code 33 = .ok (.aload_n 0, 1) := by decide +kernel
theorem d1_34 : decode prog_7_method_1_code 34 = .ok (.iload_n 2, 1) := by decide +kernel
theorem d1_35 : decode prog_7_method_1_code 35 = .ok (.putfield 23, 3) := by decide +kernel
theorem d1_38 : decode prog_7_method_1_code 38 = .ok (.return_, 1) := by decide +kernel
def Q_rm1 (Z : State) (a1 : Addr) (p2 : Int32) (p3 : Int32) (u_address_a1 : Value) (u_port_a1 : Value) (h0 : Heap) (n0 : Nat) (v : Option Value) (h : Heap) (L : List Loc) : Prop := v = none ∧ Fr n0 L ∧ Keep h0 h [a1] ∧ Exa Z h a1 "murmuration/Contact" ∧ Fld Z h a1 "murmuration/Contact" "address" "I" (.int p2) ∧ Fld Z h a1 "murmuration/Contact" "port" "I" (.int p3)
theorem ef_rm1 (m : MethodId) (x0 : Addr) (x1 : Int32) (x2 : Int32) : entryFrame m #[(.ref x0), (.int x1), (.int x2)] 3 = mkF m 0 #[.val (.ref x0), .val (.int x1), .val (.int x2)] [] := by first | (simp [entryFrame, mkF, argsToLocals, Value.category]; done) | rfl
theorem pn_1 : plainName "murmuration/Contact" = true := by first | (simp [plainName, overriddenIn]; done) | decide +kernel
set_option maxRecDepth 65536 in
set_option maxHeartbeats 40000000 in
theorem rm1 (l : Launch) (Z : State) (a0 : Array Value) (hw : ∀ d ∈ tables_1, d.before a0 Z = true) (ws : List Jvm.Cond) (a1 : Addr) (p2 : Int32) (p3 : Int32) (u_address_a1 : Value) (u_port_a1 : Value) (h0 : Heap) (n0 : Nat) (Z0 : n0 ≤ h0.size) (hc5 : ¬ (p3 < (0 : Int32))) (hc11 : ¬ ((65535 : Int32) < p3)) (E_a1 : Exa Z h0 a1 "murmuration/Contact") (F_address_a1 : Fld Z h0 a1 "murmuration/Contact" "address" "I" u_address_a1) (g_a1 : n0 ≤ a1) (F_port_a1 : Fld Z h0 a1 "murmuration/Contact" "port" "I" u_port_a1) :
    MetFree l (⟨"murmuration/Contact", "<init>", "(II)V"⟩ : MethodName) (head1 (Jvm.Cond.code (⟨"murmuration/Contact", "<init>", "(II)V"⟩ : MethodName) prog_7_method_1_code 3 none :: ws) ({ frames := 2, cells := 0, slots := 0, locals := 24 } : Room)) (fun a U => a = #[(.ref a1), (.int p2), (.int p3)] ∧ Z.Warmed39 U.vm ∧ U.heap = h0) (fun _ _ _ _ _ => True) (fun _ U o U' => ∃ v L, o = .returned v ∧ Q_rm1 Z a1 p2 p3 u_address_a1 u_port_a1 h0 n0 v U'.heap L ∧ FrameEnd U o U' L ({ frames := 2, cells := 0, slots := 0, locals := 24 } : Room).cells ({ frames := 2, cells := 0, slots := 0, locals := 24 } : Room).slots) := by
  refine MetFree.of_bodySF (plainFor_of_name pn_1) hisR ?_
  intro p e s m args below meth c s₁ Bd hml0 hP hK
  obtain ⟨rfl, hZ, hh⟩ := hP
  have hx := Bd.exec
  have hby := Bd.bytes
  have hml : c.maxLocals = 3 := hml0
  have hown : s.vm.findClass "murmuration/Contact" = some m.cls := findClass_of_methodNamed Bd.named
  have hnm := (name_of_methodNamed Bd.named Bd.method).1
  have X0 : Stand p l e ({ frames := 2, cells := 0, slots := 0, locals := 24 } : Room) s m #[(.ref a1), (.int p2), (.int p3)] below meth c s₁ [] 0 0 := Stand.of_body Bd
  have e0 : s₁.heap = h0 := by rw [← hh, Bd.state]; rfl
  have N0 := Fr.nil n0
  show Run p e below s 0 0 (Q_rm1 Z a1 p2 p3 u_address_a1 u_port_a1 h0 n0) (s₁.setTop (entryFrame m #[(.ref a1), (.int p2), (.int p3)] 3))
  refine Run.go (fun _ k => castTop (ef_rm1 m a1 p2 p3) k) ?_
  show Run p e below s 0 0 (Q_rm1 Z a1 p2 p3 u_address_a1 u_port_a1 h0 n0) (s₁.setTop (mkF m 0 #[.val (.ref a1), .val (.int p2), .val (.int p3)] []))
  refine Run.go (fun _ k => XS.aloadN X0.here hx rfl (hb hby d1_0) rfl rfl k) ?_
  show Run p e below s 0 0 (Q_rm1 Z a1 p2 p3 u_address_a1 u_port_a1 h0 n0) (s₁.setTop (mkF m 1 #[.val (.ref a1), .val (.int p2), .val (.int p3)] [(.ref a1)]))
  obtain ⟨_, _, ⟨T4, L4, k4, n4⟩, -, X4, ⟨Lc4, hQ4, l4, y4, z4⟩, st4⟩ := X0.specialBack hx (y := (⟨"java/lang/Record", "<init>", "()V"⟩ : MethodName)) rfl hown (mvT hZ (hw _ (List.mem_of_getElem? (i := 7) rfl))) (mvT hZ (hw _ (List.mem_of_getElem? (i := 8) rfl))) (mvT hZ (hw _ (List.mem_of_getElem? (i := 11) rfl))) (by decide) (backOf (W := 0) (rm2 l Z a0 hw [] a1 h0 n0 Z0 ) hZ (hw _ (List.mem_of_getElem? (i := 11) rfl)) (hw _ (List.mem_of_getElem? (i := 10) rfl)) (by decide) (by decide)) (g := (mkF m 1 #[.val (.ref a1), .val (.int p2), .val (.int p3)] [(.ref a1)])) rfl (by rw [hml]; rfl) (Steps.refl _) (a := a1) (argsL := []) (rest := []) (lenOf pd_0 rfl) rfl (by show 2 * 0 + _ ≤ _; exact Nat.le_of_eq rfl) (hb hby d1_1) (fun _ _ => ⟨rfl, e0, (by decide : 0 + 0 ≤ _), (by decide : 0 + 0 ≤ _)⟩)
  dsimp only [Pt.U, Pt.locs, Pt.cells, Pt.slots] at X4 l4 y4 z4 st4 hQ4
  subst l4 y4 z4
  obtain ⟨rfl, N4q, e4q⟩ := hQ4
  have N4 := Fr.app N0 N4q
  refine Run.tr st4 ?_
  show Run p e below s 0 0 (Q_rm1 Z a1 p2 p3 u_address_a1 u_port_a1 h0 n0) (T4.setTop (mkF m 4 #[.val (.ref a1), .val (.int p2), .val (.int p3)] []))
  refine Run.go (fun _ k => XS.iloadN X4.here hx rfl (hb hby d1_4) rfl  k) ?_
  show Run p e below s 0 0 (Q_rm1 Z a1 p2 p3 u_address_a1 u_port_a1 h0 n0) (T4.setTop (mkF m 5 #[.val (.ref a1), .val (.int p2), .val (.int p3)] [(.int p3)]))
  refine Run.go (fun _ k => XS.ifNo X4.here hx rfl (hb hby d1_5) rfl ((if0 _ _).trans (flt hc5).1) k) ?_
  show Run p e below s 0 0 (Q_rm1 Z a1 p2 p3 u_address_a1 u_port_a1 h0 n0) (T4.setTop (mkF m 8 #[.val (.ref a1), .val (.int p2), .val (.int p3)] []))
  refine Run.go (fun _ k => XS.iloadN X4.here hx rfl (hb hby d1_8) rfl  k) ?_
  show Run p e below s 0 0 (Q_rm1 Z a1 p2 p3 u_address_a1 u_port_a1 h0 n0) (T4.setTop (mkF m 9 #[.val (.ref a1), .val (.int p2), .val (.int p3)] [(.int p3)]))
  refine Run.go (fun _ k => X4.ldcInt hx hown (mvT hZ (hw _ (List.mem_of_getElem? (i := 15) rfl))) (g := (mkF m 9 #[.val (.ref a1), .val (.int p2), .val (.int p3)] [(.int p3)])) rfl (hb hby d1_9) _ k) ?_
  show Run p e below s 0 0 (Q_rm1 Z a1 p2 p3 u_address_a1 u_port_a1 h0 n0) (T4.setTop (mkF m 11 #[.val (.ref a1), .val (.int p2), .val (.int p3)] [(.int (65535 : Int32)), (.int p3)]))
  refine Run.go (fun _ k => XS.icmpYes X4.here hx rfl (pc0 := 11) (pc' := 28) rfl (hb hby d1_11) rfl (flt hc11).2.2.2 (by decide) (by decide) k) ?_
  show Run p e below s 0 0 (Q_rm1 Z a1 p2 p3 u_address_a1 u_port_a1 h0 n0) (T4.setTop (mkF m 28 #[.val (.ref a1), .val (.int p2), .val (.int p3)] []))
  refine Run.go (fun _ k => XS.aloadN X4.here hx rfl (hb hby d1_28) rfl rfl k) ?_
  show Run p e below s 0 0 (Q_rm1 Z a1 p2 p3 u_address_a1 u_port_a1 h0 n0) (T4.setTop (mkF m 29 #[.val (.ref a1), .val (.int p2), .val (.int p3)] [(.ref a1)]))
  refine Run.go (fun _ k => XS.iloadN X4.here hx rfl (hb hby d1_29) rfl  k) ?_
  show Run p e below s 0 0 (Q_rm1 Z a1 p2 p3 u_address_a1 u_port_a1 h0 n0) (T4.setTop (mkF m 30 #[.val (.ref a1), .val (.int p2), .val (.int p3)] [(.int p2), (.ref a1)]))
  obtain ⟨T5, h5, X5, e5, W5, st5⟩ := putF X4 hx hZ hown (host := "") (Or.inl (hw _ (List.mem_of_getElem? (i := 16) rfl))) Via.refl e4q F_address_a1 E_a1 (Or.inr ⟨(hw _ (List.mem_of_getElem? (i := 17) rfl)), rfl, hnm⟩) (hw _ (List.mem_of_getElem? (i := 2) rfl)) (ty := .int) (by decide) rfl rfl (g := (mkF m 30 #[.val (.ref a1), .val (.int p2), .val (.int p3)] [(.int p2), (.ref a1)])) rfl rfl (hb hby d1_30)
  have N5 := Fr.snoc X5 N4 g_a1
  have Z5 : n0 ≤ h5.size := Nat.le_trans Z0 (Keep.of_wr W5).1
  have K5 : Keep h0 h5 [a1] := (Keep.refl h0 [a1]).wr W5 (Or.inl (List.mem_of_getElem? (i := 0) rfl))
  have fx6 := F_address_a1.same W5
  refine Run.go st5 ?_
  show Run p e below s 0 0 (Q_rm1 Z a1 p2 p3 u_address_a1 u_port_a1 h0 n0) (T5.setTop (mkF m 33 #[.val (.ref a1), .val (.int p2), .val (.int p3)] []))
  refine Run.go (fun _ k => XS.aloadN X5.here hx rfl (hb hby d1_33) rfl rfl k) ?_
  show Run p e below s 0 0 (Q_rm1 Z a1 p2 p3 u_address_a1 u_port_a1 h0 n0) (T5.setTop (mkF m 34 #[.val (.ref a1), .val (.int p2), .val (.int p3)] [(.ref a1)]))
  refine Run.go (fun _ k => XS.iloadN X5.here hx rfl (hb hby d1_34) rfl  k) ?_
  show Run p e below s 0 0 (Q_rm1 Z a1 p2 p3 u_address_a1 u_port_a1 h0 n0) (T5.setTop (mkF m 35 #[.val (.ref a1), .val (.int p2), .val (.int p3)] [(.int p3), (.ref a1)]))
  have fx7 := (E_a1.wr W5)
  have fx8 := (F_port_a1.other W5 (Or.inr (slot_ne (Or.inr (hw _ (List.mem_of_getElem? (i := 19) rfl))) (Or.inr (hw _ (List.mem_of_getElem? (i := 17) rfl))) (by decide) (t := .int) (t' := .int) (by decide) (by decide))))
  obtain ⟨T9, h9, X9, e9, W9, st9⟩ := putF X5 hx hZ hown (host := "") (Or.inl (hw _ (List.mem_of_getElem? (i := 18) rfl))) Via.refl e5 fx8 fx7 (Or.inr ⟨(hw _ (List.mem_of_getElem? (i := 19) rfl)), rfl, hnm⟩) (hw _ (List.mem_of_getElem? (i := 2) rfl)) (ty := .int) (by decide) rfl rfl (g := (mkF m 35 #[.val (.ref a1), .val (.int p2), .val (.int p3)] [(.int p3), (.ref a1)])) rfl rfl (hb hby d1_35)
  have N9 := Fr.snoc X9 N5 g_a1
  have Z9 : n0 ≤ h9.size := Nat.le_trans Z5 (Keep.of_wr W9).1
  have K9 : Keep h0 h9 [a1] := K5.wr W9 (Or.inl (List.mem_of_getElem? (i := 0) rfl))
  have fx10 := fx8.same W9
  refine Run.go st9 ?_
  show Run p e below s 0 0 (Q_rm1 Z a1 p2 p3 u_address_a1 u_port_a1 h0 n0) (T9.setTop (mkF m 38 #[.val (.ref a1), .val (.int p2), .val (.int p3)] []))
  refine Run.ret0 X9 hx Bd.returns Bd.notSynchronized (hb hby d1_38) (by decide) (by decide) ?_
  show Q_rm1 Z a1 p2 p3 u_address_a1 u_port_a1 h0 n0 _ T9.heap _
  have fx11 := (fx7.wr W9)
  have fx12 := (fx6.other W9 (Or.inr (slot_ne (Or.inr (hw _ (List.mem_of_getElem? (i := 17) rfl))) (Or.inr (hw _ (List.mem_of_getElem? (i := 19) rfl))) (by decide) (t := .int) (t' := .int) (by decide) (by decide))))
  rw [e9]
  exact ⟨rfl, N9, K9, fx11, fx12, fx10⟩
theorem d4_0 : decode prog_7_method_10_code 0 = .ok (.bipush 31, 2) := by decide +kernel
theorem d4_2 : decode prog_7_method_10_code 2 = .ok (.aload_n 0, 1) := by decide +kernel
theorem d4_3 : decode prog_7_method_10_code 3 = .ok (.getfield 17, 3) := by decide +kernel
theorem d4_6 : decode prog_7_method_10_code 6 = .ok (.imul, 1) := by decide +kernel
theorem d4_7 : decode prog_7_method_10_code 7 = .ok (.aload_n 0, 1) := by decide +kernel
theorem d4_8 : decode prog_7_method_10_code 8 = .ok (.getfield 23, 3) := by decide +kernel
theorem d4_11 : decode prog_7_method_10_code 11 = .ok (.iadd, 1) := by decide +kernel
theorem d4_12 : decode prog_7_method_10_code 12 = .ok (.ireturn, 1) := by decide +kernel
def Q_rm4 (Z : State) (a1 : Addr) (w2 : Int32) (w4 : Int32) (h0 : Heap) (n0 : Nat) (v : Option Value) (h : Heap) (L : List Loc) : Prop := v = some (.int (((31 : Int32) * w2) + w4)) ∧ Fr n0 L ∧ h = h0
theorem ef_rm4 (m : MethodId) (x0 : Addr) : entryFrame m #[(.ref x0)] 1 = mkF m 0 #[.val (.ref x0)] [] := by first | (simp [entryFrame, mkF, argsToLocals, Value.category]; done) | rfl
set_option maxRecDepth 65536 in
set_option maxHeartbeats 40000000 in
theorem rm4 (l : Launch) (Z : State) (a0 : Array Value) (hw : ∀ d ∈ tables_1, d.before a0 Z = true) (ws : List Jvm.Cond) (a1 : Addr) (w2 : Int32) (w4 : Int32) (h0 : Heap) (n0 : Nat) (Z0 : n0 ≤ h0.size) (F_address_a1 : Fld Z h0 a1 "murmuration/Contact" "address" "I" (.int w2)) (F_port_a1 : Fld Z h0 a1 "murmuration/Contact" "port" "I" (.int w4)) :
    MetFree l (⟨"murmuration/Contact", "hashCode", "()I"⟩ : MethodName) (head1 (Jvm.Cond.code (⟨"murmuration/Contact", "hashCode", "()I"⟩ : MethodName) prog_7_method_10_code 1 (some .int) :: ws) ({ frames := 0, cells := 0, slots := 0, locals := 0 } : Room)) (fun a U => a = #[(.ref a1)] ∧ Z.Warmed39 U.vm ∧ U.heap = h0) (fun _ _ _ _ _ => True) (fun _ U o U' => ∃ v L, o = .returned v ∧ Q_rm4 Z a1 w2 w4 h0 n0 v U'.heap L ∧ FrameEnd U o U' L ({ frames := 0, cells := 0, slots := 0, locals := 0 } : Room).cells ({ frames := 0, cells := 0, slots := 0, locals := 0 } : Room).slots) := by
  refine MetFree.of_bodySF (plainFor_of_name pn_1) hisR ?_
  intro p e s m args below meth c s₁ Bd hml0 hP hK
  obtain ⟨rfl, hZ, hh⟩ := hP
  have hx := Bd.exec
  have hby := Bd.bytes
  have hml : c.maxLocals = 1 := hml0
  have hown : s.vm.findClass "murmuration/Contact" = some m.cls := findClass_of_methodNamed Bd.named
  have hnm := (name_of_methodNamed Bd.named Bd.method).1
  have X0 : Stand p l e ({ frames := 0, cells := 0, slots := 0, locals := 0 } : Room) s m #[(.ref a1)] below meth c s₁ [] 0 0 := Stand.of_body Bd
  have e0 : s₁.heap = h0 := by rw [← hh, Bd.state]; rfl
  have N0 := Fr.nil n0
  show Run p e below s 0 0 (Q_rm4 Z a1 w2 w4 h0 n0) (s₁.setTop (entryFrame m #[(.ref a1)] 1))
  refine Run.go (fun _ k => castTop (ef_rm4 m a1) k) ?_
  show Run p e below s 0 0 (Q_rm4 Z a1 w2 w4 h0 n0) (s₁.setTop (mkF m 0 #[.val (.ref a1)] []))
  refine Run.go (fun _ k => XS.bipush X0.here hx rfl (hb hby d4_0) k) ?_
  show Run p e below s 0 0 (Q_rm4 Z a1 w2 w4 h0 n0) (s₁.setTop (mkF m 2 #[.val (.ref a1)] [(.int (31 : Int32))]))
  refine Run.go (fun _ k => XS.aloadN X0.here hx rfl (hb hby d4_2) rfl rfl k) ?_
  show Run p e below s 0 0 (Q_rm4 Z a1 w2 w4 h0 n0) (s₁.setTop (mkF m 3 #[.val (.ref a1)] [(.ref a1), (.int (31 : Int32))]))
  obtain ⟨T3, X3, e3, st3⟩ := getF X0 hx hZ hown (host := "") (Or.inl (hw _ (List.mem_of_getElem? (i := 16) rfl))) Via.refl e0 F_address_a1 (g := (mkF m 3 #[.val (.ref a1)] [(.ref a1), (.int (31 : Int32))])) rfl rfl (hb hby d4_3)
  refine Run.go st3 ?_
  show Run p e below s 0 0 (Q_rm4 Z a1 w2 w4 h0 n0) (T3.setTop (mkF m 6 #[.val (.ref a1)] [(.int w2), (.int (31 : Int32))]))
  refine Run.go (fun _ k => XS.imul X3.here hx rfl (hb hby d4_6) rfl k) ?_
  show Run p e below s 0 0 (Q_rm4 Z a1 w2 w4 h0 n0) (T3.setTop (mkF m 7 #[.val (.ref a1)] [(.int ((31 : Int32) * w2))]))
  refine Run.go (fun _ k => XS.aloadN X3.here hx rfl (hb hby d4_7) rfl rfl k) ?_
  show Run p e below s 0 0 (Q_rm4 Z a1 w2 w4 h0 n0) (T3.setTop (mkF m 8 #[.val (.ref a1)] [(.ref a1), (.int ((31 : Int32) * w2))]))
  obtain ⟨T5, X5, e5, st5⟩ := getF X3 hx hZ hown (host := "") (Or.inl (hw _ (List.mem_of_getElem? (i := 18) rfl))) Via.refl e3 F_port_a1 (g := (mkF m 8 #[.val (.ref a1)] [(.ref a1), (.int ((31 : Int32) * w2))])) rfl rfl (hb hby d4_8)
  refine Run.go st5 ?_
  show Run p e below s 0 0 (Q_rm4 Z a1 w2 w4 h0 n0) (T5.setTop (mkF m 11 #[.val (.ref a1)] [(.int w4), (.int ((31 : Int32) * w2))]))
  refine Run.go (fun _ k => XS.iadd X5.here hx rfl (hb hby d4_11) rfl k) ?_
  show Run p e below s 0 0 (Q_rm4 Z a1 w2 w4 h0 n0) (T5.setTop (mkF m 12 #[.val (.ref a1)] [(.int (((31 : Int32) * w2) + w4))]))
  refine Run.retI X5 hx Bd.returns Bd.notSynchronized (hb hby d4_12) (by decide) (by decide) ?_
  show Q_rm4 Z a1 w2 w4 h0 n0 _ T5.heap _
  exact ⟨rfl, N0, e5⟩
theorem own_eq32 (x y : Int32) (h : (x.toInt - y.toInt) % 4294967296 = 0) : x = y := by
  apply Int32.toInt_inj.mp
  have := rng32 x
  have := rng32 y
  omega
theorem own_m (x : Int32) : ¬ ((x &&& (65535 : Int32)) < (0 : Int32)) ∧ ¬ ((65535 : Int32) < (x &&& (65535 : Int32))) := by
  have h := c_and x 65535 (by decide)
  have e : (65535 : Int32).toInt = 65535 := rfl
  have e0 : (0 : Int32).toInt = 0 := rfl
  rw [Int32.lt_iff_toInt_lt, Int32.lt_iff_toInt_lt]
  omega
theorem own_lin (a p b q : Int32) : ((31 : Int32) * a + p) - ((31 : Int32) * b + q) = (31 : Int32) * (a - b) + (p - q) := by
  apply own_eq32
  have e : (31 : Int32).toInt = 31 := rfl
  have h1 := c_imul 31 a
  have h2 := c_imul 31 b
  have h3 := c_imul 31 (a - b)
  have h4 := c_isub a b
  have h5 := c_isub p q
  have h6 := c_iadd ((31 : Int32) * a) p
  have h7 := c_iadd ((31 : Int32) * b) q
  have h8 := c_isub ((31 : Int32) * a + p) ((31 : Int32) * b + q)
  have h9 := c_iadd ((31 : Int32) * (a - b)) (p - q)
  rw [e] at h1 h2 h3
  omega
theorem pd_1 : parseMethodDescriptor "(II)V" = some ⟨[.int, .int], none⟩ := by decide +kernel
theorem pd_2 : parseMethodDescriptor "()I" = some ⟨[], some .int⟩ := by decide +kernel
def Q_rm0 (Z : State) (p1 : Int32) (p2 : Int32) (p3 : Int32) (p4 : Int32) (h0 : Heap) (n0 : Nat) (v : Option Value) (h : Heap) (L : List Loc) : Prop := v = some (.int 1) ∧ Fr n0 L
theorem ef_rm0 (m : MethodId) (x0 : Int32) (x1 : Int32) (x2 : Int32) (x3 : Int32) : entryFrame m #[(.int x0), (.int x1), (.int x2), (.int x3)] maxLocals = mkF m 0 #[.val (.int x0), .val (.int x1), .val (.int x2), .val (.int x3), .unset, .unset, .unset, .unset, .unset, .unset, .unset, .unset, .unset, .unset] [] := by first | (simp [entryFrame, mkF, argsToLocals, Value.category, maxLocals]; done) | rfl
theorem pn_2 : plainName "murmuration/ContactHashCodePinLaw" = true := by first | (simp [plainName, overriddenIn]; done) | decide +kernel
set_option maxRecDepth 65536 in
set_option maxHeartbeats 40000000 in
theorem rm0 (l : Launch) (Z : State) (a0 : Array Value) (hw : ∀ d ∈ tables_1, d.before a0 Z = true) (ws : List Jvm.Cond) (p1 : Int32) (p2 : Int32) (p3 : Int32) (p4 : Int32) (h0 : Heap) (n0 : Nat) (Z0 : n0 ≤ h0.size)  :
    MetFree l x (head1 (Jvm.Cond.code x code maxLocals ret :: ws) room_1) (fun a U => a = #[(.int p1), (.int p2), (.int p3), (.int p4)] ∧ Z.Warmed39 U.vm ∧ U.heap = h0) (fun _ _ _ _ _ => True) (fun _ U o U' => ∃ v L, o = .returned v ∧ Q_rm0 Z p1 p2 p3 p4 h0 n0 v U'.heap L ∧ FrameEnd U o U' L 3 6) := by
  refine MetFree.of_bodySF (plainFor_of_name pn_2) hisR ?_
  intro p e s m args below meth c s₁ Bd hml0 hP hK
  obtain ⟨rfl, hZ, hh⟩ := hP
  have hx := Bd.exec
  have hby := Bd.bytes
  have hml : c.maxLocals = 14 := hml0
  have hown : s.vm.findClass "murmuration/ContactHashCodePinLaw" = some m.cls := findClass_of_methodNamed Bd.named
  have hnm := (name_of_methodNamed Bd.named Bd.method).1
  have X0 : Stand p l e room_1 s m #[(.int p1), (.int p2), (.int p3), (.int p4)] below meth c s₁ [] 0 0 := Stand.of_body Bd
  have e0 : s₁.heap = h0 := by rw [← hh, Bd.state]; rfl
  have N0 := Fr.nil n0
  show Run p e below s 3 6 (Q_rm0 Z p1 p2 p3 p4 h0 n0) (s₁.setTop (entryFrame m #[(.int p1), (.int p2), (.int p3), (.int p4)] maxLocals))
  refine Run.go (fun _ k => castTop (ef_rm0 m p1 p2 p3 p4) k) ?_
  show Run p e below s 3 6 (Q_rm0 Z p1 p2 p3 p4 h0 n0) (s₁.setTop (mkF m 0 #[.val (.int p1), .val (.int p2), .val (.int p3), .val (.int p4), .unset, .unset, .unset, .unset, .unset, .unset, .unset, .unset, .unset, .unset] []))
  refine Run.go (fun _ k => XS.iloadN X0.here hx rfl (hb hby at_0) rfl  k) ?_
  show Run p e below s 3 6 (Q_rm0 Z p1 p2 p3 p4 h0 n0) (s₁.setTop (mkF m 1 #[.val (.int p1), .val (.int p2), .val (.int p3), .val (.int p4), .unset, .unset, .unset, .unset, .unset, .unset, .unset, .unset, .unset, .unset] [(.int p2)]))
  refine Run.go (fun _ k => X0.ldcInt hx hown (mvT hZ (hw _ (List.mem_of_getElem? (i := 0) rfl))) (g := (mkF m 1 #[.val (.int p1), .val (.int p2), .val (.int p3), .val (.int p4), .unset, .unset, .unset, .unset, .unset, .unset, .unset, .unset, .unset, .unset] [(.int p2)])) rfl (hb hby at_1) _ k) ?_
  show Run p e below s 3 6 (Q_rm0 Z p1 p2 p3 p4 h0 n0) (s₁.setTop (mkF m 3 #[.val (.int p1), .val (.int p2), .val (.int p3), .val (.int p4), .unset, .unset, .unset, .unset, .unset, .unset, .unset, .unset, .unset, .unset] [(.int (65535 : Int32)), (.int p2)]))
  refine Run.go (fun _ k => XS.iand X0.here hx rfl (hb hby at_3) rfl k) ?_
  show Run p e below s 3 6 (Q_rm0 Z p1 p2 p3 p4 h0 n0) (s₁.setTop (mkF m 4 #[.val (.int p1), .val (.int p2), .val (.int p3), .val (.int p4), .unset, .unset, .unset, .unset, .unset, .unset, .unset, .unset, .unset, .unset] [(.int (p2 &&& (65535 : Int32)))]))
  refine Run.go (fun _ k => XS.istore X0.here hx rfl (hb hby at_4) rfl (l' := #[.val (.int p1), .val (.int p2), .val (.int p3), .val (.int p4), .val (.int (p2 &&& (65535 : Int32))), .unset, .unset, .unset, .unset, .unset, .unset, .unset, .unset, .unset]) rfl k) ?_
  show Run p e below s 3 6 (Q_rm0 Z p1 p2 p3 p4 h0 n0) (s₁.setTop (mkF m 6 #[.val (.int p1), .val (.int p2), .val (.int p3), .val (.int p4), .val (.int (p2 &&& (65535 : Int32))), .unset, .unset, .unset, .unset, .unset, .unset, .unset, .unset, .unset] []))
  refine Run.go (fun _ k => XS.iloadN X0.here hx rfl (hb hby at_6) rfl  k) ?_
  show Run p e below s 3 6 (Q_rm0 Z p1 p2 p3 p4 h0 n0) (s₁.setTop (mkF m 7 #[.val (.int p1), .val (.int p2), .val (.int p3), .val (.int p4), .val (.int (p2 &&& (65535 : Int32))), .unset, .unset, .unset, .unset, .unset, .unset, .unset, .unset, .unset] [(.int p4)]))
  refine Run.go (fun _ k => X0.ldcInt hx hown (mvT hZ (hw _ (List.mem_of_getElem? (i := 0) rfl))) (g := (mkF m 7 #[.val (.int p1), .val (.int p2), .val (.int p3), .val (.int p4), .val (.int (p2 &&& (65535 : Int32))), .unset, .unset, .unset, .unset, .unset, .unset, .unset, .unset, .unset] [(.int p4)])) rfl (hb hby at_7) _ k) ?_
  show Run p e below s 3 6 (Q_rm0 Z p1 p2 p3 p4 h0 n0) (s₁.setTop (mkF m 9 #[.val (.int p1), .val (.int p2), .val (.int p3), .val (.int p4), .val (.int (p2 &&& (65535 : Int32))), .unset, .unset, .unset, .unset, .unset, .unset, .unset, .unset, .unset] [(.int (65535 : Int32)), (.int p4)]))
  refine Run.go (fun _ k => XS.iand X0.here hx rfl (hb hby at_9) rfl k) ?_
  show Run p e below s 3 6 (Q_rm0 Z p1 p2 p3 p4 h0 n0) (s₁.setTop (mkF m 10 #[.val (.int p1), .val (.int p2), .val (.int p3), .val (.int p4), .val (.int (p2 &&& (65535 : Int32))), .unset, .unset, .unset, .unset, .unset, .unset, .unset, .unset, .unset] [(.int (p4 &&& (65535 : Int32)))]))
  refine Run.go (fun _ k => XS.istore X0.here hx rfl (hb hby at_10) rfl (l' := #[.val (.int p1), .val (.int p2), .val (.int p3), .val (.int p4), .val (.int (p2 &&& (65535 : Int32))), .val (.int (p4 &&& (65535 : Int32))), .unset, .unset, .unset, .unset, .unset, .unset, .unset, .unset]) rfl k) ?_
  show Run p e below s 3 6 (Q_rm0 Z p1 p2 p3 p4 h0 n0) (s₁.setTop (mkF m 12 #[.val (.int p1), .val (.int p2), .val (.int p3), .val (.int p4), .val (.int (p2 &&& (65535 : Int32))), .val (.int (p4 &&& (65535 : Int32))), .unset, .unset, .unset, .unset, .unset, .unset, .unset, .unset] []))
  obtain ⟨T5, h5, X5, e5, E5, A5, D5, -, st5⟩ := newO X0 hx hZ hown (hw _ (List.mem_of_getElem? (i := 1) rfl)) (hw _ (List.mem_of_getElem? (i := 2) rfl)) (hw _ (List.mem_of_getElem? (i := 3) rfl)) e0 (g := (mkF m 12 #[.val (.int p1), .val (.int p2), .val (.int p3), .val (.int p4), .val (.int (p2 &&& (65535 : Int32))), .val (.int (p4 &&& (65535 : Int32))), .unset, .unset, .unset, .unset, .unset, .unset, .unset, .unset] [])) rfl (hb hby at_12) (by decide) (by decide)
  obtain ⟨b5, g5⟩ : ∃ z, z = h0.size := ⟨_, rfl⟩
  rw [← g5] at A5 D5 st5
  have g_b5 : n0 ≤ b5 := Nat.le_trans Z0 (Nat.le_of_eq g5.symm)
  have Z5 : n0 ≤ h5.size := Nat.le_trans Z0 E5.1
  have fx6 : Fld Z h5 b5 "murmuration/Contact" "address" "I" (.int (0 : Int32)) := D5 (Or.inr (hw _ (List.mem_of_getElem? (i := 17) rfl))) (ty := .int) (by decide)
  have fx7 : Fld Z h5 b5 "murmuration/Contact" "port" "I" (.int (0 : Int32)) := D5 (Or.inr (hw _ (List.mem_of_getElem? (i := 19) rfl))) (ty := .int) (by decide)
  refine Run.go st5 ?_
  show Run p e below s 3 6 (Q_rm0 Z p1 p2 p3 p4 h0 n0) (T5.setTop (mkF m 15 #[.val (.int p1), .val (.int p2), .val (.int p3), .val (.int p4), .val (.int (p2 &&& (65535 : Int32))), .val (.int (p4 &&& (65535 : Int32))), .unset, .unset, .unset, .unset, .unset, .unset, .unset, .unset] [(.ref b5)]))
  refine Run.go (fun _ k => XS.dup X5.here hx rfl (hb hby at_15) rfl rfl k) ?_
  show Run p e below s 3 6 (Q_rm0 Z p1 p2 p3 p4 h0 n0) (T5.setTop (mkF m 16 #[.val (.int p1), .val (.int p2), .val (.int p3), .val (.int p4), .val (.int (p2 &&& (65535 : Int32))), .val (.int (p4 &&& (65535 : Int32))), .unset, .unset, .unset, .unset, .unset, .unset, .unset, .unset] [(.ref b5), (.ref b5)]))
  refine Run.go (fun _ k => XS.iconst X5.here hx rfl (hb hby at_16) k) ?_
  show Run p e below s 3 6 (Q_rm0 Z p1 p2 p3 p4 h0 n0) (T5.setTop (mkF m 17 #[.val (.int p1), .val (.int p2), .val (.int p3), .val (.int p4), .val (.int (p2 &&& (65535 : Int32))), .val (.int (p4 &&& (65535 : Int32))), .unset, .unset, .unset, .unset, .unset, .unset, .unset, .unset] [(.int (0 : Int32)), (.ref b5), (.ref b5)]))
  refine Run.go (fun _ k => XS.iconst X5.here hx rfl (hb hby at_17) k) ?_
  show Run p e below s 3 6 (Q_rm0 Z p1 p2 p3 p4 h0 n0) (T5.setTop (mkF m 18 #[.val (.int p1), .val (.int p2), .val (.int p3), .val (.int p4), .val (.int (p2 &&& (65535 : Int32))), .val (.int (p4 &&& (65535 : Int32))), .unset, .unset, .unset, .unset, .unset, .unset, .unset, .unset] [(.int (0 : Int32)), (.int (0 : Int32)), (.ref b5), (.ref b5)]))
  obtain ⟨_, _, ⟨T8, L8, k8, n8⟩, -, X8, ⟨Lc8, hQ8, l8, y8, z8⟩, st8⟩ := X5.specialBack hx (y := (⟨"murmuration/Contact", "<init>", "(II)V"⟩ : MethodName)) rfl hown (mvT hZ (hw _ (List.mem_of_getElem? (i := 4) rfl))) (mvT hZ (hw _ (List.mem_of_getElem? (i := 5) rfl))) (mvT hZ (hw _ (List.mem_of_getElem? (i := 6) rfl))) (by decide) (backOf (W := 1) (rm1 l Z a0 hw [] b5 (0 : Int32) (0 : Int32) (.int (0 : Int32)) (.int (0 : Int32)) h5 n0 Z5 (by decide) (by decide) A5 fx6 g_b5 fx7) hZ (hw _ (List.mem_of_getElem? (i := 6) rfl)) (hw _ (List.mem_of_getElem? (i := 3) rfl)) (by decide) (by decide)) (g := (mkF m 18 #[.val (.int p1), .val (.int p2), .val (.int p3), .val (.int p4), .val (.int (p2 &&& (65535 : Int32))), .val (.int (p4 &&& (65535 : Int32))), .unset, .unset, .unset, .unset, .unset, .unset, .unset, .unset] [(.int (0 : Int32)), (.int (0 : Int32)), (.ref b5), (.ref b5)])) rfl (by rw [hml]; rfl) (Steps.refl _) (a := b5) (argsL := [(.int (0 : Int32)), (.int (0 : Int32))]) (rest := [(.ref b5)]) (lenOf pd_1 rfl) rfl (by show 2 * 0 + _ ≤ _; exact Nat.le_of_eq rfl) (hb hby at_18) (fun _ _ => ⟨rfl, e5, (by decide : 1 + 0 ≤ _), (by decide : 2 + 0 ≤ _)⟩)
  dsimp only [Pt.U, Pt.locs, Pt.cells, Pt.slots] at X8 l8 y8 z8 st8 hQ8
  subst l8 y8 z8
  obtain ⟨rfl, N8q, K8q, fq8_0, fq8_1, fq8_2⟩ := hQ8
  have N8 := Fr.app N0 N8q
  have Z8 : n0 ≤ T8.heap.size := Nat.le_trans Z5 K8q.1
  refine Run.tr st8 ?_
  show Run p e below s 3 6 (Q_rm0 Z p1 p2 p3 p4 h0 n0) (T8.setTop (mkF m 21 #[.val (.int p1), .val (.int p2), .val (.int p3), .val (.int p4), .val (.int (p2 &&& (65535 : Int32))), .val (.int (p4 &&& (65535 : Int32))), .unset, .unset, .unset, .unset, .unset, .unset, .unset, .unset] [(.ref b5)]))
  refine Run.go (fun _ k => XS.astore X8.here hx rfl (hb hby at_21) rfl rfl (l' := #[.val (.int p1), .val (.int p2), .val (.int p3), .val (.int p4), .val (.int (p2 &&& (65535 : Int32))), .val (.int (p4 &&& (65535 : Int32))), .val (.ref b5), .unset, .unset, .unset, .unset, .unset, .unset, .unset]) rfl k) ?_
  show Run p e below s 3 6 (Q_rm0 Z p1 p2 p3 p4 h0 n0) (T8.setTop (mkF m 23 #[.val (.int p1), .val (.int p2), .val (.int p3), .val (.int p4), .val (.int (p2 &&& (65535 : Int32))), .val (.int (p4 &&& (65535 : Int32))), .val (.ref b5), .unset, .unset, .unset, .unset, .unset, .unset, .unset] []))
  obtain ⟨T9, h9, X9, e9, E9, A9, D9, -, st9⟩ := newO X8 hx hZ hown (hw _ (List.mem_of_getElem? (i := 1) rfl)) (hw _ (List.mem_of_getElem? (i := 2) rfl)) (hw _ (List.mem_of_getElem? (i := 3) rfl)) rfl (g := (mkF m 23 #[.val (.int p1), .val (.int p2), .val (.int p3), .val (.int p4), .val (.int (p2 &&& (65535 : Int32))), .val (.int (p4 &&& (65535 : Int32))), .val (.ref b5), .unset, .unset, .unset, .unset, .unset, .unset, .unset] [])) rfl (hb hby at_23) (by decide) (by decide)
  obtain ⟨b9, g9⟩ : ∃ z, z = T8.heap.size := ⟨_, rfl⟩
  rw [← g9] at A9 D9 st9
  have g_b9 : n0 ≤ b9 := Nat.le_trans Z8 (Nat.le_of_eq g9.symm)
  have Z9 : n0 ≤ h9.size := Nat.le_trans Z8 E9.1
  have ne_b5_b9 : b5 ≠ b9 := Nat.ne_of_lt (Nat.lt_of_lt_of_le fq8_0.lt (Nat.le_of_eq g9.symm))
  have fx10 : Fld Z h9 b9 "murmuration/Contact" "address" "I" (.int (0 : Int32)) := D9 (Or.inr (hw _ (List.mem_of_getElem? (i := 17) rfl))) (ty := .int) (by decide)
  have fx11 : Fld Z h9 b9 "murmuration/Contact" "port" "I" (.int (0 : Int32)) := D9 (Or.inr (hw _ (List.mem_of_getElem? (i := 19) rfl))) (ty := .int) (by decide)
  refine Run.go st9 ?_
  show Run p e below s 3 6 (Q_rm0 Z p1 p2 p3 p4 h0 n0) (T9.setTop (mkF m 26 #[.val (.int p1), .val (.int p2), .val (.int p3), .val (.int p4), .val (.int (p2 &&& (65535 : Int32))), .val (.int (p4 &&& (65535 : Int32))), .val (.ref b5), .unset, .unset, .unset, .unset, .unset, .unset, .unset] [(.ref b9)]))
  refine Run.go (fun _ k => XS.dup X9.here hx rfl (hb hby at_26) rfl rfl k) ?_
  show Run p e below s 3 6 (Q_rm0 Z p1 p2 p3 p4 h0 n0) (T9.setTop (mkF m 27 #[.val (.int p1), .val (.int p2), .val (.int p3), .val (.int p4), .val (.int (p2 &&& (65535 : Int32))), .val (.int (p4 &&& (65535 : Int32))), .val (.ref b5), .unset, .unset, .unset, .unset, .unset, .unset, .unset] [(.ref b9), (.ref b9)]))
  refine Run.go (fun _ k => XS.iloadN X9.here hx rfl (hb hby at_27) rfl  k) ?_
  show Run p e below s 3 6 (Q_rm0 Z p1 p2 p3 p4 h0 n0) (T9.setTop (mkF m 28 #[.val (.int p1), .val (.int p2), .val (.int p3), .val (.int p4), .val (.int (p2 &&& (65535 : Int32))), .val (.int (p4 &&& (65535 : Int32))), .val (.ref b5), .unset, .unset, .unset, .unset, .unset, .unset, .unset] [(.int p1), (.ref b9), (.ref b9)]))
  refine Run.go (fun _ k => XS.iload X9.here hx rfl (hb hby at_28) rfl  k) ?_
  show Run p e below s 3 6 (Q_rm0 Z p1 p2 p3 p4 h0 n0) (T9.setTop (mkF m 30 #[.val (.int p1), .val (.int p2), .val (.int p3), .val (.int p4), .val (.int (p2 &&& (65535 : Int32))), .val (.int (p4 &&& (65535 : Int32))), .val (.ref b5), .unset, .unset, .unset, .unset, .unset, .unset, .unset] [(.int (p2 &&& (65535 : Int32))), (.int p1), (.ref b9), (.ref b9)]))
  obtain ⟨_, _, ⟨T12, L12, k12, n12⟩, -, X12, ⟨Lc12, hQ12, l12, y12, z12⟩, st12⟩ := X9.specialBack hx (y := (⟨"murmuration/Contact", "<init>", "(II)V"⟩ : MethodName)) rfl hown (mvT hZ (hw _ (List.mem_of_getElem? (i := 4) rfl))) (mvT hZ (hw _ (List.mem_of_getElem? (i := 5) rfl))) (mvT hZ (hw _ (List.mem_of_getElem? (i := 6) rfl))) (by decide) (backOf (W := 1) (rm1 l Z a0 hw [] b9 p1 (p2 &&& (65535 : Int32)) (.int (0 : Int32)) (.int (0 : Int32)) h9 n0 Z9 (own_m p2).1 (own_m p2).2 A9 fx10 g_b9 fx11) hZ (hw _ (List.mem_of_getElem? (i := 6) rfl)) (hw _ (List.mem_of_getElem? (i := 3) rfl)) (by decide) (by decide)) (g := (mkF m 30 #[.val (.int p1), .val (.int p2), .val (.int p3), .val (.int p4), .val (.int (p2 &&& (65535 : Int32))), .val (.int (p4 &&& (65535 : Int32))), .val (.ref b5), .unset, .unset, .unset, .unset, .unset, .unset, .unset] [(.int (p2 &&& (65535 : Int32))), (.int p1), (.ref b9), (.ref b9)])) rfl (by rw [hml]; rfl) (Steps.refl _) (a := b9) (argsL := [(.int p1), (.int (p2 &&& (65535 : Int32)))]) (rest := [(.ref b9)]) (lenOf pd_1 rfl) rfl (by show 2 * 0 + _ ≤ _; exact Nat.le_of_eq rfl) (hb hby at_30) (fun _ _ => ⟨rfl, e9, (by decide : 2 + 0 ≤ _), (by decide : 4 + 0 ≤ _)⟩)
  dsimp only [Pt.U, Pt.locs, Pt.cells, Pt.slots] at X12 l12 y12 z12 st12 hQ12
  subst l12 y12 z12
  obtain ⟨rfl, N12q, K12q, fq12_0, fq12_1, fq12_2⟩ := hQ12
  have N12 := Fr.app N8 N12q
  have Z12 : n0 ≤ T12.heap.size := Nat.le_trans Z9 K12q.1
  refine Run.tr st12 ?_
  show Run p e below s 3 6 (Q_rm0 Z p1 p2 p3 p4 h0 n0) (T12.setTop (mkF m 33 #[.val (.int p1), .val (.int p2), .val (.int p3), .val (.int p4), .val (.int (p2 &&& (65535 : Int32))), .val (.int (p4 &&& (65535 : Int32))), .val (.ref b5), .unset, .unset, .unset, .unset, .unset, .unset, .unset] [(.ref b9)]))
  refine Run.go (fun _ k => XS.astore X12.here hx rfl (hb hby at_33) rfl rfl (l' := #[.val (.int p1), .val (.int p2), .val (.int p3), .val (.int p4), .val (.int (p2 &&& (65535 : Int32))), .val (.int (p4 &&& (65535 : Int32))), .val (.ref b5), .val (.ref b9), .unset, .unset, .unset, .unset, .unset, .unset]) rfl k) ?_
  show Run p e below s 3 6 (Q_rm0 Z p1 p2 p3 p4 h0 n0) (T12.setTop (mkF m 35 #[.val (.int p1), .val (.int p2), .val (.int p3), .val (.int p4), .val (.int (p2 &&& (65535 : Int32))), .val (.int (p4 &&& (65535 : Int32))), .val (.ref b5), .val (.ref b9), .unset, .unset, .unset, .unset, .unset, .unset] []))
  have fx13 := ((fq8_0.ext E9).keep K12q)
  obtain ⟨T14, h14, X14, e14, E14, A14, D14, -, st14⟩ := newO X12 hx hZ hown (hw _ (List.mem_of_getElem? (i := 1) rfl)) (hw _ (List.mem_of_getElem? (i := 2) rfl)) (hw _ (List.mem_of_getElem? (i := 3) rfl)) rfl (g := (mkF m 35 #[.val (.int p1), .val (.int p2), .val (.int p3), .val (.int p4), .val (.int (p2 &&& (65535 : Int32))), .val (.int (p4 &&& (65535 : Int32))), .val (.ref b5), .val (.ref b9), .unset, .unset, .unset, .unset, .unset, .unset] [])) rfl (hb hby at_35) (by decide) (by decide)
  obtain ⟨b14, g14⟩ : ∃ z, z = T12.heap.size := ⟨_, rfl⟩
  rw [← g14] at A14 D14 st14
  have g_b14 : n0 ≤ b14 := Nat.le_trans Z12 (Nat.le_of_eq g14.symm)
  have Z14 : n0 ≤ h14.size := Nat.le_trans Z12 E14.1
  have ne_b5_b14 : b5 ≠ b14 := Nat.ne_of_lt (Nat.lt_of_lt_of_le fx13.lt (Nat.le_of_eq g14.symm))
  have ne_b9_b14 : b9 ≠ b14 := Nat.ne_of_lt (Nat.lt_of_lt_of_le fq12_0.lt (Nat.le_of_eq g14.symm))
  have fx15 : Fld Z h14 b14 "murmuration/Contact" "address" "I" (.int (0 : Int32)) := D14 (Or.inr (hw _ (List.mem_of_getElem? (i := 17) rfl))) (ty := .int) (by decide)
  have fx16 : Fld Z h14 b14 "murmuration/Contact" "port" "I" (.int (0 : Int32)) := D14 (Or.inr (hw _ (List.mem_of_getElem? (i := 19) rfl))) (ty := .int) (by decide)
  refine Run.go st14 ?_
  show Run p e below s 3 6 (Q_rm0 Z p1 p2 p3 p4 h0 n0) (T14.setTop (mkF m 38 #[.val (.int p1), .val (.int p2), .val (.int p3), .val (.int p4), .val (.int (p2 &&& (65535 : Int32))), .val (.int (p4 &&& (65535 : Int32))), .val (.ref b5), .val (.ref b9), .unset, .unset, .unset, .unset, .unset, .unset] [(.ref b14)]))
  refine Run.go (fun _ k => XS.dup X14.here hx rfl (hb hby at_38) rfl rfl k) ?_
  show Run p e below s 3 6 (Q_rm0 Z p1 p2 p3 p4 h0 n0) (T14.setTop (mkF m 39 #[.val (.int p1), .val (.int p2), .val (.int p3), .val (.int p4), .val (.int (p2 &&& (65535 : Int32))), .val (.int (p4 &&& (65535 : Int32))), .val (.ref b5), .val (.ref b9), .unset, .unset, .unset, .unset, .unset, .unset] [(.ref b14), (.ref b14)]))
  refine Run.go (fun _ k => XS.iloadN X14.here hx rfl (hb hby at_39) rfl  k) ?_
  show Run p e below s 3 6 (Q_rm0 Z p1 p2 p3 p4 h0 n0) (T14.setTop (mkF m 40 #[.val (.int p1), .val (.int p2), .val (.int p3), .val (.int p4), .val (.int (p2 &&& (65535 : Int32))), .val (.int (p4 &&& (65535 : Int32))), .val (.ref b5), .val (.ref b9), .unset, .unset, .unset, .unset, .unset, .unset] [(.int p3), (.ref b14), (.ref b14)]))
  refine Run.go (fun _ k => XS.iload X14.here hx rfl (hb hby at_40) rfl  k) ?_
  show Run p e below s 3 6 (Q_rm0 Z p1 p2 p3 p4 h0 n0) (T14.setTop (mkF m 42 #[.val (.int p1), .val (.int p2), .val (.int p3), .val (.int p4), .val (.int (p2 &&& (65535 : Int32))), .val (.int (p4 &&& (65535 : Int32))), .val (.ref b5), .val (.ref b9), .unset, .unset, .unset, .unset, .unset, .unset] [(.int (p4 &&& (65535 : Int32))), (.int p3), (.ref b14), (.ref b14)]))
  obtain ⟨_, _, ⟨T17, L17, k17, n17⟩, -, X17, ⟨Lc17, hQ17, l17, y17, z17⟩, st17⟩ := X14.specialBack hx (y := (⟨"murmuration/Contact", "<init>", "(II)V"⟩ : MethodName)) rfl hown (mvT hZ (hw _ (List.mem_of_getElem? (i := 4) rfl))) (mvT hZ (hw _ (List.mem_of_getElem? (i := 5) rfl))) (mvT hZ (hw _ (List.mem_of_getElem? (i := 6) rfl))) (by decide) (backOf (W := 1) (rm1 l Z a0 hw [] b14 p3 (p4 &&& (65535 : Int32)) (.int (0 : Int32)) (.int (0 : Int32)) h14 n0 Z14 (own_m p4).1 (own_m p4).2 A14 fx15 g_b14 fx16) hZ (hw _ (List.mem_of_getElem? (i := 6) rfl)) (hw _ (List.mem_of_getElem? (i := 3) rfl)) (by decide) (by decide)) (g := (mkF m 42 #[.val (.int p1), .val (.int p2), .val (.int p3), .val (.int p4), .val (.int (p2 &&& (65535 : Int32))), .val (.int (p4 &&& (65535 : Int32))), .val (.ref b5), .val (.ref b9), .unset, .unset, .unset, .unset, .unset, .unset] [(.int (p4 &&& (65535 : Int32))), (.int p3), (.ref b14), (.ref b14)])) rfl (by rw [hml]; rfl) (Steps.refl _) (a := b14) (argsL := [(.int p3), (.int (p4 &&& (65535 : Int32)))]) (rest := [(.ref b14)]) (lenOf pd_1 rfl) rfl (by show 2 * 0 + _ ≤ _; exact Nat.le_of_eq rfl) (hb hby at_42) (fun _ _ => ⟨rfl, e14, (by decide : 3 + 0 ≤ _), (by decide : 6 + 0 ≤ _)⟩)
  dsimp only [Pt.U, Pt.locs, Pt.cells, Pt.slots] at X17 l17 y17 z17 st17 hQ17
  subst l17 y17 z17
  obtain ⟨rfl, N17q, K17q, fq17_0, fq17_1, fq17_2⟩ := hQ17
  have N17 := Fr.app N12 N17q
  have Z17 : n0 ≤ T17.heap.size := Nat.le_trans Z14 K17q.1
  refine Run.tr st17 ?_
  show Run p e below s 3 6 (Q_rm0 Z p1 p2 p3 p4 h0 n0) (T17.setTop (mkF m 45 #[.val (.int p1), .val (.int p2), .val (.int p3), .val (.int p4), .val (.int (p2 &&& (65535 : Int32))), .val (.int (p4 &&& (65535 : Int32))), .val (.ref b5), .val (.ref b9), .unset, .unset, .unset, .unset, .unset, .unset] [(.ref b14)]))
  refine Run.go (fun _ k => XS.astore X17.here hx rfl (hb hby at_45) rfl rfl (l' := #[.val (.int p1), .val (.int p2), .val (.int p3), .val (.int p4), .val (.int (p2 &&& (65535 : Int32))), .val (.int (p4 &&& (65535 : Int32))), .val (.ref b5), .val (.ref b9), .val (.ref b14), .unset, .unset, .unset, .unset, .unset]) rfl k) ?_
  show Run p e below s 3 6 (Q_rm0 Z p1 p2 p3 p4 h0 n0) (T17.setTop (mkF m 47 #[.val (.int p1), .val (.int p2), .val (.int p3), .val (.int p4), .val (.int (p2 &&& (65535 : Int32))), .val (.int (p4 &&& (65535 : Int32))), .val (.ref b5), .val (.ref b9), .val (.ref b14), .unset, .unset, .unset, .unset, .unset] []))
  refine Run.go (fun _ k => XS.aload X17.here hx rfl (hb hby at_47) rfl rfl k) ?_
  show Run p e below s 3 6 (Q_rm0 Z p1 p2 p3 p4 h0 n0) (T17.setTop (mkF m 49 #[.val (.int p1), .val (.int p2), .val (.int p3), .val (.int p4), .val (.int (p2 &&& (65535 : Int32))), .val (.int (p4 &&& (65535 : Int32))), .val (.ref b5), .val (.ref b9), .val (.ref b14), .unset, .unset, .unset, .unset, .unset] [(.ref b5)]))
  have fx19 := ((((fq8_1.ext E9).keep K12q (ninS ne_b5_b9 nin0)).ext E14).keep K17q (ninS ne_b5_b14 nin0))
  have fx20 := ((((fq8_2.ext E9).keep K12q (ninS ne_b5_b9 nin0)).ext E14).keep K17q (ninS ne_b5_b14 nin0))
  have fx21 := ((fx13.ext E14).keep K17q)
  obtain ⟨cq18, kq18, q18a, q18b, q18c⟩ := isOf hZ rfl fx21
  obtain ⟨_, _, ⟨T18, L18, k18, n18⟩, -, X18, ⟨Lc18, hQ18, l18, y18, z18⟩, st18⟩ := X17.virtualBack hx (y := (⟨"murmuration/Contact", "hashCode", "()I"⟩ : MethodName)) (z := (⟨"murmuration/Contact", "hashCode", "()I"⟩ : MethodName)) hown (mvT hZ (hw _ (List.mem_of_getElem? (i := 20) rfl))) (mvT hZ (hw _ (List.mem_of_getElem? (i := 21) rfl))) (notFace_of_selects (args := #[]) (mvT hZ (hw _ (List.mem_of_getElem? (i := 23) rfl)))) (mvT hZ (hw _ (List.mem_of_getElem? (i := 23) rfl))) (mvT hZ (hw _ (List.mem_of_getElem? (i := 22) rfl))) (by decide) (backOf (W := 0) (rm4 l Z a0 hw [] b5 (0 : Int32) (0 : Int32) T17.heap n0 Z17 fx19 fx20) hZ (hw _ (List.mem_of_getElem? (i := 24) rfl)) (hw _ (List.mem_of_getElem? (i := 3) rfl)) (by decide) (by decide)) q18a q18c (g := (mkF m 49 #[.val (.int p1), .val (.int p2), .val (.int p3), .val (.int p4), .val (.int (p2 &&& (65535 : Int32))), .val (.int (p4 &&& (65535 : Int32))), .val (.ref b5), .val (.ref b9), .val (.ref b14), .unset, .unset, .unset, .unset, .unset] [(.ref b5)])) rfl (by rw [hml]; rfl) (Steps.refl _) (argsL := []) (rest := []) (lenOf pd_2 rfl) rfl (by show 2 * 0 + _ ≤ _; exact Nat.le_of_eq rfl) (hb hby at_49) (fun _ _ => ⟨rfl, rfl, (by decide : 3 + 0 ≤ _), (by decide : 6 + 0 ≤ _)⟩)
  dsimp only [Pt.U, Pt.locs, Pt.cells, Pt.slots] at X18 l18 y18 z18 st18 hQ18
  subst l18 y18 z18
  obtain ⟨rfl, N18q, e18q⟩ := hQ18
  have N18 := Fr.app N17 N18q
  refine Run.tr st18 ?_
  show Run p e below s 3 6 (Q_rm0 Z p1 p2 p3 p4 h0 n0) (T18.setTop (mkF m 52 #[.val (.int p1), .val (.int p2), .val (.int p3), .val (.int p4), .val (.int (p2 &&& (65535 : Int32))), .val (.int (p4 &&& (65535 : Int32))), .val (.ref b5), .val (.ref b9), .val (.ref b14), .unset, .unset, .unset, .unset, .unset] [(.int (0 : Int32))]))
  refine Run.go (fun _ k => XS.istore X18.here hx rfl (hb hby at_52) rfl (l' := #[.val (.int p1), .val (.int p2), .val (.int p3), .val (.int p4), .val (.int (p2 &&& (65535 : Int32))), .val (.int (p4 &&& (65535 : Int32))), .val (.ref b5), .val (.ref b9), .val (.ref b14), .val (.int (0 : Int32)), .unset, .unset, .unset, .unset]) rfl k) ?_
  show Run p e below s 3 6 (Q_rm0 Z p1 p2 p3 p4 h0 n0) (T18.setTop (mkF m 54 #[.val (.int p1), .val (.int p2), .val (.int p3), .val (.int p4), .val (.int (p2 &&& (65535 : Int32))), .val (.int (p4 &&& (65535 : Int32))), .val (.ref b5), .val (.ref b9), .val (.ref b14), .val (.int (0 : Int32)), .unset, .unset, .unset, .unset] []))
  refine Run.go (fun _ k => XS.aload X18.here hx rfl (hb hby at_54) rfl rfl k) ?_
  show Run p e below s 3 6 (Q_rm0 Z p1 p2 p3 p4 h0 n0) (T18.setTop (mkF m 56 #[.val (.int p1), .val (.int p2), .val (.int p3), .val (.int p4), .val (.int (p2 &&& (65535 : Int32))), .val (.int (p4 &&& (65535 : Int32))), .val (.ref b5), .val (.ref b9), .val (.ref b14), .val (.int (0 : Int32)), .unset, .unset, .unset, .unset] [(.ref b9)]))
  have fx23 := ((fq12_1.ext E14).keep K17q (ninS ne_b9_b14 nin0))
  have fx24 := ((fq12_2.ext E14).keep K17q (ninS ne_b9_b14 nin0))
  have fx25 := ((fq12_0.ext E14).keep K17q)
  obtain ⟨cq22, kq22, q22a, q22b, q22c⟩ := isOf hZ e18q fx25
  obtain ⟨_, _, ⟨T22, L22, k22, n22⟩, -, X22, ⟨Lc22, hQ22, l22, y22, z22⟩, st22⟩ := X18.virtualBack hx (y := (⟨"murmuration/Contact", "hashCode", "()I"⟩ : MethodName)) (z := (⟨"murmuration/Contact", "hashCode", "()I"⟩ : MethodName)) hown (mvT hZ (hw _ (List.mem_of_getElem? (i := 20) rfl))) (mvT hZ (hw _ (List.mem_of_getElem? (i := 21) rfl))) (notFace_of_selects (args := #[]) (mvT hZ (hw _ (List.mem_of_getElem? (i := 23) rfl)))) (mvT hZ (hw _ (List.mem_of_getElem? (i := 23) rfl))) (mvT hZ (hw _ (List.mem_of_getElem? (i := 22) rfl))) (by decide) (backOf (W := 0) (rm4 l Z a0 hw [] b9 p1 (p2 &&& (65535 : Int32)) T17.heap n0 Z17 fx23 fx24) hZ (hw _ (List.mem_of_getElem? (i := 24) rfl)) (hw _ (List.mem_of_getElem? (i := 3) rfl)) (by decide) (by decide)) q22a q22c (g := (mkF m 56 #[.val (.int p1), .val (.int p2), .val (.int p3), .val (.int p4), .val (.int (p2 &&& (65535 : Int32))), .val (.int (p4 &&& (65535 : Int32))), .val (.ref b5), .val (.ref b9), .val (.ref b14), .val (.int (0 : Int32)), .unset, .unset, .unset, .unset] [(.ref b9)])) rfl (by rw [hml]; rfl) (Steps.refl _) (argsL := []) (rest := []) (lenOf pd_2 rfl) rfl (by show 2 * 0 + _ ≤ _; exact Nat.le_of_eq rfl) (hb hby at_56) (fun _ _ => ⟨rfl, e18q, (by decide : 3 + 0 ≤ _), (by decide : 6 + 0 ≤ _)⟩)
  dsimp only [Pt.U, Pt.locs, Pt.cells, Pt.slots] at X22 l22 y22 z22 st22 hQ22
  subst l22 y22 z22
  obtain ⟨rfl, N22q, e22q⟩ := hQ22
  have N22 := Fr.app N18 N22q
  refine Run.tr st22 ?_
  show Run p e below s 3 6 (Q_rm0 Z p1 p2 p3 p4 h0 n0) (T22.setTop (mkF m 59 #[.val (.int p1), .val (.int p2), .val (.int p3), .val (.int p4), .val (.int (p2 &&& (65535 : Int32))), .val (.int (p4 &&& (65535 : Int32))), .val (.ref b5), .val (.ref b9), .val (.ref b14), .val (.int (0 : Int32)), .unset, .unset, .unset, .unset] [(.int (((31 : Int32) * p1) + (p2 &&& (65535 : Int32))))]))
  refine Run.go (fun _ k => XS.istore X22.here hx rfl (hb hby at_59) rfl (l' := #[.val (.int p1), .val (.int p2), .val (.int p3), .val (.int p4), .val (.int (p2 &&& (65535 : Int32))), .val (.int (p4 &&& (65535 : Int32))), .val (.ref b5), .val (.ref b9), .val (.ref b14), .val (.int (0 : Int32)), .val (.int (((31 : Int32) * p1) + (p2 &&& (65535 : Int32)))), .unset, .unset, .unset]) rfl k) ?_
  show Run p e below s 3 6 (Q_rm0 Z p1 p2 p3 p4 h0 n0) (T22.setTop (mkF m 61 #[.val (.int p1), .val (.int p2), .val (.int p3), .val (.int p4), .val (.int (p2 &&& (65535 : Int32))), .val (.int (p4 &&& (65535 : Int32))), .val (.ref b5), .val (.ref b9), .val (.ref b14), .val (.int (0 : Int32)), .val (.int (((31 : Int32) * p1) + (p2 &&& (65535 : Int32)))), .unset, .unset, .unset] []))
  refine Run.go (fun _ k => XS.aload X22.here hx rfl (hb hby at_61) rfl rfl k) ?_
  show Run p e below s 3 6 (Q_rm0 Z p1 p2 p3 p4 h0 n0) (T22.setTop (mkF m 63 #[.val (.int p1), .val (.int p2), .val (.int p3), .val (.int p4), .val (.int (p2 &&& (65535 : Int32))), .val (.int (p4 &&& (65535 : Int32))), .val (.ref b5), .val (.ref b9), .val (.ref b14), .val (.int (0 : Int32)), .val (.int (((31 : Int32) * p1) + (p2 &&& (65535 : Int32)))), .unset, .unset, .unset] [(.ref b14)]))
  obtain ⟨cq26, kq26, q26a, q26b, q26c⟩ := isOf hZ e22q fq17_0
  obtain ⟨_, _, ⟨T26, L26, k26, n26⟩, -, X26, ⟨Lc26, hQ26, l26, y26, z26⟩, st26⟩ := X22.virtualBack hx (y := (⟨"murmuration/Contact", "hashCode", "()I"⟩ : MethodName)) (z := (⟨"murmuration/Contact", "hashCode", "()I"⟩ : MethodName)) hown (mvT hZ (hw _ (List.mem_of_getElem? (i := 20) rfl))) (mvT hZ (hw _ (List.mem_of_getElem? (i := 21) rfl))) (notFace_of_selects (args := #[]) (mvT hZ (hw _ (List.mem_of_getElem? (i := 23) rfl)))) (mvT hZ (hw _ (List.mem_of_getElem? (i := 23) rfl))) (mvT hZ (hw _ (List.mem_of_getElem? (i := 22) rfl))) (by decide) (backOf (W := 0) (rm4 l Z a0 hw [] b14 p3 (p4 &&& (65535 : Int32)) T17.heap n0 Z17 fq17_1 fq17_2) hZ (hw _ (List.mem_of_getElem? (i := 24) rfl)) (hw _ (List.mem_of_getElem? (i := 3) rfl)) (by decide) (by decide)) q26a q26c (g := (mkF m 63 #[.val (.int p1), .val (.int p2), .val (.int p3), .val (.int p4), .val (.int (p2 &&& (65535 : Int32))), .val (.int (p4 &&& (65535 : Int32))), .val (.ref b5), .val (.ref b9), .val (.ref b14), .val (.int (0 : Int32)), .val (.int (((31 : Int32) * p1) + (p2 &&& (65535 : Int32)))), .unset, .unset, .unset] [(.ref b14)])) rfl (by rw [hml]; rfl) (Steps.refl _) (argsL := []) (rest := []) (lenOf pd_2 rfl) rfl (by show 2 * 0 + _ ≤ _; exact Nat.le_of_eq rfl) (hb hby at_63) (fun _ _ => ⟨rfl, e22q, (by decide : 3 + 0 ≤ _), (by decide : 6 + 0 ≤ _)⟩)
  dsimp only [Pt.U, Pt.locs, Pt.cells, Pt.slots] at X26 l26 y26 z26 st26 hQ26
  subst l26 y26 z26
  obtain ⟨rfl, N26q, e26q⟩ := hQ26
  have N26 := Fr.app N22 N26q
  refine Run.tr st26 ?_
  show Run p e below s 3 6 (Q_rm0 Z p1 p2 p3 p4 h0 n0) (T26.setTop (mkF m 66 #[.val (.int p1), .val (.int p2), .val (.int p3), .val (.int p4), .val (.int (p2 &&& (65535 : Int32))), .val (.int (p4 &&& (65535 : Int32))), .val (.ref b5), .val (.ref b9), .val (.ref b14), .val (.int (0 : Int32)), .val (.int (((31 : Int32) * p1) + (p2 &&& (65535 : Int32)))), .unset, .unset, .unset] [(.int (((31 : Int32) * p3) + (p4 &&& (65535 : Int32))))]))
  refine Run.go (fun _ k => XS.istore X26.here hx rfl (hb hby at_66) rfl (l' := #[.val (.int p1), .val (.int p2), .val (.int p3), .val (.int p4), .val (.int (p2 &&& (65535 : Int32))), .val (.int (p4 &&& (65535 : Int32))), .val (.ref b5), .val (.ref b9), .val (.ref b14), .val (.int (0 : Int32)), .val (.int (((31 : Int32) * p1) + (p2 &&& (65535 : Int32)))), .val (.int (((31 : Int32) * p3) + (p4 &&& (65535 : Int32)))), .unset, .unset]) rfl k) ?_
  show Run p e below s 3 6 (Q_rm0 Z p1 p2 p3 p4 h0 n0) (T26.setTop (mkF m 68 #[.val (.int p1), .val (.int p2), .val (.int p3), .val (.int p4), .val (.int (p2 &&& (65535 : Int32))), .val (.int (p4 &&& (65535 : Int32))), .val (.ref b5), .val (.ref b9), .val (.ref b14), .val (.int (0 : Int32)), .val (.int (((31 : Int32) * p1) + (p2 &&& (65535 : Int32)))), .val (.int (((31 : Int32) * p3) + (p4 &&& (65535 : Int32)))), .unset, .unset] []))
  refine Run.go (fun _ k => XS.iload X26.here hx rfl (hb hby at_68) rfl  k) ?_
  show Run p e below s 3 6 (Q_rm0 Z p1 p2 p3 p4 h0 n0) (T26.setTop (mkF m 70 #[.val (.int p1), .val (.int p2), .val (.int p3), .val (.int p4), .val (.int (p2 &&& (65535 : Int32))), .val (.int (p4 &&& (65535 : Int32))), .val (.ref b5), .val (.ref b9), .val (.ref b14), .val (.int (0 : Int32)), .val (.int (((31 : Int32) * p1) + (p2 &&& (65535 : Int32)))), .val (.int (((31 : Int32) * p3) + (p4 &&& (65535 : Int32)))), .unset, .unset] [(.int (0 : Int32))]))
  refine Run.go (fun _ k => XS.ifNo X26.here hx rfl (hb hby at_70) rfl ((if0 _ _).trans (teq (rfl : (0 : Int32) = (0 : Int32))).2) k) ?_
  show Run p e below s 3 6 (Q_rm0 Z p1 p2 p3 p4 h0 n0) (T26.setTop (mkF m 73 #[.val (.int p1), .val (.int p2), .val (.int p3), .val (.int p4), .val (.int (p2 &&& (65535 : Int32))), .val (.int (p4 &&& (65535 : Int32))), .val (.ref b5), .val (.ref b9), .val (.ref b14), .val (.int (0 : Int32)), .val (.int (((31 : Int32) * p1) + (p2 &&& (65535 : Int32)))), .val (.int (((31 : Int32) * p3) + (p4 &&& (65535 : Int32)))), .unset, .unset] []))
  refine Run.go (fun _ k => XS.iconst X26.here hx rfl (hb hby at_73) k) ?_
  show Run p e below s 3 6 (Q_rm0 Z p1 p2 p3 p4 h0 n0) (T26.setTop (mkF m 74 #[.val (.int p1), .val (.int p2), .val (.int p3), .val (.int p4), .val (.int (p2 &&& (65535 : Int32))), .val (.int (p4 &&& (65535 : Int32))), .val (.ref b5), .val (.ref b9), .val (.ref b14), .val (.int (0 : Int32)), .val (.int (((31 : Int32) * p1) + (p2 &&& (65535 : Int32)))), .val (.int (((31 : Int32) * p3) + (p4 &&& (65535 : Int32)))), .unset, .unset] [(.int (1 : Int32))]))
  refine Run.go (fun _ k => XS.goto X26.here hx rfl (pc0 := 74) (pc' := 78) rfl (hb hby at_74) (by decide) (by decide) k) ?_
  show Run p e below s 3 6 (Q_rm0 Z p1 p2 p3 p4 h0 n0) (T26.setTop (mkF m 78 #[.val (.int p1), .val (.int p2), .val (.int p3), .val (.int p4), .val (.int (p2 &&& (65535 : Int32))), .val (.int (p4 &&& (65535 : Int32))), .val (.ref b5), .val (.ref b9), .val (.ref b14), .val (.int (0 : Int32)), .val (.int (((31 : Int32) * p1) + (p2 &&& (65535 : Int32)))), .val (.int (((31 : Int32) * p3) + (p4 &&& (65535 : Int32)))), .unset, .unset] [(.int (1 : Int32))]))
  refine Run.go (fun _ k => XS.istore X26.here hx rfl (hb hby at_78) rfl (l' := #[.val (.int p1), .val (.int p2), .val (.int p3), .val (.int p4), .val (.int (p2 &&& (65535 : Int32))), .val (.int (p4 &&& (65535 : Int32))), .val (.ref b5), .val (.ref b9), .val (.ref b14), .val (.int (0 : Int32)), .val (.int (((31 : Int32) * p1) + (p2 &&& (65535 : Int32)))), .val (.int (((31 : Int32) * p3) + (p4 &&& (65535 : Int32)))), .val (.int (1 : Int32)), .unset]) rfl k) ?_
  show Run p e below s 3 6 (Q_rm0 Z p1 p2 p3 p4 h0 n0) (T26.setTop (mkF m 80 #[.val (.int p1), .val (.int p2), .val (.int p3), .val (.int p4), .val (.int (p2 &&& (65535 : Int32))), .val (.int (p4 &&& (65535 : Int32))), .val (.ref b5), .val (.ref b9), .val (.ref b14), .val (.int (0 : Int32)), .val (.int (((31 : Int32) * p1) + (p2 &&& (65535 : Int32)))), .val (.int (((31 : Int32) * p3) + (p4 &&& (65535 : Int32)))), .val (.int (1 : Int32)), .unset] []))
  refine Run.go (fun _ k => XS.iload X26.here hx rfl (hb hby at_80) rfl  k) ?_
  show Run p e below s 3 6 (Q_rm0 Z p1 p2 p3 p4 h0 n0) (T26.setTop (mkF m 82 #[.val (.int p1), .val (.int p2), .val (.int p3), .val (.int p4), .val (.int (p2 &&& (65535 : Int32))), .val (.int (p4 &&& (65535 : Int32))), .val (.ref b5), .val (.ref b9), .val (.ref b14), .val (.int (0 : Int32)), .val (.int (((31 : Int32) * p1) + (p2 &&& (65535 : Int32)))), .val (.int (((31 : Int32) * p3) + (p4 &&& (65535 : Int32)))), .val (.int (1 : Int32)), .unset] [(.int (((31 : Int32) * p1) + (p2 &&& (65535 : Int32))))]))
  refine Run.go (fun _ k => XS.iload X26.here hx rfl (hb hby at_82) rfl  k) ?_
  show Run p e below s 3 6 (Q_rm0 Z p1 p2 p3 p4 h0 n0) (T26.setTop (mkF m 84 #[.val (.int p1), .val (.int p2), .val (.int p3), .val (.int p4), .val (.int (p2 &&& (65535 : Int32))), .val (.int (p4 &&& (65535 : Int32))), .val (.ref b5), .val (.ref b9), .val (.ref b14), .val (.int (0 : Int32)), .val (.int (((31 : Int32) * p1) + (p2 &&& (65535 : Int32)))), .val (.int (((31 : Int32) * p3) + (p4 &&& (65535 : Int32)))), .val (.int (1 : Int32)), .unset] [(.int (((31 : Int32) * p3) + (p4 &&& (65535 : Int32)))), (.int (((31 : Int32) * p1) + (p2 &&& (65535 : Int32))))]))
  refine Run.go (fun _ k => XS.isub X26.here hx rfl (hb hby at_84) rfl k) ?_
  show Run p e below s 3 6 (Q_rm0 Z p1 p2 p3 p4 h0 n0) (T26.setTop (mkF m 85 #[.val (.int p1), .val (.int p2), .val (.int p3), .val (.int p4), .val (.int (p2 &&& (65535 : Int32))), .val (.int (p4 &&& (65535 : Int32))), .val (.ref b5), .val (.ref b9), .val (.ref b14), .val (.int (0 : Int32)), .val (.int (((31 : Int32) * p1) + (p2 &&& (65535 : Int32)))), .val (.int (((31 : Int32) * p3) + (p4 &&& (65535 : Int32)))), .val (.int (1 : Int32)), .unset] [(.int ((((31 : Int32) * p1) + (p2 &&& (65535 : Int32))) - (((31 : Int32) * p3) + (p4 &&& (65535 : Int32)))))]))
  refine Run.go (fun _ k => XS.bipush X26.here hx rfl (hb hby at_85) k) ?_
  show Run p e below s 3 6 (Q_rm0 Z p1 p2 p3 p4 h0 n0) (T26.setTop (mkF m 87 #[.val (.int p1), .val (.int p2), .val (.int p3), .val (.int p4), .val (.int (p2 &&& (65535 : Int32))), .val (.int (p4 &&& (65535 : Int32))), .val (.ref b5), .val (.ref b9), .val (.ref b14), .val (.int (0 : Int32)), .val (.int (((31 : Int32) * p1) + (p2 &&& (65535 : Int32)))), .val (.int (((31 : Int32) * p3) + (p4 &&& (65535 : Int32)))), .val (.int (1 : Int32)), .unset] [(.int (31 : Int32)), (.int ((((31 : Int32) * p1) + (p2 &&& (65535 : Int32))) - (((31 : Int32) * p3) + (p4 &&& (65535 : Int32)))))]))
  refine Run.go (fun _ k => XS.iloadN X26.here hx rfl (hb hby at_87) rfl  k) ?_
  show Run p e below s 3 6 (Q_rm0 Z p1 p2 p3 p4 h0 n0) (T26.setTop (mkF m 88 #[.val (.int p1), .val (.int p2), .val (.int p3), .val (.int p4), .val (.int (p2 &&& (65535 : Int32))), .val (.int (p4 &&& (65535 : Int32))), .val (.ref b5), .val (.ref b9), .val (.ref b14), .val (.int (0 : Int32)), .val (.int (((31 : Int32) * p1) + (p2 &&& (65535 : Int32)))), .val (.int (((31 : Int32) * p3) + (p4 &&& (65535 : Int32)))), .val (.int (1 : Int32)), .unset] [(.int p1), (.int (31 : Int32)), (.int ((((31 : Int32) * p1) + (p2 &&& (65535 : Int32))) - (((31 : Int32) * p3) + (p4 &&& (65535 : Int32)))))]))
  refine Run.go (fun _ k => XS.iloadN X26.here hx rfl (hb hby at_88) rfl  k) ?_
  show Run p e below s 3 6 (Q_rm0 Z p1 p2 p3 p4 h0 n0) (T26.setTop (mkF m 89 #[.val (.int p1), .val (.int p2), .val (.int p3), .val (.int p4), .val (.int (p2 &&& (65535 : Int32))), .val (.int (p4 &&& (65535 : Int32))), .val (.ref b5), .val (.ref b9), .val (.ref b14), .val (.int (0 : Int32)), .val (.int (((31 : Int32) * p1) + (p2 &&& (65535 : Int32)))), .val (.int (((31 : Int32) * p3) + (p4 &&& (65535 : Int32)))), .val (.int (1 : Int32)), .unset] [(.int p3), (.int p1), (.int (31 : Int32)), (.int ((((31 : Int32) * p1) + (p2 &&& (65535 : Int32))) - (((31 : Int32) * p3) + (p4 &&& (65535 : Int32)))))]))
  refine Run.go (fun _ k => XS.isub X26.here hx rfl (hb hby at_89) rfl k) ?_
  show Run p e below s 3 6 (Q_rm0 Z p1 p2 p3 p4 h0 n0) (T26.setTop (mkF m 90 #[.val (.int p1), .val (.int p2), .val (.int p3), .val (.int p4), .val (.int (p2 &&& (65535 : Int32))), .val (.int (p4 &&& (65535 : Int32))), .val (.ref b5), .val (.ref b9), .val (.ref b14), .val (.int (0 : Int32)), .val (.int (((31 : Int32) * p1) + (p2 &&& (65535 : Int32)))), .val (.int (((31 : Int32) * p3) + (p4 &&& (65535 : Int32)))), .val (.int (1 : Int32)), .unset] [(.int (p1 - p3)), (.int (31 : Int32)), (.int ((((31 : Int32) * p1) + (p2 &&& (65535 : Int32))) - (((31 : Int32) * p3) + (p4 &&& (65535 : Int32)))))]))
  refine Run.go (fun _ k => XS.imul X26.here hx rfl (hb hby at_90) rfl k) ?_
  show Run p e below s 3 6 (Q_rm0 Z p1 p2 p3 p4 h0 n0) (T26.setTop (mkF m 91 #[.val (.int p1), .val (.int p2), .val (.int p3), .val (.int p4), .val (.int (p2 &&& (65535 : Int32))), .val (.int (p4 &&& (65535 : Int32))), .val (.ref b5), .val (.ref b9), .val (.ref b14), .val (.int (0 : Int32)), .val (.int (((31 : Int32) * p1) + (p2 &&& (65535 : Int32)))), .val (.int (((31 : Int32) * p3) + (p4 &&& (65535 : Int32)))), .val (.int (1 : Int32)), .unset] [(.int ((31 : Int32) * (p1 - p3))), (.int ((((31 : Int32) * p1) + (p2 &&& (65535 : Int32))) - (((31 : Int32) * p3) + (p4 &&& (65535 : Int32)))))]))
  refine Run.go (fun _ k => XS.iload X26.here hx rfl (hb hby at_91) rfl  k) ?_
  show Run p e below s 3 6 (Q_rm0 Z p1 p2 p3 p4 h0 n0) (T26.setTop (mkF m 93 #[.val (.int p1), .val (.int p2), .val (.int p3), .val (.int p4), .val (.int (p2 &&& (65535 : Int32))), .val (.int (p4 &&& (65535 : Int32))), .val (.ref b5), .val (.ref b9), .val (.ref b14), .val (.int (0 : Int32)), .val (.int (((31 : Int32) * p1) + (p2 &&& (65535 : Int32)))), .val (.int (((31 : Int32) * p3) + (p4 &&& (65535 : Int32)))), .val (.int (1 : Int32)), .unset] [(.int (p2 &&& (65535 : Int32))), (.int ((31 : Int32) * (p1 - p3))), (.int ((((31 : Int32) * p1) + (p2 &&& (65535 : Int32))) - (((31 : Int32) * p3) + (p4 &&& (65535 : Int32)))))]))
  refine Run.go (fun _ k => XS.iload X26.here hx rfl (hb hby at_93) rfl  k) ?_
  show Run p e below s 3 6 (Q_rm0 Z p1 p2 p3 p4 h0 n0) (T26.setTop (mkF m 95 #[.val (.int p1), .val (.int p2), .val (.int p3), .val (.int p4), .val (.int (p2 &&& (65535 : Int32))), .val (.int (p4 &&& (65535 : Int32))), .val (.ref b5), .val (.ref b9), .val (.ref b14), .val (.int (0 : Int32)), .val (.int (((31 : Int32) * p1) + (p2 &&& (65535 : Int32)))), .val (.int (((31 : Int32) * p3) + (p4 &&& (65535 : Int32)))), .val (.int (1 : Int32)), .unset] [(.int (p4 &&& (65535 : Int32))), (.int (p2 &&& (65535 : Int32))), (.int ((31 : Int32) * (p1 - p3))), (.int ((((31 : Int32) * p1) + (p2 &&& (65535 : Int32))) - (((31 : Int32) * p3) + (p4 &&& (65535 : Int32)))))]))
  refine Run.go (fun _ k => XS.isub X26.here hx rfl (hb hby at_95) rfl k) ?_
  show Run p e below s 3 6 (Q_rm0 Z p1 p2 p3 p4 h0 n0) (T26.setTop (mkF m 96 #[.val (.int p1), .val (.int p2), .val (.int p3), .val (.int p4), .val (.int (p2 &&& (65535 : Int32))), .val (.int (p4 &&& (65535 : Int32))), .val (.ref b5), .val (.ref b9), .val (.ref b14), .val (.int (0 : Int32)), .val (.int (((31 : Int32) * p1) + (p2 &&& (65535 : Int32)))), .val (.int (((31 : Int32) * p3) + (p4 &&& (65535 : Int32)))), .val (.int (1 : Int32)), .unset] [(.int ((p2 &&& (65535 : Int32)) - (p4 &&& (65535 : Int32)))), (.int ((31 : Int32) * (p1 - p3))), (.int ((((31 : Int32) * p1) + (p2 &&& (65535 : Int32))) - (((31 : Int32) * p3) + (p4 &&& (65535 : Int32)))))]))
  refine Run.go (fun _ k => XS.iadd X26.here hx rfl (hb hby at_96) rfl k) ?_
  show Run p e below s 3 6 (Q_rm0 Z p1 p2 p3 p4 h0 n0) (T26.setTop (mkF m 97 #[.val (.int p1), .val (.int p2), .val (.int p3), .val (.int p4), .val (.int (p2 &&& (65535 : Int32))), .val (.int (p4 &&& (65535 : Int32))), .val (.ref b5), .val (.ref b9), .val (.ref b14), .val (.int (0 : Int32)), .val (.int (((31 : Int32) * p1) + (p2 &&& (65535 : Int32)))), .val (.int (((31 : Int32) * p3) + (p4 &&& (65535 : Int32)))), .val (.int (1 : Int32)), .unset] [(.int (((31 : Int32) * (p1 - p3)) + ((p2 &&& (65535 : Int32)) - (p4 &&& (65535 : Int32))))), (.int ((((31 : Int32) * p1) + (p2 &&& (65535 : Int32))) - (((31 : Int32) * p3) + (p4 &&& (65535 : Int32)))))]))
  refine Run.go (fun _ k => XS.icmpNo X26.here hx rfl (hb hby at_97) rfl (teq (own_lin _ _ _ _)).2 k) ?_
  show Run p e below s 3 6 (Q_rm0 Z p1 p2 p3 p4 h0 n0) (T26.setTop (mkF m 100 #[.val (.int p1), .val (.int p2), .val (.int p3), .val (.int p4), .val (.int (p2 &&& (65535 : Int32))), .val (.int (p4 &&& (65535 : Int32))), .val (.ref b5), .val (.ref b9), .val (.ref b14), .val (.int (0 : Int32)), .val (.int (((31 : Int32) * p1) + (p2 &&& (65535 : Int32)))), .val (.int (((31 : Int32) * p3) + (p4 &&& (65535 : Int32)))), .val (.int (1 : Int32)), .unset] []))
  refine Run.go (fun _ k => XS.iconst X26.here hx rfl (hb hby at_100) k) ?_
  show Run p e below s 3 6 (Q_rm0 Z p1 p2 p3 p4 h0 n0) (T26.setTop (mkF m 101 #[.val (.int p1), .val (.int p2), .val (.int p3), .val (.int p4), .val (.int (p2 &&& (65535 : Int32))), .val (.int (p4 &&& (65535 : Int32))), .val (.ref b5), .val (.ref b9), .val (.ref b14), .val (.int (0 : Int32)), .val (.int (((31 : Int32) * p1) + (p2 &&& (65535 : Int32)))), .val (.int (((31 : Int32) * p3) + (p4 &&& (65535 : Int32)))), .val (.int (1 : Int32)), .unset] [(.int (1 : Int32))]))
  refine Run.go (fun _ k => XS.goto X26.here hx rfl (pc0 := 101) (pc' := 105) rfl (hb hby at_101) (by decide) (by decide) k) ?_
  show Run p e below s 3 6 (Q_rm0 Z p1 p2 p3 p4 h0 n0) (T26.setTop (mkF m 105 #[.val (.int p1), .val (.int p2), .val (.int p3), .val (.int p4), .val (.int (p2 &&& (65535 : Int32))), .val (.int (p4 &&& (65535 : Int32))), .val (.ref b5), .val (.ref b9), .val (.ref b14), .val (.int (0 : Int32)), .val (.int (((31 : Int32) * p1) + (p2 &&& (65535 : Int32)))), .val (.int (((31 : Int32) * p3) + (p4 &&& (65535 : Int32)))), .val (.int (1 : Int32)), .unset] [(.int (1 : Int32))]))
  refine Run.go (fun _ k => XS.istore X26.here hx rfl (hb hby at_105) rfl (l' := #[.val (.int p1), .val (.int p2), .val (.int p3), .val (.int p4), .val (.int (p2 &&& (65535 : Int32))), .val (.int (p4 &&& (65535 : Int32))), .val (.ref b5), .val (.ref b9), .val (.ref b14), .val (.int (0 : Int32)), .val (.int (((31 : Int32) * p1) + (p2 &&& (65535 : Int32)))), .val (.int (((31 : Int32) * p3) + (p4 &&& (65535 : Int32)))), .val (.int (1 : Int32)), .val (.int (1 : Int32))]) rfl k) ?_
  show Run p e below s 3 6 (Q_rm0 Z p1 p2 p3 p4 h0 n0) (T26.setTop (mkF m 107 #[.val (.int p1), .val (.int p2), .val (.int p3), .val (.int p4), .val (.int (p2 &&& (65535 : Int32))), .val (.int (p4 &&& (65535 : Int32))), .val (.ref b5), .val (.ref b9), .val (.ref b14), .val (.int (0 : Int32)), .val (.int (((31 : Int32) * p1) + (p2 &&& (65535 : Int32)))), .val (.int (((31 : Int32) * p3) + (p4 &&& (65535 : Int32)))), .val (.int (1 : Int32)), .val (.int (1 : Int32))] []))
  refine Run.go (fun _ k => XS.iload X26.here hx rfl (hb hby at_107) rfl  k) ?_
  show Run p e below s 3 6 (Q_rm0 Z p1 p2 p3 p4 h0 n0) (T26.setTop (mkF m 109 #[.val (.int p1), .val (.int p2), .val (.int p3), .val (.int p4), .val (.int (p2 &&& (65535 : Int32))), .val (.int (p4 &&& (65535 : Int32))), .val (.ref b5), .val (.ref b9), .val (.ref b14), .val (.int (0 : Int32)), .val (.int (((31 : Int32) * p1) + (p2 &&& (65535 : Int32)))), .val (.int (((31 : Int32) * p3) + (p4 &&& (65535 : Int32)))), .val (.int (1 : Int32)), .val (.int (1 : Int32))] [(.int (1 : Int32))]))
  refine Run.go (fun _ k => XS.ifNo X26.here hx rfl (hb hby at_109) rfl ((if0 _ _).trans (feq (by decide)).1) k) ?_
  show Run p e below s 3 6 (Q_rm0 Z p1 p2 p3 p4 h0 n0) (T26.setTop (mkF m 112 #[.val (.int p1), .val (.int p2), .val (.int p3), .val (.int p4), .val (.int (p2 &&& (65535 : Int32))), .val (.int (p4 &&& (65535 : Int32))), .val (.ref b5), .val (.ref b9), .val (.ref b14), .val (.int (0 : Int32)), .val (.int (((31 : Int32) * p1) + (p2 &&& (65535 : Int32)))), .val (.int (((31 : Int32) * p3) + (p4 &&& (65535 : Int32)))), .val (.int (1 : Int32)), .val (.int (1 : Int32))] []))
  refine Run.go (fun _ k => XS.iload X26.here hx rfl (hb hby at_112) rfl  k) ?_
  show Run p e below s 3 6 (Q_rm0 Z p1 p2 p3 p4 h0 n0) (T26.setTop (mkF m 114 #[.val (.int p1), .val (.int p2), .val (.int p3), .val (.int p4), .val (.int (p2 &&& (65535 : Int32))), .val (.int (p4 &&& (65535 : Int32))), .val (.ref b5), .val (.ref b9), .val (.ref b14), .val (.int (0 : Int32)), .val (.int (((31 : Int32) * p1) + (p2 &&& (65535 : Int32)))), .val (.int (((31 : Int32) * p3) + (p4 &&& (65535 : Int32)))), .val (.int (1 : Int32)), .val (.int (1 : Int32))] [(.int (1 : Int32))]))
  refine Run.go (fun _ k => XS.ifNo X26.here hx rfl (hb hby at_114) rfl ((if0 _ _).trans (feq (by decide)).1) k) ?_
  show Run p e below s 3 6 (Q_rm0 Z p1 p2 p3 p4 h0 n0) (T26.setTop (mkF m 117 #[.val (.int p1), .val (.int p2), .val (.int p3), .val (.int p4), .val (.int (p2 &&& (65535 : Int32))), .val (.int (p4 &&& (65535 : Int32))), .val (.ref b5), .val (.ref b9), .val (.ref b14), .val (.int (0 : Int32)), .val (.int (((31 : Int32) * p1) + (p2 &&& (65535 : Int32)))), .val (.int (((31 : Int32) * p3) + (p4 &&& (65535 : Int32)))), .val (.int (1 : Int32)), .val (.int (1 : Int32))] []))
  refine Run.go (fun _ k => XS.iconst X26.here hx rfl (hb hby at_117) k) ?_
  show Run p e below s 3 6 (Q_rm0 Z p1 p2 p3 p4 h0 n0) (T26.setTop (mkF m 118 #[.val (.int p1), .val (.int p2), .val (.int p3), .val (.int p4), .val (.int (p2 &&& (65535 : Int32))), .val (.int (p4 &&& (65535 : Int32))), .val (.ref b5), .val (.ref b9), .val (.ref b14), .val (.int (0 : Int32)), .val (.int (((31 : Int32) * p1) + (p2 &&& (65535 : Int32)))), .val (.int (((31 : Int32) * p3) + (p4 &&& (65535 : Int32)))), .val (.int (1 : Int32)), .val (.int (1 : Int32))] [(.int (1 : Int32))]))
  refine Run.go (fun _ k => XS.goto X26.here hx rfl (pc0 := 118) (pc' := 122) rfl (hb hby at_118) (by decide) (by decide) k) ?_
  show Run p e below s 3 6 (Q_rm0 Z p1 p2 p3 p4 h0 n0) (T26.setTop (mkF m 122 #[.val (.int p1), .val (.int p2), .val (.int p3), .val (.int p4), .val (.int (p2 &&& (65535 : Int32))), .val (.int (p4 &&& (65535 : Int32))), .val (.ref b5), .val (.ref b9), .val (.ref b14), .val (.int (0 : Int32)), .val (.int (((31 : Int32) * p1) + (p2 &&& (65535 : Int32)))), .val (.int (((31 : Int32) * p3) + (p4 &&& (65535 : Int32)))), .val (.int (1 : Int32)), .val (.int (1 : Int32))] [(.int (1 : Int32))]))
  exact Run.retN (y := 1) X26 hx (t := .boolean) Bd.returns (by simp) rfl Bd.notSynchronized (hb hby at_122) (by decide) (by decide) ⟨rfl, N26⟩
set_option maxRecDepth 65536 in
set_option maxHeartbeats 40000000 in
theorem comes_1 {Post : Tables → Env → Array Value → State → Outcome → State → Prop} (hpost : ∀ tb e args s v u, (limb_1_1.after args s (.returned v) u = true ∧ limb_1_2.after args s (.returned v) u = true ∧ True) → FrameEnd s (.returned v) u (Jvm.fieldLocs frame_1_writes args s ++ Jvm.arrayLocs frame_1_arrays args s ++ Jvm.staticLocs frame_1_statics s) 16 128 → Post tb e args s (.returned v) u) :
    ArmFor flags0 classFile x code maxLocals ret World_1 tables_1 room_1 Calls_1 rest_1 Pre_1 Post := by
  intro l hfl _ _ p e ha hc hk s m args below hf hA hF happ hP
  obtain ⟨hcalls, hrest, hpre⟩ := hP
  obtain ⟨-, -, -, hnamed, -, -, -, hat⟩ := (Spec.applies_iff hf).mp happ
  obtain ⟨hg, hn⟩ := and_e (Cond.before_iff.mp (show (Jvm.Cond.and given_1 narrow_1).before args s = true from hpre))
  obtain ⟨g1, g2⟩ := and_e hg
  obtain ⟨g3, g4⟩ := and_e g2
  obtain ⟨g5, g6⟩ := and_e g4
  obtain ⟨g7, g8⟩ := and_e g6
  obtain ⟨w0, w1, w2, w3, rfl⟩ : ∃ w0 w1 w2 w3 : Value, args = #[w0, w1, w2, w3] := by
    have hs : args.size = 4 := by simpa [Cond.value, given_1] using g1
    obtain ⟨L⟩ := args
    match L, hs with
    | [w0, w1, w2, w3], _ => exact ⟨w0, w1, w2, w3, rfl⟩
  have hw := fun d (hd : d ∈ tables_1) => atoms_spec (ws := Jvm.Cond.code x code maxLocals ret :: tables_1) hat d (List.mem_cons_of_mem _ hd)
  have hfit : Fit s := fun {y c} hc i hi => by
    obtain ⟨ha, rfl⟩ := Array.getElem?_eq_some_iff.mp hc
    have q := List.all_eq_true.mp ((Array.all_eq_true_iff_forall_mem.mp hF) _ (Array.getElem_mem ha)) i (List.mem_range.mpr hi)
    simpa [Array.getElem?_eq_getElem hi] using q
  obtain ⟨i0, ei0⟩ := is_v g3
  obtain rfl : w0 = (.int i0) := Option.some.inj ei0
  obtain ⟨i1, ei1⟩ := is_v g5
  obtain rfl : w1 = (.int i1) := Option.some.inj ei1
  obtain ⟨i2, ei2⟩ := is_v g7
  obtain rfl : w2 = (.int i2) := Option.some.inj ei2
  obtain ⟨i3, ei3⟩ := is_v g8
  obtain rfl : w3 = (.int i3) := Option.some.inj ei3
  obtain ⟨n, o, h1, h2, h3, _, L, rfl, ⟨rfl, N⟩, hq⟩ := rm0 l s _ hw tables_1 i0 i1 i2 i3 s.heap s.heap.size (Nat.le_refl _)  p e ha hc hk s m _ below hf ((Spec.applies_iff_loose hf).mp happ).1 ⟨rfl, State.Warmed39.refl s, rfl⟩ trivial
  refine ⟨n, _, h1, h2, h3, hpost _ _ _ _ _ _ ⟨Cond.after_iff.mpr rfl, Cond.after_iff.mpr (eq_i res_at (Term.int_eval (1)) rfl), trivial⟩ ⟨hq.1, hq.2.1, (hq.2.2.sift fun y hy => Or.inr (N y hy)).mono (by decide) (by decide)⟩⟩
theorem main_1_1 : Claimed_1_1 := comes_1 fun _ _ _ _ _ _ h hF => ⟨h.1, hF⟩
theorem main_1_2 : Claimed_1_2 := comes_1 fun _ _ _ _ _ _ h hF => ⟨h.2.1, hF⟩
end Jvm.Pilot.@@N@@
namespace Jvm.Pilot.@@N@@
open Jvm Jvm.ClassFile Sem Op Lib Jvm.Free Jvm.Stand Jvm.Pilot.@@N@@.Jvm.D
/-! MADE BY PROGRAM (witnessworld.py) out of the Statement's table words and the real class files: 11 classes; the members and pool entries that the words name. The judged class is class 1, her method 1. -/
namespace start1
open Jvm.ClassFile
def u (s : String) : CpInfo := .utf8 (stringToUtf16 s)
/-- a pool by its gaps: so many unusable entries, then the entry; so many at the end -/
def gap : Nat → List CpInfo → List CpInfo
  | 0, r => r
  | n + 1, r => .unusable :: gap n r
def poolList (es : List (Nat × CpInfo)) (last : Nat) : List CpInfo := es.foldr (fun e r => gap e.1 (e.2 :: r)) (gap last [])
def pool (es : List (Nat × CpInfo)) (last : Nat) : Array CpInfo := ⟨poolList es last⟩
def fileOf (pool : Array CpInfo) (this : Nat) (attrs : Array Attribute := #[]) (ms : Array MethodInfo := #[]) (fl : Nat := 33) (sup : Nat := 0) (ifs : Array Nat := #[]) (fds : Array FieldInfo := #[]) : ClassFile where
  minorVersion := 0
  majorVersion := 65
  constantPool := pool
  accessFlags := fl
  thisClass := this
  superClass := sup
  interfaces := ifs
  fields := fds
  methods := ms
  attributes := attrs
def plain (name : String) (sup : Option ClassId) : Class where
  name := name
  kind := .ordinary
  loader := none
  accessFlags := 33
  super := sup
  interfaces := #[]
  cf := none
  fields := #[]
  methods := #[]
  instanceTypes := #[]
  staticTypes := #[]
  resolved := #[]
  callSites := []
  init := .initialized
  statics := none
  mirror := none

def pool0 : Array CpInfo := pool [(5, u "<init>"), (0, u "()V"), (1, .class_ 10), (1, u "java/lang/Object")] 113

def k0c0 : Code := { maxStack := 0, maxLocals := 1, code := object_method_1_code, exceptionTable := #[], attributes := #[] }
def k0m0 : Method := { name := "<init>", desc := "()V", sig := { parameters := [], returnType := none }, accessFlags := 1, code := some k0c0 }
/-- java/lang/Object -/
def k0 : Class := { plain "java/lang/Object" none with
  accessFlags := 33
  interfaces := #[]
  cf := some (fileOf pool0 8 #[] #[{ accessFlags := 1, nameIndex := 5, descriptorIndex := 6, attributes := #[] }] 33 0 #[] #[])
  fields := #[]
  methods := #[k0m0]
  instanceTypes := #[]
  staticTypes := #[]
  resolved := Array.replicate 124 none
  statics := none }

def pool1 : Array CpInfo := pool [(2, .class_ 4), (1, u "java/lang/Object"), (0, u "<init>"), (0, u "()V"), (0, .integer 65535), (0, .class_ 9), (0, u "murmuration/Contact"), (0, .methodref 8 11), (0, .nameAndType 5 12), (0, u "(II)V"), (0, .methodref 8 14), (0, .nameAndType 15 16), (0, u "hashCode"), (0, u "()I"), (0, .class_ 18), (0, u "murmuration/ContactHashCodePinLaw"), (2, u "law"), (0, u "(IIII)Z")] 3

def k1m0 : Method := { name := "<init>", desc := "()V", sig := { parameters := [], returnType := none }, accessFlags := 2, code := none }
def k1c1 : Code := { maxStack := 4, maxLocals := 14, code := code, exceptionTable := #[], attributes := #[] }
def k1m1 : Method := { name := "law", desc := "(IIII)Z", sig := { parameters := [.int, .int, .int, .int], returnType := some .boolean }, accessFlags := 9, code := some k1c1 }
/-- murmuration/ContactHashCodePinLaw -/
def k1 : Class := { plain "murmuration/ContactHashCodePinLaw" (some 0) with
  accessFlags := 49
  interfaces := #[]
  cf := some (fileOf pool1 17 #[] #[{ accessFlags := 2, nameIndex := 5, descriptorIndex := 6, attributes := #[] }, { accessFlags := 9, nameIndex := 21, descriptorIndex := 22, attributes := #[] }] 49 2 #[] #[])
  fields := #[]
  methods := #[k1m0, k1m1]
  instanceTypes := #[]
  staticTypes := #[]
  resolved := Array.replicate 26 none
  statics := none }

def pool2 : Array CpInfo := pool [(1, .methodref 2 3), (0, .class_ 4), (0, .nameAndType 5 6), (0, u "java/lang/Object"), (0, u "<init>"), (0, u "()V"), (0, .class_ 8), (0, u "java/lang/Record")] 13

def k2c0 : Code := { maxStack := 1, maxLocals := 1, code := jdk_30_method_1_code, exceptionTable := #[], attributes := #[] }
def k2m0 : Method := { name := "<init>", desc := "()V", sig := { parameters := [], returnType := none }, accessFlags := 4, code := some k2c0 }
/-- java/lang/Record -/
def k2 : Class := { plain "java/lang/Record" (some 0) with
  accessFlags := 1057
  interfaces := #[]
  cf := some (fileOf pool2 7 #[] #[{ accessFlags := 4, nameIndex := 5, descriptorIndex := 6, attributes := #[] }] 1057 2 #[] #[])
  fields := #[]
  methods := #[k2m0]
  instanceTypes := #[]
  staticTypes := #[]
  resolved := Array.replicate 22 none
  statics := none }

def pool3 : Array CpInfo := pool [(1, .class_ 2), (0, u "java/lang/Comparable"), (0, .class_ 4), (0, u "java/lang/Object")] 7

/-- java/lang/Comparable -/
def k3 : Class := { plain "java/lang/Comparable" (some 0) with
  accessFlags := 1537
  interfaces := #[]
  cf := some (fileOf pool3 1 #[] #[] 1537 3 #[] #[])
  fields := #[]
  methods := #[]
  instanceTypes := #[]
  staticTypes := #[]
  resolved := Array.replicate 12 none
  statics := none }

def pool4 : Array CpInfo := pool [(1, .methodref 2 3), (0, .class_ 4), (0, .nameAndType 5 6), (0, u "java/lang/Record"), (0, u "<init>"), (0, u "()V"), (0, .integer 65535), (9, .fieldref 18 19), (0, .class_ 20), (0, .nameAndType 21 22), (0, u "murmuration/Contact"), (0, u "address"), (0, u "I"), (0, .fieldref 18 24), (0, .nameAndType 25 22), (0, u "port"), (23, u "(II)V"), (25, u "()I"), (100, .class_ 177), (0, u "java/lang/Comparable"), (0, u "BYTES"), (22, u "hashCode")] 48

def k4c0 : Code := { maxStack := 3, maxLocals := 3, code := prog_7_method_1_code, exceptionTable := #[], attributes := #[] }
def k4m0 : Method := { name := "<init>", desc := "(II)V", sig := { parameters := [.int, .int], returnType := none }, accessFlags := 1, code := some k4c0 }
def k4c1 : Code := { maxStack := 2, maxLocals := 1, code := prog_7_method_10_code, exceptionTable := #[], attributes := #[] }
def k4m1 : Method := { name := "hashCode", desc := "()I", sig := { parameters := [], returnType := some .int }, accessFlags := 1, code := some k4c1 }
/-- murmuration/Contact -/
def k4 : Class := { plain "murmuration/Contact" (some 2) with
  accessFlags := 49
  interfaces := #[3]
  cf := some (fileOf pool4 18 #[] #[{ accessFlags := 1, nameIndex := 5, descriptorIndex := 49, attributes := #[] }, { accessFlags := 1, nameIndex := 201, descriptorIndex := 75, attributes := #[] }] 49 2 #[176] #[{ accessFlags := 18, nameIndex := 21, descriptorIndex := 22, attributes := #[] }, { accessFlags := 18, nameIndex := 25, descriptorIndex := 22, attributes := #[] }, { accessFlags := 25, nameIndex := 178, descriptorIndex := 22, attributes := #[] }])
  fields := #[{ name := "address", type := .int, accessFlags := 18, slot := 0, constantValue := 0 }, { name := "port", type := .int, accessFlags := 18, slot := 1, constantValue := 0 }, { name := "BYTES", type := .int, accessFlags := 25, slot := 0, constantValue := 0 }]
  methods := #[k4m0, k4m1]
  instanceTypes := #[.int, .int]
  staticTypes := #[.int]
  resolved := Array.replicate 250 none
  statics := none }

def pool5 : Array CpInfo := pool [(1, u "java/lang/Cloneable"), (0, .class_ 1), (0, u "java/lang/Object"), (0, .class_ 3)] 3

/-- java/lang/Cloneable -/
def k5 : Class := { plain "java/lang/Cloneable" (some 0) with
  accessFlags := 1537
  interfaces := #[]
  cf := some (fileOf pool5 2 #[] #[] 1537 4 #[] #[])
  fields := #[]
  methods := #[]
  instanceTypes := #[]
  staticTypes := #[]
  resolved := Array.replicate 8 none
  statics := none }

def pool6 : Array CpInfo := pool [(1, u "java/io/Serializable"), (0, .class_ 1), (0, u "java/lang/Object"), (0, .class_ 3)] 3

/-- java/io/Serializable -/
def k6 : Class := { plain "java/io/Serializable" (some 0) with
  accessFlags := 1537
  interfaces := #[]
  cf := some (fileOf pool6 2 #[] #[] 1537 4 #[] #[])
  fields := #[]
  methods := #[]
  instanceTypes := #[]
  staticTypes := #[]
  resolved := Array.replicate 8 none
  statics := none }

/-- the primitive byte -/
def k7 : Class := { plain "byte" none with kind := .primitive 'B', accessFlags := 0x411 }
/-- [B -/
def k8 : Class := { plain "[B" (some 0) with kind := .array 7 .byte, interfaces := #[5, 6], accessFlags := 1041 }

/-- the primitive int -/
def k9 : Class := { plain "int" none with kind := .primitive 'I', accessFlags := 0x411 }
/-- [I -/
def k10 : Class := { plain "[I" (some 0) with kind := .array 9 .int, interfaces := #[5, 6], accessFlags := 1041 }

def heap : Heap := #[]
def classes : Array Class := #[k0, k1, k2, k3, k4, k5, k6, k7, k8, k9, k10]
def interned : List (Array UInt16 × Addr) := []
def slotsUsed : Nat := 0
def theMethod : MethodId := ⟨1, 1⟩
def args0 : Array Value := #[.int 5, .int 3, .int 2, .int 1]
def aboutOver (below : List Frame) : State where
  vm := { classes := classes, interned := interned.toArray }
  heap := heap
  slotsUsed := slotsUsed
  threads := #[{ frames := .invoking theMethod args0 :: below }]
def below0 : List Frame := [.native { method := ⟨0, 0⟩, args := #[] }]
def about1 : State := aboutOver below0
def p0 : Program := .bare "" "" ""
def e0 : Env := launch0.env 0 0 0
theorem w_frames : about1.frames = Frame.invoking theMethod args0 :: below0 := rfl
set_option maxRecDepth 65536 in
theorem w_args : argsFit about1.vm theMethod args0 = true := by decide +kernel
set_option maxRecDepth 65536 in
theorem w_heap : heapFits about1 = true := by decide +kernel
set_option maxRecDepth 65536 in
theorem w_runnable : about1.curStatus? = some .runnable := by decide +kernel
set_option maxRecDepth 65536 in
theorem w_alone : about1.alone = true := by decide +kernel
set_option maxRecDepth 65536 in
theorem w_named : about1.methodNamed? x = some theMethod := by decide +kernel
set_option maxRecDepth 65536 in
theorem w_hears : about1.hears theMethod below0 = true := by decide +kernel
set_option maxRecDepth 65536 in
theorem w_ripe : about1.ripe theMethod args0 below0 = true := by decide +kernel
theorem w_running : about1.status = .running := rfl
set_option maxRecDepth 65536 in
theorem w_room : about1.hasRoom e0.platform room_1 = true :=
  launch0.hasRoom_least _ room_1 (by decide +kernel) (by decide +kernel) (by decide +kernel) (by decide +kernel) (by decide +kernel) (by decide +kernel)
theorem allAtoms_all (ts : List Jvm.Cond) (a : Array Jvm.Value) (st : Jvm.State) : (allAtoms ts).before a st = ts.all (fun c => c.before a st) := by
  induction ts with
  | nil => rfl
  | cons c t ih =>
    show (Jvm.Cond.and c (allAtoms t)).before a st = _
    rw [Jvm.Cond.before_and, ih, List.all_cons]
def words1 : List Jvm.Cond := Jvm.Cond.code x code maxLocals ret :: tables_1
/-- a 'code' word, met by the world's own term for the bytes: nothing is compared byte by byte -/
theorem code_word {y : MethodName} {bytes : ByteArray} {mx : Nat} {rt : Option FieldType} {a : Array Value} {s : State} {m : MethodId} {meth : Method} {c : Code} (h1 : s.methodNamed? y = some m) (h2 : s.vm.method? m = some meth) (h3 : meth.code = some c) (h4 : c.code = bytes)
    (h5 : (c.maxLocals == mx && c.exceptionTable.isEmpty && decide (c.maxStack ≤ mostOperands) && decide (meth.sig.returnType = rt) && !meth.locks && decide (parseMethodDescriptor y.desc = some meth.sig)) = true) : (Jvm.Cond.code y bytes mx rt).before a s = true := by
  simp only [Bool.and_eq_true, beq_iff_eq, Bool.not_eq_true', decide_eq_true_eq] at h5
  obtain ⟨⟨⟨⟨⟨g1, g2⟩, g3⟩, g4⟩, g5⟩, g6⟩ := h5
  simp [Cond.before, Cond.holds, Cond.value, h1, h2, h3, h4, g1, g2, g3, g4, g5, g6]
def isCode : Jvm.Cond → Bool
  | .code _ _ _ _ => true
  | _ => false
theorem all_split {L : List Jvm.Cond} {P : Jvm.Cond → Bool} (h1 : L.all (fun c => isCode c || P c) = true) (h2 : ∀ c ∈ L.filter isCode, P c = true) : L.all P = true := by
  refine List.all_eq_true.mpr fun c hc => ?_
  have h := List.all_eq_true.mp h1 c hc
  rcases Bool.eq_false_or_eq_true (isCode c) with hi | hi
  · exact h2 c (List.mem_filter.mpr ⟨hc, hi⟩)
  · simpa [hi] using h
set_option maxRecDepth 65536 in
theorem w_c0 : (Jvm.Cond.code x code maxLocals ret).before args0 about1 = true := code_word (m := ⟨1, 1⟩) (meth := k1m1) (c := k1c1) (by decide +kernel) rfl rfl rfl (by decide +kernel)
set_option maxRecDepth 65536 in
theorem w_c1 : (Jvm.Cond.code ({ cls := "murmuration/Contact", name := "<init>", desc := "(II)V" } : Jvm.MethodName) prog_7_method_1_code (3 : Nat) (Option.none : Option Jvm.ClassFile.FieldType)).before args0 about1 = true := code_word (m := ⟨4, 0⟩) (meth := k4m0) (c := k4c0) (by decide +kernel) rfl rfl rfl (by decide +kernel)
set_option maxRecDepth 65536 in
theorem w_c2 : (Jvm.Cond.code ({ cls := "java/lang/Record", name := "<init>", desc := "()V" } : Jvm.MethodName) jdk_30_method_1_code (1 : Nat) (Option.none : Option Jvm.ClassFile.FieldType)).before args0 about1 = true := code_word (m := ⟨2, 0⟩) (meth := k2m0) (c := k2c0) (by decide +kernel) rfl rfl rfl (by decide +kernel)
set_option maxRecDepth 65536 in
theorem w_c3 : (Jvm.Cond.code ({ cls := "java/lang/Object", name := "<init>", desc := "()V" } : Jvm.MethodName) object_method_1_code (1 : Nat) (Option.none : Option Jvm.ClassFile.FieldType)).before args0 about1 = true := code_word (m := ⟨0, 0⟩) (meth := k0m0) (c := k0c0) (by decide +kernel) rfl rfl rfl (by decide +kernel)
set_option maxRecDepth 65536 in
theorem w_c4 : (Jvm.Cond.code ({ cls := "murmuration/Contact", name := "hashCode", desc := "()I" } : Jvm.MethodName) prog_7_method_10_code (1 : Nat) (Option.some Jvm.ClassFile.FieldType.int)).before args0 about1 = true := code_word (m := ⟨4, 1⟩) (meth := k4m1) (c := k4c1) (by decide +kernel) rfl rfl rfl (by decide +kernel)
def codes1 : List Jvm.Cond := [Jvm.Cond.code x code maxLocals ret, Jvm.Cond.code ({ cls := "murmuration/Contact", name := "<init>", desc := "(II)V" } : Jvm.MethodName) prog_7_method_1_code (3 : Nat) (Option.none : Option Jvm.ClassFile.FieldType), Jvm.Cond.code ({ cls := "java/lang/Record", name := "<init>", desc := "()V" } : Jvm.MethodName) jdk_30_method_1_code (1 : Nat) (Option.none : Option Jvm.ClassFile.FieldType), Jvm.Cond.code ({ cls := "java/lang/Object", name := "<init>", desc := "()V" } : Jvm.MethodName) object_method_1_code (1 : Nat) (Option.none : Option Jvm.ClassFile.FieldType), Jvm.Cond.code ({ cls := "murmuration/Contact", name := "hashCode", desc := "()I" } : Jvm.MethodName) prog_7_method_10_code (1 : Nat) (Option.some Jvm.ClassFile.FieldType.int)]
set_option maxRecDepth 65536 in
theorem codes_eq : words1.filter isCode = codes1 := rfl
theorem w_codes : ∀ c ∈ words1.filter isCode, c.before args0 about1 = true := by
  rw [codes_eq]
  intro c hc
  simp only [codes1, List.mem_cons, List.not_mem_nil, or_false] at hc
  rcases hc with rfl | rfl | rfl | rfl | rfl
  · exact w_c0
  · exact w_c1
  · exact w_c2
  · exact w_c3
  · exact w_c4
set_option maxRecDepth 65536 in
theorem w_t1 : (words1.take 24).all (fun c => isCode c || c.before args0 about1) = true := by decide +kernel
set_option maxRecDepth 65536 in
theorem w_t2 : (words1.drop 24).all (fun c => isCode c || c.before args0 about1) = true := by decide +kernel
theorem w_tables : (allAtoms (Jvm.Cond.code x code maxLocals ret :: tables_1)).before args0 about1 = true := by
  rw [allAtoms_all]
  show words1.all (fun c => c.before args0 about1) = true
  refine all_split ?_ w_codes
  rw [← List.take_append_drop 24 words1, List.all_append, w_t1, w_t2]
  rfl
set_option maxRecDepth 65536 in
theorem w_case : (Jvm.Cond.and given_1 narrow_1).before args0 about1 = true := by decide +kernel
theorem w_applies : (headSpec (Jvm.Cond.code x code maxLocals ret :: tables_1) room_1).applies x e0.platform about1 = true :=
  (Spec.applies_iff w_frames).mpr ⟨w_running, w_runnable, w_alone, w_named, w_hears, w_ripe, w_room, w_tables⟩
theorem atStart : AtStart classFile x code maxLocals ret World_1 tables_1 room_1 Calls_1 rest_1 Pre_1 launch0 p0 e0 about1 theMethod args0 below0 :=
  ⟨lists_1, trivial, launch0.admits_env _ _ _, launch0.least_env, fairChoices_fair.cas, fairChoices_fair.clock, w_frames, w_args, w_heap, w_applies, trivial, trivial, w_case⟩
end start1
theorem witness_1 : WitnessClaimed_1 := ⟨start1.p0, start1.e0, start1.about1, start1.theMethod, start1.args0, start1.below0, start1.atStart⟩
end Jvm.Pilot.@@N@@
