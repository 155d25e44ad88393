import JvmDerived
import JvmDerived.Pilot.@@N@@Statement
import JvmDerived.Pilot.@@N@@Code
set_option linter.unusedVariables false
set_option linter.unusedSimpArgs false
namespace Jvm.Pilot.@@N@@
open Jvm Jvm.ClassFile Sem Op Lib Jvm.Free Jvm.Stand Jvm.LawKit Jvm.RoadKit Bundle Jvm.Pilot.@@N@@.Jvm.D
section Own
variable {p : Program} {l : Launch} {e : Env} {R : Room} {s : State} {m : MethodId} {args : Array Value} {below : List Frame} {meth : Method} {c : Code} {T : State} {locs : List Loc} {cells slots : Nat} {Z : State} {h h' : Heap}
def Run (p : Program) (e : Env) (below : List Frame) (s : State) (C N : Nat) (Q : Option Value → Heap → List Loc → Prop) (S : State) : Prop :=
  ∃ s₂ o, Steps p.tables e below S s₂ ∧ s₂.status = .running ∧ Ended s₂ below o ∧ ∃ v L, o = .returned v ∧ Q v s₂.heap L ∧ FrameEnd s o s₂ L C N
variable {C N : Nat} {Q : Option Value → Heap → List Loc → Prop} {S S' : State}
theorem Run.go (k : ∀ t, Steps p.tables e below S' t → Steps p.tables e below S t) (r : Run p e below s C N Q S') : Run p e below s C N Q S := by
  obtain ⟨s₂, o, h1, r⟩ := r
  exact ⟨s₂, o, k _ h1, r⟩
theorem Run.tr (k : Steps p.tables e below S S') (r : Run p e below s C N Q S') : Run p e below s C N Q S := by
  obtain ⟨s₂, o, h1, r⟩ := r
  exact ⟨s₂, o, k.trans h1, r⟩
theorem Run.retI (X : Stand p l e R s m args below meth c T locs cells slots) (hx : p.tables.exec = Jvm.exec) {pc : Nat} {Ls : Array Slot} {z : Int32} {rest : List Value} (hret : meth.sig.returnType = some .int) (hlk : meth.locks = false) (hd : decode c.code pc = .ok (.ireturn, 1)) (hc : cells ≤ C) (hn : slots ≤ N)
    (hQ : Q (some (.int z)) T.heap locs) : Run p e below s C N Q (T.setTop (mkF m pc Ls (.int z :: rest))) := by
  obtain ⟨fs, hr, hrun, hended, hW, hsame⟩ := X.leave (v := some (.int z)) (fun q => by rw [hret] at q; cases q)
  refine ⟨_, _, ?_, hrun, hended, _, _, rfl, hQ, ⟨_, rfl⟩, hW, hsame.mono hc hn⟩
  have hm' : T.vm.method? m = some meth := X.method'
  have hn : narrow .int (.int z) = .int z := rfl
  show Steps p.tables e below (T.setTop { method := m, pc := pc, locals := Ls, stack := _ :: rest, locked := none }) _
  jvm_step X.here [X.here.top, hx, hd, hm', hret, hn]
  first | (intro acts; rw [hr _ acts rfl rfl rfl]) | rw [hr _ _ rfl rfl rfl]
  exact Steps.refl _
theorem Run.retN (X : Stand p l e R s m args below meth c T locs cells slots) (hx : p.tables.exec = Jvm.exec) {pc : Nat} {Ls : Array Slot} {z y : Int32} {t : FieldType} {rest : List Value} (hret : meth.sig.returnType = some t) (ht : t = .boolean ∨ t = .byte ∨ t = .char ∨ t = .short) (hy : nar t z = y) (hlk : meth.locks = false) (hd : decode c.code pc = .ok (.ireturn, 1)) (hc : cells ≤ C) (hn : slots ≤ N)
    (hQ : Q (some (.int y)) T.heap locs) : Run p e below s C N Q (T.setTop (mkF m pc Ls (.int z :: rest))) := by
  subst hy
  obtain ⟨fs, hr, hrun, hended, hW, hsame⟩ := X.leave (v := some (.int (nar t z))) (fun q => by rw [hret] at q; cases q)
  exact ⟨_, _, Jvm.RoadKit.retN X hx hret ht hd hr, hrun, hended, _, _, rfl, hQ, ⟨_, rfl⟩, hW, hsame.mono hc hn⟩
theorem Run.retJ (X : Stand p l e R s m args below meth c T locs cells slots) (hx : p.tables.exec = Jvm.exec) {pc : Nat} {Ls : Array Slot} {z : Int64} {rest : List Value} (hret : meth.sig.returnType = some .long) (hlk : meth.locks = false) (hd : decode c.code pc = .ok (.lreturn, 1)) (hc : cells ≤ C) (hn : slots ≤ N)
    (hQ : Q (some (.long z)) T.heap locs) : Run p e below s C N Q (T.setTop (mkF m pc Ls (.long z :: rest))) := by
  obtain ⟨fs, hr, hrun, hended, hW, hsame⟩ := X.leave (v := some (.long z)) (fun q => by rw [hret] at q; cases q)
  refine ⟨_, _, ?_, hrun, hended, _, _, rfl, hQ, ⟨_, rfl⟩, hW, hsame.mono hc hn⟩
  have hm' : T.vm.method? m = some meth := X.method'
  show Steps p.tables e below (T.setTop { method := m, pc := pc, locals := Ls, stack := _ :: rest, locked := none }) _
  jvm_step X.here [X.here.top, hx, hd, hm', hret, narrow]
  first | (intro acts; rw [hr _ acts rfl rfl rfl]) | rw [hr _ _ rfl rfl rfl]
  exact Steps.refl _
theorem Run.retA (X : Stand p l e R s m args below meth c T locs cells slots) (hx : p.tables.exec = Jvm.exec) {pc : Nat} {Ls : Array Slot} {w : Value} {t : FieldType} {rest : List Value} (hw : w.isRef = true) (hret : meth.sig.returnType = some t) (ht : t.isReference = true) (hlk : meth.locks = false) (hd : decode c.code pc = .ok (.areturn, 1)) (hc : cells ≤ C) (hn : slots ≤ N)
    (hQ : Q (some w) T.heap locs) : Run p e below s C N Q (T.setTop (mkF m pc Ls (w :: rest))) := by
  obtain ⟨fs, hr, hrun, hended, hW, hsame⟩ := X.leave (v := some w) (fun q => by rw [hret] at q; cases q)
  refine ⟨_, _, ?_, hrun, hended, _, _, rfl, hQ, ⟨_, rfl⟩, hW, hsame.mono hc hn⟩
  have hm' : T.vm.method? m = some meth := X.method'
  show Steps p.tables e below (T.setTop { method := m, pc := pc, locals := Ls, stack := _ :: rest, locked := none }) _
  rcases ref_cases hw with rfl | ⟨a, rfl⟩
  all_goals
    jvm_step X.here [X.here.top, hx, hd, hm', hret, Value.isRef, ht]
    first | (intro acts; rw [hr _ acts rfl rfl rfl]) | rw [hr _ _ rfl rfl rfl]
    exact Steps.refl _
theorem Run.ret0 (X : Stand p l e R s m args below meth c T locs cells slots) (hx : p.tables.exec = Jvm.exec) {pc : Nat} {Ls : Array Slot} (hret : meth.sig.returnType = none) (hlk : meth.locks = false) (hd : decode c.code pc = .ok (.return_, 1)) (hc : cells ≤ C) (hn : slots ≤ N)
    (hQ : Q none T.heap locs) : Run p e below s C N Q (T.setTop (mkF m pc Ls [])) := by
  obtain ⟨fs, hr, hrun, hended, hW, hsame⟩ := X.leave (v := none) (fun _ => rfl)
  exact ⟨_, _, X.returnOut hx hret hd hr, hrun, hended, _, _, rfl, hQ, ⟨_, rfl⟩, hW, hsame.mono hc hn⟩
theorem Sta.keep {C n d : String} {w : Value} {ws : List Addr} (F : Sta Z h C n d w) (K : Keep h h' ws) (q : ∀ x ∈ ws, ∀ c : Cell, h[x]? = some c → c.vm.isStatics = false) : Sta Z h' C n d w := by
  obtain ⟨cf, i, k, f, st, cell, h1, h2, h3, h4, h5, h6, h7⟩ := F
  refine ⟨cf, i, k, f, st, cell, h1, h2, h3, h4, K.2.1 st cell h5 (fun hm => ?_), h6, h7⟩
  rw [q st hm cell h5] at h6; cases h6
theorem Exa.nst {a : Addr} {C : String} (F : Exa Z h a C) : ∀ c : Cell, h[a]? = some c → c.vm.isStatics = false := fun c q => by
  obtain ⟨cell, k, h1, -, -, h4, -⟩ := F
  cases h1.symm.trans q; exact h4
/-- an array of n elements, the i-th is f i -/
def Ary (Z : State) (h : Heap) (a : Addr) (ty : FieldType) (n : Nat) (f : Nat → Value) : Prop := ∃ c : Cell, Arr Z h a c ty ∧ c.slots.size = n ∧ ∀ i, i < n → c.slots[i]? = some (f i)
variable {a b : Addr} {ty : FieldType} {n sl : Nat} {f : Nat → Value} {v : Value} {ws : List Addr}
theorem Ary.lt (F : Ary Z h a ty n f) : a < h.size := by obtain ⟨c, A, -⟩ := F; exact A.lt
theorem Ary.ext (F : Ary Z h a ty n f) (E : Ext h h') : Ary Z h' a ty n f := by obtain ⟨c, A, r⟩ := F; exact ⟨c, A.ext E, r⟩
theorem Ary.other (F : Ary Z h b ty n f) (W : Wr h h' a sl v) (q : b ≠ a) : Ary Z h' b ty n f := by obtain ⟨c, A, r⟩ := F; exact ⟨c, A.other W q, r⟩
theorem Ary.keep (F : Ary Z h a ty n f) (K : Keep h h' ws) (q : a ∉ ws) : Ary Z h' a ty n f := by obtain ⟨c, A, r⟩ := F; exact ⟨c, ⟨K.2.1 a c A.1 q, A.2⟩, r⟩
theorem Ary.ne {C : String} {a0 : Array Value} {k : Nat} (F : Ary Z h a ty n f) (G : Exa Z h b C) (wi : (Jvm.Cond.instantiable C k).before a0 Z = true) : a ≠ b := by
  obtain ⟨c, A, r⟩ := F; exact (ne_arr G wi A).symm
theorem Ary.same (F : Ary Z h a ty n f) (W : Wr h h' a sl v) : Ary Z h' a ty n (fun i => if i = sl then v else f i) := by
  obtain ⟨c, A, hs, hf⟩ := F
  obtain ⟨c1, q1, q2, q3, q4⟩ := W
  obtain rfl := Option.some.inj (q1.symm.trans A.1)
  refine ⟨c1.setSlot sl v, A.same ⟨c1, q1, q2, q3, q4⟩, by simp [Cell.setSlot, hs], fun i hi => ?_⟩
  by_cases e : i = sl
  · subst e; simp [Cell.setSlot, q3]
  · simp only [if_neg e]; rw [← hf i hi]; exact Array.getElem?_setIfInBounds_ne (Ne.symm e)
theorem Ary.nst (F : Ary Z h a ty n f) : ∀ c : Cell, h[a]? = some c → c.vm.isStatics = false := fun c q => by
  obtain ⟨cl, A, -⟩ := F
  cases A.1.symm.trans q; exact A.plain
theorem Ary.congr {g : Nat → Value} (F : Ary Z h a ty n f) (q : ∀ i, i < n → f i = g i) : Ary Z h a ty n g := by
  obtain ⟨c, A, hs, hf⟩ := F; exact ⟨c, A, hs, fun i hi => by rw [hf i hi, q i hi]⟩
theorem Ary.new {k : ClassId} {z : Int32} (A : Arr Z h a (newA k ty z) ty) (q : z.toNatClampNeg = n) : Ary Z h a ty n (fun _ => defaultValue ty) := by
  subst q
  exact ⟨_, A, sz_new _ _ _, fun i hi => by simp [newA, hi]⟩
theorem out_of {j : Int32} {c : Cell} (hs : c.slots.size = n) (h0 : ¬ j < 0) (hj : j.toNatClampNeg < n) : ¬ (j < 0 ∨ c.slots.size ≤ j.toNatClampNeg) := by
  rw [hs]; exact fun q => q.elim h0 (fun q => absurd hj (Nat.not_lt.mpr q))
/-- an array of references: besides, its class is that of arrays over C -/
def ArR (Z : State) (h : Heap) (a : Addr) (C : String) (n : Nat) (f : Nat → Value) : Prop := ∃ c : Cell, Arr Z h a c (.object C) ∧ Ovr Z c.cls C ∧ c.slots.size = n ∧ ∀ i, i < n → c.slots[i]? = some (f i)
variable {K : String}
theorem ArR.lt (F : ArR Z h a K n f) : a < h.size := by obtain ⟨c, A, -⟩ := F; exact A.lt
theorem ArR.ext (F : ArR Z h a K n f) (E : Ext h h') : ArR Z h' a K n f := by obtain ⟨c, A, r⟩ := F; exact ⟨c, A.ext E, r⟩
theorem ArR.other (F : ArR Z h b K n f) (W : Wr h h' a sl v) (q : b ≠ a) : ArR Z h' b K n f := by obtain ⟨c, A, r⟩ := F; exact ⟨c, A.other W q, r⟩
theorem ArR.keep (F : ArR Z h a K n f) (k : Keep h h' ws) (q : a ∉ ws) : ArR Z h' a K n f := by obtain ⟨c, A, r⟩ := F; exact ⟨c, ⟨k.2.1 a c A.1 q, A.2⟩, r⟩
theorem ArR.ary (F : ArR Z h a K n f) : Ary Z h a (.object K) n f := by obtain ⟨c, A, -, r⟩ := F; exact ⟨c, A, r⟩
theorem ArR.same (F : ArR Z h a K n f) (W : Wr h h' a sl v) : ArR Z h' a K n (fun i => if i = sl then v else f i) := by
  obtain ⟨c, A, o, hs, hf⟩ := F
  obtain ⟨c1, q1, q2, q3, q4⟩ := W
  obtain rfl := Option.some.inj (q1.symm.trans A.1)
  refine ⟨c1.setSlot sl v, A.same ⟨c1, q1, q2, q3, q4⟩, o, by simp [Cell.setSlot, hs], fun i hi => ?_⟩
  by_cases e : i = sl
  · subst e; simp [Cell.setSlot, q3]
  · simp only [if_neg e]; rw [← hf i hi]; exact Array.getElem?_setIfInBounds_ne (Ne.symm e)
theorem ArR.new {k : ClassId} {z : Int32} (A : Arr Z h a (newA k (.object K) z) (.object K)) (O : Ovr Z k K) (q : z.toNatClampNeg = n) : ArR Z h a K n (fun _ => .null) := by
  subst q
  exact ⟨_, A, O, sz_new _ _ _, fun i hi => by simp [newA, hi]; rfl⟩
section Arrays
theorem ary_iget (X : Stand p l e R s m args below meth c T locs cells slots) (hx : p.tables.exec = Jvm.exec) (hZ : Z.Warmed39 s.vm) (eT : T.heap = h) (A : Ary Z h a .int n f) {j : Int32} (h0 : ¬ j < 0) (hj : j.toNatClampNeg < n) {g : JFrame} (hg : g.method = m) {rest : List Value} (hs : g.stack = .int j :: .ref a :: rest) (hd : decode c.code g.pc = .ok (.iaload, 1)) {v : Value} (hv : f j.toNatClampNeg = v) (target : State)
    (k : Steps p.tables e below (T.setTop { g with pc := g.pc + 1, stack := v :: rest }) target) : Steps p.tables e below (T.setTop g) target := by
  subst hv; obtain ⟨cl, A, q, F⟩ := A
  exact X.iaload hx (by rw [eT]; exact A.1) (State.isArrayOf_alike hZ.alike A.2.1) A.2.2 (out_of q h0 hj) (F _ hj) hg hs hd target k
theorem ary_lget (X : Stand p l e R s m args below meth c T locs cells slots) (hx : p.tables.exec = Jvm.exec) (hZ : Z.Warmed39 s.vm) (eT : T.heap = h) (A : Ary Z h a .long n f) {j : Int32} (h0 : ¬ j < 0) (hj : j.toNatClampNeg < n) {g : JFrame} (hg : g.method = m) {rest : List Value} (hs : g.stack = .int j :: .ref a :: rest) (hd : decode c.code g.pc = .ok (.laload, 1)) {v : Value} (hv : f j.toNatClampNeg = v) (target : State)
    (k : Steps p.tables e below (T.setTop { g with pc := g.pc + 1, stack := v :: rest }) target) : Steps p.tables e below (T.setTop g) target := by
  subst hv; obtain ⟨cl, A, q, F⟩ := A
  exact X.laload hx (by rw [eT]; exact A.1) (State.isArrayOf_alike hZ.alike A.2.1) A.2.2 (out_of q h0 hj) (F _ hj) hg hs hd target k
theorem ary_bget (X : Stand p l e R s m args below meth c T locs cells slots) (hx : p.tables.exec = Jvm.exec) (hZ : Z.Warmed39 s.vm) (eT : T.heap = h) (A : Ary Z h a .byte n f) {j : Int32} (h0 : ¬ j < 0) (hj : j.toNatClampNeg < n) {g : JFrame} (hg : g.method = m) {rest : List Value} (hs : g.stack = .int j :: .ref a :: rest) (hd : decode c.code g.pc = .ok (.baload, 1)) {v : Value} (hv : f j.toNatClampNeg = v) (target : State)
    (k : Steps p.tables e below (T.setTop { g with pc := g.pc + 1, stack := v :: rest }) target) : Steps p.tables e below (T.setTop g) target := by
  subst hv; obtain ⟨cl, A, q, F⟩ := A
  exact X.baloadBytes hx (by rw [eT]; exact A.1) (State.isArrayOf_alike hZ.alike A.2.1) A.2.2 (out_of q h0 hj) (F _ hj) hg hs hd target k
theorem ary_cget (X : Stand p l e R s m args below meth c T locs cells slots) (hx : p.tables.exec = Jvm.exec) (hZ : Z.Warmed39 s.vm) (eT : T.heap = h) (A : Ary Z h a .char n f) {j : Int32} (h0 : ¬ j < 0) (hj : j.toNatClampNeg < n) {g : JFrame} (hg : g.method = m) {rest : List Value} (hs : g.stack = .int j :: .ref a :: rest) (hd : decode c.code g.pc = .ok (.caload, 1)) {v : Value} (hv : f j.toNatClampNeg = v) (target : State)
    (k : Steps p.tables e below (T.setTop { g with pc := g.pc + 1, stack := v :: rest }) target) : Steps p.tables e below (T.setTop g) target := by
  subst hv; obtain ⟨cl, A, q, F⟩ := A
  exact X.caload hx (by rw [eT]; exact A.1) (State.isArrayOf_alike hZ.alike A.2.1) A.2.2 (out_of q h0 hj) (F _ hj) hg hs hd target k
theorem ary_aget (X : Stand p l e R s m args below meth c T locs cells slots) (hx : p.tables.exec = Jvm.exec) (hZ : Z.Warmed39 s.vm) (eT : T.heap = h) (A : Ary Z h a ty n f) (hr : ty.isReference = true) {j : Int32} (h0 : ¬ j < 0) (hj : j.toNatClampNeg < n) {g : JFrame} (hg : g.method = m) {rest : List Value} (hs : g.stack = .int j :: .ref a :: rest) (hd : decode c.code g.pc = .ok (.aaload, 1)) {v : Value} (hv : f j.toNatClampNeg = v) (target : State)
    (k : Steps p.tables e below (T.setTop { g with pc := g.pc + 1, stack := v :: rest }) target) : Steps p.tables e below (T.setTop g) target := by
  subst hv; obtain ⟨cl, A, q, F⟩ := A
  exact X.aaload hx (by rw [eT]; exact A.1) (State.isArrayOf_alike hZ.alike A.2.1) hr A.2.2 (out_of q h0 hj) (F _ hj) hg hs hd target k
theorem ary_len (X : Stand p l e R s m args below meth c T locs cells slots) (hx : p.tables.exec = Jvm.exec) (hZ : Z.Warmed39 s.vm) (eT : T.heap = h) (A : Ary Z h a ty n f) {g : JFrame} (hg : g.method = m) {rest : List Value} (hs : g.stack = .ref a :: rest) (hd : decode c.code g.pc = .ok (.arraylength, 1)) {z : Int32} (hv : n.toInt32 = z) (target : State)
    (k : Steps p.tables e below (T.setTop { g with pc := g.pc + 1, stack := .int z :: rest }) target) : Steps p.tables e below (T.setTop g) target := by
  subst hv; obtain ⟨cl, A, q, F⟩ := A
  subst q
  exact X.arraylength hx (by rw [eT]; exact A.1) (State.isArrayOf_alike hZ.alike A.2.1) hg hs hd target k
theorem ary_iset (X : Stand p l e R s m args below meth c T locs cells slots) (hx : p.tables.exec = Jvm.exec) (hZ : Z.Warmed39 s.vm) (eT : T.heap = h) (A : Ary Z h a .int n f) {j x : Int32} (h0 : ¬ j < 0) (hj : j.toNatClampNeg < n) {g : JFrame} (hg : g.method = m) {rest : List Value} (hs : g.stack = .int x :: .int j :: .ref a :: rest) (hd : decode c.code g.pc = .ok (.iastore, 1)) :
    ∃ T' h', Stand p l e R s m args below meth c T' (locs ++ [⟨a, j.toNatClampNeg⟩]) cells slots ∧ T'.heap = h' ∧ Wr h h' a j.toNatClampNeg (.int x) ∧ ∀ target, Steps p.tables e below (T'.setTop { g with pc := g.pc + 1, stack := rest }) target → Steps p.tables e below (T.setTop g) target := by
  obtain ⟨cl, A, q, F⟩ := A
  exact stI X hx hZ eT A (out_of q h0 hj) hg hs hd
theorem ary_lset (X : Stand p l e R s m args below meth c T locs cells slots) (hx : p.tables.exec = Jvm.exec) (hZ : Z.Warmed39 s.vm) (eT : T.heap = h) (A : Ary Z h a .long n f) {j : Int32} {x : Int64} (h0 : ¬ j < 0) (hj : j.toNatClampNeg < n) {g : JFrame} (hg : g.method = m) {rest : List Value} (hs : g.stack = .long x :: .int j :: .ref a :: rest) (hd : decode c.code g.pc = .ok (.lastore, 1)) :
    ∃ T' h', Stand p l e R s m args below meth c T' (locs ++ [⟨a, j.toNatClampNeg⟩]) cells slots ∧ T'.heap = h' ∧ Wr h h' a j.toNatClampNeg (.long x) ∧ ∀ target, Steps p.tables e below (T'.setTop { g with pc := g.pc + 1, stack := rest }) target → Steps p.tables e below (T.setTop g) target := by
  obtain ⟨cl, A, q, F⟩ := A
  exact stJ X hx hZ eT A (out_of q h0 hj) hg hs hd
theorem ary_bset (X : Stand p l e R s m args below meth c T locs cells slots) (hx : p.tables.exec = Jvm.exec) (hZ : Z.Warmed39 s.vm) (eT : T.heap = h) (A : Ary Z h a .byte n f) {j x y : Int32} (h0 : ¬ j < 0) (hj : j.toNatClampNeg < n) {g : JFrame} (hg : g.method = m) {rest : List Value} (hs : g.stack = .int x :: .int j :: .ref a :: rest) (hd : decode c.code g.pc = .ok (.bastore, 1)) (hy : x.toInt8.toInt32 = y) :
    ∃ T' h', Stand p l e R s m args below meth c T' (locs ++ [⟨a, j.toNatClampNeg⟩]) cells slots ∧ T'.heap = h' ∧ Wr h h' a j.toNatClampNeg (.int y) ∧ ∀ target, Steps p.tables e below (T'.setTop { g with pc := g.pc + 1, stack := rest }) target → Steps p.tables e below (T.setTop g) target := by
  subst hy; obtain ⟨cl, A, q, F⟩ := A
  exact stB X hx hZ eT A (out_of q h0 hj) hg hs hd
theorem ary_cset (X : Stand p l e R s m args below meth c T locs cells slots) (hx : p.tables.exec = Jvm.exec) (hZ : Z.Warmed39 s.vm) (eT : T.heap = h) (A : Ary Z h a .char n f) {j x y : Int32} (h0 : ¬ j < 0) (hj : j.toNatClampNeg < n) {g : JFrame} (hg : g.method = m) {rest : List Value} (hs : g.stack = .int x :: .int j :: .ref a :: rest) (hd : decode c.code g.pc = .ok (.castore, 1)) (hy : nar .char x = y) :
    ∃ T' h', Stand p l e R s m args below meth c T' (locs ++ [⟨a, j.toNatClampNeg⟩]) cells slots ∧ T'.heap = h' ∧ Wr h h' a j.toNatClampNeg (.int y) ∧ ∀ target, Steps p.tables e below (T'.setTop { g with pc := g.pc + 1, stack := rest }) target → Steps p.tables e below (T.setTop g) target := by
  subst hy; obtain ⟨cl, A, q, F⟩ := A
  exact stC X hx hZ eT A (out_of q h0 hj) hg hs hd
theorem arr_set (X : Stand p l e R s m args below meth c T locs cells slots) (hx : p.tables.exec = Jvm.exec) (hZ : Z.Warmed39 s.vm) (eT : T.heap = h) (A : ArR Z h a K n f) {j : Int32} {y : Addr} (I : Ins Z h y K true) (h0 : ¬ j < 0) (hj : j.toNatClampNeg < n) {g : JFrame} (hg : g.method = m) {rest : List Value} (hs : g.stack = .ref y :: .int j :: .ref a :: rest) (hd : decode c.code g.pc = .ok (.aastore, 1)) :
    ∃ T' h', Stand p l e R s m args below meth c T' (locs ++ [⟨a, j.toNatClampNeg⟩]) cells slots ∧ T'.heap = h' ∧ Wr h h' a j.toNatClampNeg (.ref y) ∧ ∀ target, Steps p.tables e below (T'.setTop { g with pc := g.pc + 1, stack := rest }) target → Steps p.tables e below (T.setTop g) target := by
  obtain ⟨cl, A, O, q, F⟩ := A
  exact stR X hx hZ eT A (out_of q h0 hj) rfl (Sto.of A O I) hg hs hd
end Arrays
theorem nar_ite (P : Prop) [Decidable P] : nar .boolean (if P then (1 : Int32) else 0) = if P then 1 else 0 := by by_cases q : P <;> simp [q] <;> rfl
theorem b_idem (x : Int32) : x.toInt8.toInt32.toInt8.toInt32 = x.toInt8.toInt32 := by rw [Int8.toInt8_toInt32]
theorem isI_c (x : Int32) : ∀ n : Nat, ∃ y, (fun _ => Value.int x) n = Value.int y := fun _ => ⟨x, rfl⟩
theorem isI_s {f : Nat → Value} (q : ∀ n, ∃ y, f n = Value.int y) (k : Nat) (x : Int32) : ∀ n, ∃ y, (fun i => if i = k then Value.int x else f i) n = Value.int y := fun n => by
  by_cases e : n = k
  · exact ⟨x, if_pos e⟩
  · obtain ⟨y, hy⟩ := q n
    exact ⟨y, (if_neg e).trans hy⟩
end Own
theorem d1_0 : decode prog_43_method_1_code 0 = .ok (.aload_n 0, 1) := by decide +kernel
theorem d1_1 : decode prog_43_method_1_code 1 = .ok (.invokespecial 1, 3) := by decide +kernel
theorem d1_4 : decode prog_43_method_1_code 4 = .ok (.aload_n 0, 1) := by decide +kernel
theorem d1_5 : decode prog_43_method_1_code 5 = .ok (.iload_n 1, 1) := by decide +kernel
theorem d1_6 : decode prog_43_method_1_code 6 = .ok (.putfield 7, 3) := by decide +kernel
theorem d1_9 : decode prog_43_method_1_code 9 = .ok (.aload_n 0, 1) := by decide +kernel
theorem d1_10 : decode prog_43_method_1_code 10 = .ok (.aload_n 2, 1) := by decide +kernel
theorem d1_11 : decode prog_43_method_1_code 11 = .ok (.putfield 13, 3) := by decide +kernel
theorem d1_14 : decode prog_43_method_1_code 14 = .ok (.return_, 1) := by decide +kernel
def Q_rm1 (Z : State) (a1 : Addr) (p2 : Int32) (a3 : Addr) (u_predicate_a1 : Value) (u_terms_a1 : Value) (h0 : Heap) (n0 : Nat) (v : Option Value) (h : Heap) (L : List Loc) : Prop := v = none ∧ Fr n0 L ∧ Keep h0 h [a1] ∧ Exa Z h a1 "com/example/nestor/nestor/reasoning/Pattern" ∧ Fld Z h a1 "com/example/nestor/nestor/reasoning/Pattern" "predicate" "I" (.int p2) ∧ Fld Z h a1 "com/example/nestor/nestor/reasoning/Pattern" "terms" "[I" (.ref a3)
theorem ef_rm1 (m : MethodId) (x0 : Addr) (x1 : Int32) (x2 : Addr) : entryFrame m #[(.ref x0), (.int x1), (.ref x2)] 3 = mkF m 0 #[.val (.ref x0), .val (.int x1), .val (.ref x2)] [] := by first | (simp [entryFrame, mkF, argsToLocals, Value.category]; done) | rfl
theorem pn_0 : plainName "com/example/nestor/nestor/reasoning/Pattern" = true := by first | (simp [plainName, overriddenIn]; done) | decide +kernel
set_option maxRecDepth 65536 in
set_option maxHeartbeats 40000000 in
theorem rm1 (l : Launch) (Z : State) (a0 : Array Value) (hw : ∀ d ∈ tables_1, d.before a0 Z = true) (ws : List Jvm.Cond) (a1 : Addr) (p2 : Int32) (a3 : Addr) (u_predicate_a1 : Value) (u_terms_a1 : Value) (h0 : Heap) (n0 : Nat) (Z0 : n0 ≤ h0.size) (E_a1 : Exa Z h0 a1 "com/example/nestor/nestor/reasoning/Pattern") (F_predicate_a1 : Fld Z h0 a1 "com/example/nestor/nestor/reasoning/Pattern" "predicate" "I" u_predicate_a1) (g_a1 : n0 ≤ a1) (F_terms_a1 : Fld Z h0 a1 "com/example/nestor/nestor/reasoning/Pattern" "terms" "[I" u_terms_a1) :
    MetFree l (⟨"com/example/nestor/nestor/reasoning/Pattern", "<init>", "(I[I)V"⟩ : MethodName) (head1 (Jvm.Cond.code (⟨"com/example/nestor/nestor/reasoning/Pattern", "<init>", "(I[I)V"⟩ : MethodName) prog_43_method_1_code 3 none :: ws) ({ frames := 1, cells := 0, slots := 0, locals := 12 } : Room)) (fun a U => a = #[(.ref a1), (.int p2), (.ref a3)] ∧ Z.Warmed39 U.vm ∧ U.heap = h0) (fun _ _ _ _ _ => True) (fun _ U o U' => ∃ v L, o = .returned v ∧ Q_rm1 Z a1 p2 a3 u_predicate_a1 u_terms_a1 h0 n0 v U'.heap L ∧ FrameEnd U o U' L ({ frames := 1, cells := 0, slots := 0, locals := 12 } : Room).cells ({ frames := 1, cells := 0, slots := 0, locals := 12 } : Room).slots) := by
  refine MetFree.of_bodySF (plainFor_of_name pn_0) hisR ?_
  intro p e s m args below meth c s₁ Bd hml0 hP hK
  obtain ⟨rfl, hZ, hh⟩ := hP
  have hx := Bd.exec
  have hby := Bd.bytes
  have hml : c.maxLocals = 3 := hml0
  have hown : s.vm.findClass "com/example/nestor/nestor/reasoning/Pattern" = some m.cls := findClass_of_methodNamed Bd.named
  have hnm := (name_of_methodNamed Bd.named Bd.method).1
  have X0 : Stand p l e ({ frames := 1, cells := 0, slots := 0, locals := 12 } : Room) s m #[(.ref a1), (.int p2), (.ref a3)] below meth c s₁ [] 0 0 := Stand.of_body Bd
  have e0 : s₁.heap = h0 := by rw [← hh, Bd.state]; rfl
  have N0 := Fr.nil n0
  show Run p e below s 0 0 (Q_rm1 Z a1 p2 a3 u_predicate_a1 u_terms_a1 h0 n0) (s₁.setTop (entryFrame m #[(.ref a1), (.int p2), (.ref a3)] 3))
  refine Run.go (fun _ k => castTop (ef_rm1 m a1 p2 a3) k) ?_
  show Run p e below s 0 0 (Q_rm1 Z a1 p2 a3 u_predicate_a1 u_terms_a1 h0 n0) (s₁.setTop (mkF m 0 #[.val (.ref a1), .val (.int p2), .val (.ref a3)] []))
  refine Run.go (fun _ k => XS.aloadN X0.here hx rfl (hb hby d1_0) rfl rfl k) ?_
  show Run p e below s 0 0 (Q_rm1 Z a1 p2 a3 u_predicate_a1 u_terms_a1 h0 n0) (s₁.setTop (mkF m 1 #[.val (.ref a1), .val (.int p2), .val (.ref a3)] [(.ref a1)]))
  obtain ⟨T4, X4, e4, st4⟩ := initO X0 hx hZ hown (hw _ (List.mem_of_getElem? (i := 7) rfl)) (hw _ (List.mem_of_getElem? (i := 8) rfl)) (hw _ (List.mem_of_getElem? (i := 9) rfl)) e0 (g := (mkF m 1 #[.val (.ref a1), .val (.int p2), .val (.ref a3)] [(.ref a1)])) rfl (by rw [hml]; rfl) rfl (hb hby d1_1) (by decide) (W := 0) (by show 2 * 0 + _ ≤ _; exact Nat.le_of_eq rfl) (by decide)
  refine Run.go st4 ?_
  show Run p e below s 0 0 (Q_rm1 Z a1 p2 a3 u_predicate_a1 u_terms_a1 h0 n0) (T4.setTop (mkF m 4 #[.val (.ref a1), .val (.int p2), .val (.ref a3)] []))
  refine Run.go (fun _ k => XS.aloadN X4.here hx rfl (hb hby d1_4) rfl rfl k) ?_
  show Run p e below s 0 0 (Q_rm1 Z a1 p2 a3 u_predicate_a1 u_terms_a1 h0 n0) (T4.setTop (mkF m 5 #[.val (.ref a1), .val (.int p2), .val (.ref a3)] [(.ref a1)]))
  refine Run.go (fun _ k => XS.iloadN X4.here hx rfl (hb hby d1_5) rfl  k) ?_
  show Run p e below s 0 0 (Q_rm1 Z a1 p2 a3 u_predicate_a1 u_terms_a1 h0 n0) (T4.setTop (mkF m 6 #[.val (.ref a1), .val (.int p2), .val (.ref a3)] [(.int p2), (.ref a1)]))
  obtain ⟨T5, h5, X5, e5, W5, st5⟩ := putF X4 hx hZ hown (host := "") (Or.inl (hw _ (List.mem_of_getElem? (i := 10) rfl))) Via.refl e4 F_predicate_a1 E_a1 (Or.inr ⟨(hw _ (List.mem_of_getElem? (i := 11) rfl)), rfl, hnm⟩) (hw _ (List.mem_of_getElem? (i := 2) rfl)) (ty := .int) (by decide) rfl rfl (g := (mkF m 6 #[.val (.ref a1), .val (.int p2), .val (.ref a3)] [(.int p2), (.ref a1)])) rfl rfl (hb hby d1_6)
  have N5 := Fr.snoc X5 N0 g_a1
  have Z5 : n0 ≤ h5.size := Nat.le_trans Z0 (Keep.of_wr W5).1
  have K5 : Keep h0 h5 [a1] := (Keep.refl h0 [a1]).wr W5 (Or.inl (List.mem_of_getElem? (i := 0) rfl))
  have fx6 := F_predicate_a1.same W5
  refine Run.go st5 ?_
  show Run p e below s 0 0 (Q_rm1 Z a1 p2 a3 u_predicate_a1 u_terms_a1 h0 n0) (T5.setTop (mkF m 9 #[.val (.ref a1), .val (.int p2), .val (.ref a3)] []))
  refine Run.go (fun _ k => XS.aloadN X5.here hx rfl (hb hby d1_9) rfl rfl k) ?_
  show Run p e below s 0 0 (Q_rm1 Z a1 p2 a3 u_predicate_a1 u_terms_a1 h0 n0) (T5.setTop (mkF m 10 #[.val (.ref a1), .val (.int p2), .val (.ref a3)] [(.ref a1)]))
  refine Run.go (fun _ k => XS.aloadN X5.here hx rfl (hb hby d1_10) rfl rfl k) ?_
  show Run p e below s 0 0 (Q_rm1 Z a1 p2 a3 u_predicate_a1 u_terms_a1 h0 n0) (T5.setTop (mkF m 11 #[.val (.ref a1), .val (.int p2), .val (.ref a3)] [(.ref a3), (.ref a1)]))
  have fx7 := (E_a1.wr W5)
  have fx8 := (F_terms_a1.other W5 (Or.inr (slot_ne (Or.inr (hw _ (List.mem_of_getElem? (i := 13) rfl))) (Or.inr (hw _ (List.mem_of_getElem? (i := 11) rfl))) (by decide) (t := (.array .int)) (t' := .int) (by decide) (by decide))))
  obtain ⟨T9, h9, X9, e9, W9, st9⟩ := putF X5 hx hZ hown (host := "") (Or.inl (hw _ (List.mem_of_getElem? (i := 12) rfl))) Via.refl e5 fx8 fx7 (Or.inr ⟨(hw _ (List.mem_of_getElem? (i := 13) rfl)), rfl, hnm⟩) (hw _ (List.mem_of_getElem? (i := 2) rfl)) (ty := (.array .int)) (by decide) rfl rfl (g := (mkF m 11 #[.val (.ref a1), .val (.int p2), .val (.ref a3)] [(.ref a3), (.ref a1)])) rfl rfl (hb hby d1_11)
  have N9 := Fr.snoc X9 N5 g_a1
  have Z9 : n0 ≤ h9.size := Nat.le_trans Z5 (Keep.of_wr W9).1
  have K9 : Keep h0 h9 [a1] := K5.wr W9 (Or.inl (List.mem_of_getElem? (i := 0) rfl))
  have fx10 := fx8.same W9
  refine Run.go st9 ?_
  show Run p e below s 0 0 (Q_rm1 Z a1 p2 a3 u_predicate_a1 u_terms_a1 h0 n0) (T9.setTop (mkF m 14 #[.val (.ref a1), .val (.int p2), .val (.ref a3)] []))
  refine Run.ret0 X9 hx Bd.returns Bd.notSynchronized (hb hby d1_14) (by decide) (by decide) ?_
  show Q_rm1 Z a1 p2 a3 u_predicate_a1 u_terms_a1 h0 n0 _ T9.heap _
  have fx11 := (fx7.wr W9)
  have fx12 := (fx6.other W9 (Or.inr (slot_ne (Or.inr (hw _ (List.mem_of_getElem? (i := 11) rfl))) (Or.inr (hw _ (List.mem_of_getElem? (i := 13) rfl))) (by decide) (t := .int) (t' := (.array .int)) (by decide) (by decide))))
  rw [e9]
  exact ⟨rfl, N9, K9, fx11, fx12, fx10⟩
theorem d3_0 : decode prog_43_method_4_code 0 = .ok (.aload_n 0, 1) := by decide +kernel
theorem d3_1 : decode prog_43_method_4_code 1 = .ok (.getfield 13, 3) := by decide +kernel
theorem d3_4 : decode prog_43_method_4_code 4 = .ok (.astore_n 1, 1) := by decide +kernel
theorem d3_5 : decode prog_43_method_4_code 5 = .ok (.aload_n 1, 1) := by decide +kernel
theorem d3_6 : decode prog_43_method_4_code 6 = .ok (.arraylength, 1) := by decide +kernel
theorem d3_7 : decode prog_43_method_4_code 7 = .ok (.istore_n 2, 1) := by decide +kernel
theorem d3_8 : decode prog_43_method_4_code 8 = .ok (.iconst 0, 1) := by decide +kernel
theorem d3_9 : decode prog_43_method_4_code 9 = .ok (.istore_n 3, 1) := by decide +kernel
theorem d3_10 : decode prog_43_method_4_code 10 = .ok (.iload_n 3, 1) := by decide +kernel
theorem d3_11 : decode prog_43_method_4_code 11 = .ok (.iload_n 2, 1) := by decide +kernel
theorem d3_12 : decode prog_43_method_4_code 12 = .ok (.if_icmp .ge 21, 3) := by decide +kernel
theorem d3_33 : decode prog_43_method_4_code 33 = .ok (.iconst 1, 1) := by decide +kernel
theorem d3_34 : decode prog_43_method_4_code 34 = .ok (.ireturn, 1) := by decide +kernel
def Q_rm3_0 (Z : State) (a1 : Addr) (w2 : Addr) (f_w2 : Nat → Value) (h0 : Heap) (n0 : Nat) (v : Option Value) (h : Heap) (L : List Loc) : Prop := v = some (.int (1 : Int32)) ∧ Fr n0 L ∧ h = h0
theorem ef_rm3_0 (m : MethodId) (x0 : Addr) : entryFrame m #[(.ref x0)] 5 = mkF m 0 #[.val (.ref x0), .unset, .unset, .unset, .unset] [] := by first | (simp [entryFrame, mkF, argsToLocals, Value.category]; done) | rfl
set_option maxRecDepth 65536 in
set_option maxHeartbeats 40000000 in
theorem rm3_0 (l : Launch) (Z : State) (a0 : Array Value) (hw : ∀ d ∈ tables_1, d.before a0 Z = true) (ws : List Jvm.Cond) (a1 : Addr) (w2 : Addr) (f_w2 : Nat → Value) (h0 : Heap) (n0 : Nat) (Z0 : n0 ≤ h0.size) (F_terms_a1 : Fld Z h0 a1 "com/example/nestor/nestor/reasoning/Pattern" "terms" "[I" (.ref w2)) (A_w2 : Ary Z h0 w2 .int 0 f_w2) :
    MetFree l (⟨"com/example/nestor/nestor/reasoning/Pattern", "isGround", "()Z"⟩ : MethodName) (head1 (Jvm.Cond.code (⟨"com/example/nestor/nestor/reasoning/Pattern", "isGround", "()Z"⟩ : MethodName) prog_43_method_4_code 5 (some .boolean) :: ws) ({ frames := 0, cells := 0, slots := 0, locals := 0 } : Room)) (fun a U => a = #[(.ref a1)] ∧ Z.Warmed39 U.vm ∧ U.heap = h0) (fun _ _ _ _ _ => True) (fun _ U o U' => ∃ v L, o = .returned v ∧ Q_rm3_0 Z a1 w2 f_w2 h0 n0 v U'.heap L ∧ FrameEnd U o U' L ({ frames := 0, cells := 0, slots := 0, locals := 0 } : Room).cells ({ frames := 0, cells := 0, slots := 0, locals := 0 } : Room).slots) := by
  refine MetFree.of_bodySF (plainFor_of_name pn_0) hisR ?_
  intro p e s m args below meth c s₁ Bd hml0 hP hK
  obtain ⟨rfl, hZ, hh⟩ := hP
  have hx := Bd.exec
  have hby := Bd.bytes
  have hml : c.maxLocals = 5 := hml0
  have hown : s.vm.findClass "com/example/nestor/nestor/reasoning/Pattern" = some m.cls := findClass_of_methodNamed Bd.named
  have hnm := (name_of_methodNamed Bd.named Bd.method).1
  have X0 : Stand p l e ({ frames := 0, cells := 0, slots := 0, locals := 0 } : Room) s m #[(.ref a1)] below meth c s₁ [] 0 0 := Stand.of_body Bd
  have e0 : s₁.heap = h0 := by rw [← hh, Bd.state]; rfl
  have N0 := Fr.nil n0
  show Run p e below s 0 0 (Q_rm3_0 Z a1 w2 f_w2 h0 n0) (s₁.setTop (entryFrame m #[(.ref a1)] 5))
  refine Run.go (fun _ k => castTop (ef_rm3_0 m a1) k) ?_
  show Run p e below s 0 0 (Q_rm3_0 Z a1 w2 f_w2 h0 n0) (s₁.setTop (mkF m 0 #[.val (.ref a1), .unset, .unset, .unset, .unset] []))
  refine Run.go (fun _ k => XS.aloadN X0.here hx rfl (hb hby d3_0) rfl rfl k) ?_
  show Run p e below s 0 0 (Q_rm3_0 Z a1 w2 f_w2 h0 n0) (s₁.setTop (mkF m 1 #[.val (.ref a1), .unset, .unset, .unset, .unset] [(.ref a1)]))
  obtain ⟨T3, X3, e3, st3⟩ := getF X0 hx hZ hown (host := "") (Or.inl (hw _ (List.mem_of_getElem? (i := 12) rfl))) Via.refl e0 F_terms_a1 (g := (mkF m 1 #[.val (.ref a1), .unset, .unset, .unset, .unset] [(.ref a1)])) rfl rfl (hb hby d3_1)
  refine Run.go st3 ?_
  show Run p e below s 0 0 (Q_rm3_0 Z a1 w2 f_w2 h0 n0) (T3.setTop (mkF m 4 #[.val (.ref a1), .unset, .unset, .unset, .unset] [(.ref w2)]))
  refine Run.go (fun _ k => XS.astoreN X3.here hx rfl (hb hby d3_4) rfl rfl (l' := #[.val (.ref a1), .val (.ref w2), .unset, .unset, .unset]) rfl k) ?_
  show Run p e below s 0 0 (Q_rm3_0 Z a1 w2 f_w2 h0 n0) (T3.setTop (mkF m 5 #[.val (.ref a1), .val (.ref w2), .unset, .unset, .unset] []))
  refine Run.go (fun _ k => XS.aloadN X3.here hx rfl (hb hby d3_5) rfl rfl k) ?_
  show Run p e below s 0 0 (Q_rm3_0 Z a1 w2 f_w2 h0 n0) (T3.setTop (mkF m 6 #[.val (.ref a1), .val (.ref w2), .unset, .unset, .unset] [(.ref w2)]))
  refine Run.go (fun _ k => ary_len X3 hx hZ e3 A_w2 (g := (mkF m 6 #[.val (.ref a1), .val (.ref w2), .unset, .unset, .unset] [(.ref w2)])) rfl rfl (hb hby d3_6) (z := (0 : Int32)) (by decide) _ k) ?_
  show Run p e below s 0 0 (Q_rm3_0 Z a1 w2 f_w2 h0 n0) (T3.setTop (mkF m 7 #[.val (.ref a1), .val (.ref w2), .unset, .unset, .unset] [(.int (0 : Int32))]))
  refine Run.go (fun _ k => XS.istoreN X3.here hx rfl (hb hby d3_7) rfl (l' := #[.val (.ref a1), .val (.ref w2), .val (.int (0 : Int32)), .unset, .unset]) rfl k) ?_
  show Run p e below s 0 0 (Q_rm3_0 Z a1 w2 f_w2 h0 n0) (T3.setTop (mkF m 8 #[.val (.ref a1), .val (.ref w2), .val (.int (0 : Int32)), .unset, .unset] []))
  refine Run.go (fun _ k => XS.iconst X3.here hx rfl (hb hby d3_8) k) ?_
  show Run p e below s 0 0 (Q_rm3_0 Z a1 w2 f_w2 h0 n0) (T3.setTop (mkF m 9 #[.val (.ref a1), .val (.ref w2), .val (.int (0 : Int32)), .unset, .unset] [(.int (0 : Int32))]))
  refine Run.go (fun _ k => XS.istoreN X3.here hx rfl (hb hby d3_9) rfl (l' := #[.val (.ref a1), .val (.ref w2), .val (.int (0 : Int32)), .val (.int (0 : Int32)), .unset]) rfl k) ?_
  show Run p e below s 0 0 (Q_rm3_0 Z a1 w2 f_w2 h0 n0) (T3.setTop (mkF m 10 #[.val (.ref a1), .val (.ref w2), .val (.int (0 : Int32)), .val (.int (0 : Int32)), .unset] []))
  refine Run.go (fun _ k => XS.iloadN X3.here hx rfl (hb hby d3_10) rfl  k) ?_
  show Run p e below s 0 0 (Q_rm3_0 Z a1 w2 f_w2 h0 n0) (T3.setTop (mkF m 11 #[.val (.ref a1), .val (.ref w2), .val (.int (0 : Int32)), .val (.int (0 : Int32)), .unset] [(.int (0 : Int32))]))
  refine Run.go (fun _ k => XS.iloadN X3.here hx rfl (hb hby d3_11) rfl  k) ?_
  show Run p e below s 0 0 (Q_rm3_0 Z a1 w2 f_w2 h0 n0) (T3.setTop (mkF m 12 #[.val (.ref a1), .val (.ref w2), .val (.int (0 : Int32)), .val (.int (0 : Int32)), .unset] [(.int (0 : Int32)), (.int (0 : Int32))]))
  refine Run.go (fun _ k => XS.icmpYes X3.here hx rfl (pc0 := 12) (pc' := 33) rfl (hb hby d3_12) rfl (flt (by decide)).2.1 (by decide) (by decide) k) ?_
  show Run p e below s 0 0 (Q_rm3_0 Z a1 w2 f_w2 h0 n0) (T3.setTop (mkF m 33 #[.val (.ref a1), .val (.ref w2), .val (.int (0 : Int32)), .val (.int (0 : Int32)), .unset] []))
  refine Run.go (fun _ k => XS.iconst X3.here hx rfl (hb hby d3_33) k) ?_
  show Run p e below s 0 0 (Q_rm3_0 Z a1 w2 f_w2 h0 n0) (T3.setTop (mkF m 34 #[.val (.ref a1), .val (.ref w2), .val (.int (0 : Int32)), .val (.int (0 : Int32)), .unset] [(.int (1 : Int32))]))
  refine Run.retN (y := (1 : Int32)) X3 hx (t := .boolean) Bd.returns (by simp) rfl Bd.notSynchronized (hb hby d3_34) (by decide) (by decide) ?_
  show Q_rm3_0 Z a1 w2 f_w2 h0 n0 _ T3.heap _
  exact ⟨rfl, N0, e3⟩
theorem d3_15 : decode prog_43_method_4_code 15 = .ok (.aload_n 1, 1) := by decide +kernel
theorem d3_16 : decode prog_43_method_4_code 16 = .ok (.iload_n 3, 1) := by decide +kernel
theorem d3_17 : decode prog_43_method_4_code 17 = .ok (.iaload, 1) := by decide +kernel
theorem d3_18 : decode prog_43_method_4_code 18 = .ok (.istore 4, 2) := by decide +kernel
theorem d3_20 : decode prog_43_method_4_code 20 = .ok (.iload 4, 2) := by decide +kernel
theorem d3_22 : decode prog_43_method_4_code 22 = .ok (.ifCond .ge 5, 3) := by decide +kernel
theorem d3_25 : decode prog_43_method_4_code 25 = .ok (.iconst 0, 1) := by decide +kernel
theorem d3_26 : decode prog_43_method_4_code 26 = .ok (.ireturn, 1) := by decide +kernel
theorem d3_27 : decode prog_43_method_4_code 27 = .ok (.iinc 3 1, 3) := by decide +kernel
theorem d3_30 : decode prog_43_method_4_code 30 = .ok (.goto (-20), 3) := by decide +kernel
def F_rm3_1 (x4 : Int32) : Int32 := (if (x4 < (0 : Int32)) then (0 : Int32) else (1 : Int32))
theorem F_rm3_1_b (x4 : Int32) : (F_rm3_1 x4) = 0 ∨ (F_rm3_1 x4) = 1 := by unfold F_rm3_1; (repeat' split) <;> simp
def Q_rm3_1 (Z : State) (a1 : Addr) (w2 : Addr) (f_w2 : Nat → Value) (x4 : Int32) (h0 : Heap) (n0 : Nat) (v : Option Value) (h : Heap) (L : List Loc) : Prop := v = some (.int (F_rm3_1 x4)) ∧ Fr n0 L ∧ h = h0
theorem ef_rm3_1 (m : MethodId) (x0 : Addr) : entryFrame m #[(.ref x0)] 5 = mkF m 0 #[.val (.ref x0), .unset, .unset, .unset, .unset] [] := by first | (simp [entryFrame, mkF, argsToLocals, Value.category]; done) | rfl
set_option maxRecDepth 65536 in
set_option maxHeartbeats 40000000 in
theorem rm3_1 (l : Launch) (Z : State) (a0 : Array Value) (hw : ∀ d ∈ tables_1, d.before a0 Z = true) (ws : List Jvm.Cond) (a1 : Addr) (w2 : Addr) (f_w2 : Nat → Value) (x4 : Int32) (h0 : Heap) (n0 : Nat) (Z0 : n0 ≤ h0.size) (F_terms_a1 : Fld Z h0 a1 "com/example/nestor/nestor/reasoning/Pattern" "terms" "[I" (.ref w2)) (A_w2 : Ary Z h0 w2 .int 1 f_w2) (hx4 : f_w2 0 = (.int x4)) :
    MetFree l (⟨"com/example/nestor/nestor/reasoning/Pattern", "isGround", "()Z"⟩ : MethodName) (head1 (Jvm.Cond.code (⟨"com/example/nestor/nestor/reasoning/Pattern", "isGround", "()Z"⟩ : MethodName) prog_43_method_4_code 5 (some .boolean) :: ws) ({ frames := 0, cells := 0, slots := 0, locals := 0 } : Room)) (fun a U => a = #[(.ref a1)] ∧ Z.Warmed39 U.vm ∧ U.heap = h0) (fun _ _ _ _ _ => True) (fun _ U o U' => ∃ v L, o = .returned v ∧ Q_rm3_1 Z a1 w2 f_w2 x4 h0 n0 v U'.heap L ∧ FrameEnd U o U' L ({ frames := 0, cells := 0, slots := 0, locals := 0 } : Room).cells ({ frames := 0, cells := 0, slots := 0, locals := 0 } : Room).slots) := by
  refine MetFree.of_bodySF (plainFor_of_name pn_0) hisR ?_
  intro p e s m args below meth c s₁ Bd hml0 hP hK
  obtain ⟨rfl, hZ, hh⟩ := hP
  have hx := Bd.exec
  have hby := Bd.bytes
  have hml : c.maxLocals = 5 := hml0
  have hown : s.vm.findClass "com/example/nestor/nestor/reasoning/Pattern" = some m.cls := findClass_of_methodNamed Bd.named
  have hnm := (name_of_methodNamed Bd.named Bd.method).1
  have X0 : Stand p l e ({ frames := 0, cells := 0, slots := 0, locals := 0 } : Room) s m #[(.ref a1)] below meth c s₁ [] 0 0 := Stand.of_body Bd
  have e0 : s₁.heap = h0 := by rw [← hh, Bd.state]; rfl
  have N0 := Fr.nil n0
  show Run p e below s 0 0 (Q_rm3_1 Z a1 w2 f_w2 x4 h0 n0) (s₁.setTop (entryFrame m #[(.ref a1)] 5))
  refine Run.go (fun _ k => castTop (ef_rm3_1 m a1) k) ?_
  show Run p e below s 0 0 (Q_rm3_1 Z a1 w2 f_w2 x4 h0 n0) (s₁.setTop (mkF m 0 #[.val (.ref a1), .unset, .unset, .unset, .unset] []))
  refine Run.go (fun _ k => XS.aloadN X0.here hx rfl (hb hby d3_0) rfl rfl k) ?_
  show Run p e below s 0 0 (Q_rm3_1 Z a1 w2 f_w2 x4 h0 n0) (s₁.setTop (mkF m 1 #[.val (.ref a1), .unset, .unset, .unset, .unset] [(.ref a1)]))
  obtain ⟨T3, X3, e3, st3⟩ := getF X0 hx hZ hown (host := "") (Or.inl (hw _ (List.mem_of_getElem? (i := 12) rfl))) Via.refl e0 F_terms_a1 (g := (mkF m 1 #[.val (.ref a1), .unset, .unset, .unset, .unset] [(.ref a1)])) rfl rfl (hb hby d3_1)
  refine Run.go st3 ?_
  show Run p e below s 0 0 (Q_rm3_1 Z a1 w2 f_w2 x4 h0 n0) (T3.setTop (mkF m 4 #[.val (.ref a1), .unset, .unset, .unset, .unset] [(.ref w2)]))
  refine Run.go (fun _ k => XS.astoreN X3.here hx rfl (hb hby d3_4) rfl rfl (l' := #[.val (.ref a1), .val (.ref w2), .unset, .unset, .unset]) rfl k) ?_
  show Run p e below s 0 0 (Q_rm3_1 Z a1 w2 f_w2 x4 h0 n0) (T3.setTop (mkF m 5 #[.val (.ref a1), .val (.ref w2), .unset, .unset, .unset] []))
  refine Run.go (fun _ k => XS.aloadN X3.here hx rfl (hb hby d3_5) rfl rfl k) ?_
  show Run p e below s 0 0 (Q_rm3_1 Z a1 w2 f_w2 x4 h0 n0) (T3.setTop (mkF m 6 #[.val (.ref a1), .val (.ref w2), .unset, .unset, .unset] [(.ref w2)]))
  refine Run.go (fun _ k => ary_len X3 hx hZ e3 A_w2 (g := (mkF m 6 #[.val (.ref a1), .val (.ref w2), .unset, .unset, .unset] [(.ref w2)])) rfl rfl (hb hby d3_6) (z := (1 : Int32)) (by decide) _ k) ?_
  show Run p e below s 0 0 (Q_rm3_1 Z a1 w2 f_w2 x4 h0 n0) (T3.setTop (mkF m 7 #[.val (.ref a1), .val (.ref w2), .unset, .unset, .unset] [(.int (1 : Int32))]))
  refine Run.go (fun _ k => XS.istoreN X3.here hx rfl (hb hby d3_7) rfl (l' := #[.val (.ref a1), .val (.ref w2), .val (.int (1 : Int32)), .unset, .unset]) rfl k) ?_
  show Run p e below s 0 0 (Q_rm3_1 Z a1 w2 f_w2 x4 h0 n0) (T3.setTop (mkF m 8 #[.val (.ref a1), .val (.ref w2), .val (.int (1 : Int32)), .unset, .unset] []))
  refine Run.go (fun _ k => XS.iconst X3.here hx rfl (hb hby d3_8) k) ?_
  show Run p e below s 0 0 (Q_rm3_1 Z a1 w2 f_w2 x4 h0 n0) (T3.setTop (mkF m 9 #[.val (.ref a1), .val (.ref w2), .val (.int (1 : Int32)), .unset, .unset] [(.int (0 : Int32))]))
  refine Run.go (fun _ k => XS.istoreN X3.here hx rfl (hb hby d3_9) rfl (l' := #[.val (.ref a1), .val (.ref w2), .val (.int (1 : Int32)), .val (.int (0 : Int32)), .unset]) rfl k) ?_
  show Run p e below s 0 0 (Q_rm3_1 Z a1 w2 f_w2 x4 h0 n0) (T3.setTop (mkF m 10 #[.val (.ref a1), .val (.ref w2), .val (.int (1 : Int32)), .val (.int (0 : Int32)), .unset] []))
  refine Run.go (fun _ k => XS.iloadN X3.here hx rfl (hb hby d3_10) rfl  k) ?_
  show Run p e below s 0 0 (Q_rm3_1 Z a1 w2 f_w2 x4 h0 n0) (T3.setTop (mkF m 11 #[.val (.ref a1), .val (.ref w2), .val (.int (1 : Int32)), .val (.int (0 : Int32)), .unset] [(.int (0 : Int32))]))
  refine Run.go (fun _ k => XS.iloadN X3.here hx rfl (hb hby d3_11) rfl  k) ?_
  show Run p e below s 0 0 (Q_rm3_1 Z a1 w2 f_w2 x4 h0 n0) (T3.setTop (mkF m 12 #[.val (.ref a1), .val (.ref w2), .val (.int (1 : Int32)), .val (.int (0 : Int32)), .unset] [(.int (1 : Int32)), (.int (0 : Int32))]))
  refine Run.go (fun _ k => XS.icmpNo X3.here hx rfl (hb hby d3_12) rfl (tlt (by decide)).2.1 k) ?_
  show Run p e below s 0 0 (Q_rm3_1 Z a1 w2 f_w2 x4 h0 n0) (T3.setTop (mkF m 15 #[.val (.ref a1), .val (.ref w2), .val (.int (1 : Int32)), .val (.int (0 : Int32)), .unset] []))
  refine Run.go (fun _ k => XS.aloadN X3.here hx rfl (hb hby d3_15) rfl rfl k) ?_
  show Run p e below s 0 0 (Q_rm3_1 Z a1 w2 f_w2 x4 h0 n0) (T3.setTop (mkF m 16 #[.val (.ref a1), .val (.ref w2), .val (.int (1 : Int32)), .val (.int (0 : Int32)), .unset] [(.ref w2)]))
  refine Run.go (fun _ k => XS.iloadN X3.here hx rfl (hb hby d3_16) rfl  k) ?_
  show Run p e below s 0 0 (Q_rm3_1 Z a1 w2 f_w2 x4 h0 n0) (T3.setTop (mkF m 17 #[.val (.ref a1), .val (.ref w2), .val (.int (1 : Int32)), .val (.int (0 : Int32)), .unset] [(.int (0 : Int32)), (.ref w2)]))
  refine Run.go (fun _ k => ary_iget X3 hx hZ e3 A_w2 (by decide) (by decide) (g := (mkF m 17 #[.val (.ref a1), .val (.ref w2), .val (.int (1 : Int32)), .val (.int (0 : Int32)), .unset] [(.int (0 : Int32)), (.ref w2)])) rfl rfl (hb hby d3_17) hx4 _ k) ?_
  show Run p e below s 0 0 (Q_rm3_1 Z a1 w2 f_w2 x4 h0 n0) (T3.setTop (mkF m 18 #[.val (.ref a1), .val (.ref w2), .val (.int (1 : Int32)), .val (.int (0 : Int32)), .unset] [(.int x4)]))
  refine Run.go (fun _ k => XS.istore X3.here hx rfl (hb hby d3_18) rfl (l' := #[.val (.ref a1), .val (.ref w2), .val (.int (1 : Int32)), .val (.int (0 : Int32)), .val (.int x4)]) rfl k) ?_
  show Run p e below s 0 0 (Q_rm3_1 Z a1 w2 f_w2 x4 h0 n0) (T3.setTop (mkF m 20 #[.val (.ref a1), .val (.ref w2), .val (.int (1 : Int32)), .val (.int (0 : Int32)), .val (.int x4)] []))
  refine Run.go (fun _ k => XS.iload X3.here hx rfl (hb hby d3_20) rfl  k) ?_
  show Run p e below s 0 0 (Q_rm3_1 Z a1 w2 f_w2 x4 h0 n0) (T3.setTop (mkF m 22 #[.val (.ref a1), .val (.ref w2), .val (.int (1 : Int32)), .val (.int (0 : Int32)), .val (.int x4)] [(.int x4)]))
  by_cases hc5 : (x4 < (0 : Int32))
  · refine Run.go (fun _ k => XS.ifNo X3.here hx rfl (hb hby d3_22) rfl ((if0 _ _).trans (tlt hc5).2.1) k) ?_
    show Run p e below s 0 0 (Q_rm3_1 Z a1 w2 f_w2 x4 h0 n0) (T3.setTop (mkF m 25 #[.val (.ref a1), .val (.ref w2), .val (.int (1 : Int32)), .val (.int (0 : Int32)), .val (.int x4)] []))
    refine Run.go (fun _ k => XS.iconst X3.here hx rfl (hb hby d3_25) k) ?_
    show Run p e below s 0 0 (Q_rm3_1 Z a1 w2 f_w2 x4 h0 n0) (T3.setTop (mkF m 26 #[.val (.ref a1), .val (.ref w2), .val (.int (1 : Int32)), .val (.int (0 : Int32)), .val (.int x4)] [(.int (0 : Int32))]))
    refine Run.retN (y := (0 : Int32)) X3 hx (t := .boolean) Bd.returns (by simp) rfl Bd.notSynchronized (hb hby d3_26) (by decide) (by decide) ?_
    show Q_rm3_1 Z a1 w2 f_w2 x4 h0 n0 _ T3.heap _
    exact ⟨congrArg some (congrArg Value.int (show (0 : Int32) = (F_rm3_1 x4) from (by unfold F_rm3_1; rw [if_pos hc5]))), N0, e3⟩
  · refine Run.go (fun _ k => XS.ifYes X3.here hx rfl (pc0 := 22) (pc' := 27) rfl (hb hby d3_22) rfl ((if0 _ _).trans (flt hc5).2.1) (by decide) (by decide) k) ?_
    show Run p e below s 0 0 (Q_rm3_1 Z a1 w2 f_w2 x4 h0 n0) (T3.setTop (mkF m 27 #[.val (.ref a1), .val (.ref w2), .val (.int (1 : Int32)), .val (.int (0 : Int32)), .val (.int x4)] []))
    refine Run.go (fun _ k => XS.iinc X3.here hx rfl (hb hby d3_27) rfl (l' := #[.val (.ref a1), .val (.ref w2), .val (.int (1 : Int32)), .val (.int (1 : Int32)), .val (.int x4)]) rfl k) ?_
    show Run p e below s 0 0 (Q_rm3_1 Z a1 w2 f_w2 x4 h0 n0) (T3.setTop (mkF m 30 #[.val (.ref a1), .val (.ref w2), .val (.int (1 : Int32)), .val (.int (1 : Int32)), .val (.int x4)] []))
    refine Run.go (fun _ k => XS.goto X3.here hx rfl (pc0 := 30) (pc' := 10) rfl (hb hby d3_30) (by decide) (by decide) k) ?_
    show Run p e below s 0 0 (Q_rm3_1 Z a1 w2 f_w2 x4 h0 n0) (T3.setTop (mkF m 10 #[.val (.ref a1), .val (.ref w2), .val (.int (1 : Int32)), .val (.int (1 : Int32)), .val (.int x4)] []))
    refine Run.go (fun _ k => XS.iloadN X3.here hx rfl (hb hby d3_10) rfl  k) ?_
    show Run p e below s 0 0 (Q_rm3_1 Z a1 w2 f_w2 x4 h0 n0) (T3.setTop (mkF m 11 #[.val (.ref a1), .val (.ref w2), .val (.int (1 : Int32)), .val (.int (1 : Int32)), .val (.int x4)] [(.int (1 : Int32))]))
    refine Run.go (fun _ k => XS.iloadN X3.here hx rfl (hb hby d3_11) rfl  k) ?_
    show Run p e below s 0 0 (Q_rm3_1 Z a1 w2 f_w2 x4 h0 n0) (T3.setTop (mkF m 12 #[.val (.ref a1), .val (.ref w2), .val (.int (1 : Int32)), .val (.int (1 : Int32)), .val (.int x4)] [(.int (1 : Int32)), (.int (1 : Int32))]))
    refine Run.go (fun _ k => XS.icmpYes X3.here hx rfl (pc0 := 12) (pc' := 33) rfl (hb hby d3_12) rfl (flt (by decide)).2.1 (by decide) (by decide) k) ?_
    show Run p e below s 0 0 (Q_rm3_1 Z a1 w2 f_w2 x4 h0 n0) (T3.setTop (mkF m 33 #[.val (.ref a1), .val (.ref w2), .val (.int (1 : Int32)), .val (.int (1 : Int32)), .val (.int x4)] []))
    refine Run.go (fun _ k => XS.iconst X3.here hx rfl (hb hby d3_33) k) ?_
    show Run p e below s 0 0 (Q_rm3_1 Z a1 w2 f_w2 x4 h0 n0) (T3.setTop (mkF m 34 #[.val (.ref a1), .val (.ref w2), .val (.int (1 : Int32)), .val (.int (1 : Int32)), .val (.int x4)] [(.int (1 : Int32))]))
    refine Run.retN (y := (1 : Int32)) X3 hx (t := .boolean) Bd.returns (by simp) rfl Bd.notSynchronized (hb hby d3_34) (by decide) (by decide) ?_
    show Q_rm3_1 Z a1 w2 f_w2 x4 h0 n0 _ T3.heap _
    exact ⟨congrArg some (congrArg Value.int (show (1 : Int32) = (F_rm3_1 x4) from (by unfold F_rm3_1; rw [if_neg hc5]))), N0, e3⟩
def F_rm3_2 (x4 : Int32) (x6 : Int32) : Int32 := (if (x4 < (0 : Int32)) then (0 : Int32) else (if (x6 < (0 : Int32)) then (0 : Int32) else (1 : Int32)))
theorem F_rm3_2_b (x4 : Int32) (x6 : Int32) : (F_rm3_2 x4 x6) = 0 ∨ (F_rm3_2 x4 x6) = 1 := by unfold F_rm3_2; (repeat' split) <;> simp
def Q_rm3_2 (Z : State) (a1 : Addr) (w2 : Addr) (f_w2 : Nat → Value) (x4 : Int32) (x6 : Int32) (h0 : Heap) (n0 : Nat) (v : Option Value) (h : Heap) (L : List Loc) : Prop := v = some (.int (F_rm3_2 x4 x6)) ∧ Fr n0 L ∧ h = h0
theorem ef_rm3_2 (m : MethodId) (x0 : Addr) : entryFrame m #[(.ref x0)] 5 = mkF m 0 #[.val (.ref x0), .unset, .unset, .unset, .unset] [] := by first | (simp [entryFrame, mkF, argsToLocals, Value.category]; done) | rfl
set_option maxRecDepth 65536 in
set_option maxHeartbeats 40000000 in
theorem rm3_2 (l : Launch) (Z : State) (a0 : Array Value) (hw : ∀ d ∈ tables_1, d.before a0 Z = true) (ws : List Jvm.Cond) (a1 : Addr) (w2 : Addr) (f_w2 : Nat → Value) (x4 : Int32) (x6 : Int32) (h0 : Heap) (n0 : Nat) (Z0 : n0 ≤ h0.size) (F_terms_a1 : Fld Z h0 a1 "com/example/nestor/nestor/reasoning/Pattern" "terms" "[I" (.ref w2)) (A_w2 : Ary Z h0 w2 .int 2 f_w2) (hx4 : f_w2 0 = (.int x4)) (hx6 : f_w2 1 = (.int x6)) :
    MetFree l (⟨"com/example/nestor/nestor/reasoning/Pattern", "isGround", "()Z"⟩ : MethodName) (head1 (Jvm.Cond.code (⟨"com/example/nestor/nestor/reasoning/Pattern", "isGround", "()Z"⟩ : MethodName) prog_43_method_4_code 5 (some .boolean) :: ws) ({ frames := 0, cells := 0, slots := 0, locals := 0 } : Room)) (fun a U => a = #[(.ref a1)] ∧ Z.Warmed39 U.vm ∧ U.heap = h0) (fun _ _ _ _ _ => True) (fun _ U o U' => ∃ v L, o = .returned v ∧ Q_rm3_2 Z a1 w2 f_w2 x4 x6 h0 n0 v U'.heap L ∧ FrameEnd U o U' L ({ frames := 0, cells := 0, slots := 0, locals := 0 } : Room).cells ({ frames := 0, cells := 0, slots := 0, locals := 0 } : Room).slots) := by
  refine MetFree.of_bodySF (plainFor_of_name pn_0) hisR ?_
  intro p e s m args below meth c s₁ Bd hml0 hP hK
  obtain ⟨rfl, hZ, hh⟩ := hP
  have hx := Bd.exec
  have hby := Bd.bytes
  have hml : c.maxLocals = 5 := hml0
  have hown : s.vm.findClass "com/example/nestor/nestor/reasoning/Pattern" = some m.cls := findClass_of_methodNamed Bd.named
  have hnm := (name_of_methodNamed Bd.named Bd.method).1
  have X0 : Stand p l e ({ frames := 0, cells := 0, slots := 0, locals := 0 } : Room) s m #[(.ref a1)] below meth c s₁ [] 0 0 := Stand.of_body Bd
  have e0 : s₁.heap = h0 := by rw [← hh, Bd.state]; rfl
  have N0 := Fr.nil n0
  show Run p e below s 0 0 (Q_rm3_2 Z a1 w2 f_w2 x4 x6 h0 n0) (s₁.setTop (entryFrame m #[(.ref a1)] 5))
  refine Run.go (fun _ k => castTop (ef_rm3_2 m a1) k) ?_
  show Run p e below s 0 0 (Q_rm3_2 Z a1 w2 f_w2 x4 x6 h0 n0) (s₁.setTop (mkF m 0 #[.val (.ref a1), .unset, .unset, .unset, .unset] []))
  refine Run.go (fun _ k => XS.aloadN X0.here hx rfl (hb hby d3_0) rfl rfl k) ?_
  show Run p e below s 0 0 (Q_rm3_2 Z a1 w2 f_w2 x4 x6 h0 n0) (s₁.setTop (mkF m 1 #[.val (.ref a1), .unset, .unset, .unset, .unset] [(.ref a1)]))
  obtain ⟨T3, X3, e3, st3⟩ := getF X0 hx hZ hown (host := "") (Or.inl (hw _ (List.mem_of_getElem? (i := 12) rfl))) Via.refl e0 F_terms_a1 (g := (mkF m 1 #[.val (.ref a1), .unset, .unset, .unset, .unset] [(.ref a1)])) rfl rfl (hb hby d3_1)
  refine Run.go st3 ?_
  show Run p e below s 0 0 (Q_rm3_2 Z a1 w2 f_w2 x4 x6 h0 n0) (T3.setTop (mkF m 4 #[.val (.ref a1), .unset, .unset, .unset, .unset] [(.ref w2)]))
  refine Run.go (fun _ k => XS.astoreN X3.here hx rfl (hb hby d3_4) rfl rfl (l' := #[.val (.ref a1), .val (.ref w2), .unset, .unset, .unset]) rfl k) ?_
  show Run p e below s 0 0 (Q_rm3_2 Z a1 w2 f_w2 x4 x6 h0 n0) (T3.setTop (mkF m 5 #[.val (.ref a1), .val (.ref w2), .unset, .unset, .unset] []))
  refine Run.go (fun _ k => XS.aloadN X3.here hx rfl (hb hby d3_5) rfl rfl k) ?_
  show Run p e below s 0 0 (Q_rm3_2 Z a1 w2 f_w2 x4 x6 h0 n0) (T3.setTop (mkF m 6 #[.val (.ref a1), .val (.ref w2), .unset, .unset, .unset] [(.ref w2)]))
  refine Run.go (fun _ k => ary_len X3 hx hZ e3 A_w2 (g := (mkF m 6 #[.val (.ref a1), .val (.ref w2), .unset, .unset, .unset] [(.ref w2)])) rfl rfl (hb hby d3_6) (z := (2 : Int32)) (by decide) _ k) ?_
  show Run p e below s 0 0 (Q_rm3_2 Z a1 w2 f_w2 x4 x6 h0 n0) (T3.setTop (mkF m 7 #[.val (.ref a1), .val (.ref w2), .unset, .unset, .unset] [(.int (2 : Int32))]))
  refine Run.go (fun _ k => XS.istoreN X3.here hx rfl (hb hby d3_7) rfl (l' := #[.val (.ref a1), .val (.ref w2), .val (.int (2 : Int32)), .unset, .unset]) rfl k) ?_
  show Run p e below s 0 0 (Q_rm3_2 Z a1 w2 f_w2 x4 x6 h0 n0) (T3.setTop (mkF m 8 #[.val (.ref a1), .val (.ref w2), .val (.int (2 : Int32)), .unset, .unset] []))
  refine Run.go (fun _ k => XS.iconst X3.here hx rfl (hb hby d3_8) k) ?_
  show Run p e below s 0 0 (Q_rm3_2 Z a1 w2 f_w2 x4 x6 h0 n0) (T3.setTop (mkF m 9 #[.val (.ref a1), .val (.ref w2), .val (.int (2 : Int32)), .unset, .unset] [(.int (0 : Int32))]))
  refine Run.go (fun _ k => XS.istoreN X3.here hx rfl (hb hby d3_9) rfl (l' := #[.val (.ref a1), .val (.ref w2), .val (.int (2 : Int32)), .val (.int (0 : Int32)), .unset]) rfl k) ?_
  show Run p e below s 0 0 (Q_rm3_2 Z a1 w2 f_w2 x4 x6 h0 n0) (T3.setTop (mkF m 10 #[.val (.ref a1), .val (.ref w2), .val (.int (2 : Int32)), .val (.int (0 : Int32)), .unset] []))
  refine Run.go (fun _ k => XS.iloadN X3.here hx rfl (hb hby d3_10) rfl  k) ?_
  show Run p e below s 0 0 (Q_rm3_2 Z a1 w2 f_w2 x4 x6 h0 n0) (T3.setTop (mkF m 11 #[.val (.ref a1), .val (.ref w2), .val (.int (2 : Int32)), .val (.int (0 : Int32)), .unset] [(.int (0 : Int32))]))
  refine Run.go (fun _ k => XS.iloadN X3.here hx rfl (hb hby d3_11) rfl  k) ?_
  show Run p e below s 0 0 (Q_rm3_2 Z a1 w2 f_w2 x4 x6 h0 n0) (T3.setTop (mkF m 12 #[.val (.ref a1), .val (.ref w2), .val (.int (2 : Int32)), .val (.int (0 : Int32)), .unset] [(.int (2 : Int32)), (.int (0 : Int32))]))
  refine Run.go (fun _ k => XS.icmpNo X3.here hx rfl (hb hby d3_12) rfl (tlt (by decide)).2.1 k) ?_
  show Run p e below s 0 0 (Q_rm3_2 Z a1 w2 f_w2 x4 x6 h0 n0) (T3.setTop (mkF m 15 #[.val (.ref a1), .val (.ref w2), .val (.int (2 : Int32)), .val (.int (0 : Int32)), .unset] []))
  refine Run.go (fun _ k => XS.aloadN X3.here hx rfl (hb hby d3_15) rfl rfl k) ?_
  show Run p e below s 0 0 (Q_rm3_2 Z a1 w2 f_w2 x4 x6 h0 n0) (T3.setTop (mkF m 16 #[.val (.ref a1), .val (.ref w2), .val (.int (2 : Int32)), .val (.int (0 : Int32)), .unset] [(.ref w2)]))
  refine Run.go (fun _ k => XS.iloadN X3.here hx rfl (hb hby d3_16) rfl  k) ?_
  show Run p e below s 0 0 (Q_rm3_2 Z a1 w2 f_w2 x4 x6 h0 n0) (T3.setTop (mkF m 17 #[.val (.ref a1), .val (.ref w2), .val (.int (2 : Int32)), .val (.int (0 : Int32)), .unset] [(.int (0 : Int32)), (.ref w2)]))
  refine Run.go (fun _ k => ary_iget X3 hx hZ e3 A_w2 (by decide) (by decide) (g := (mkF m 17 #[.val (.ref a1), .val (.ref w2), .val (.int (2 : Int32)), .val (.int (0 : Int32)), .unset] [(.int (0 : Int32)), (.ref w2)])) rfl rfl (hb hby d3_17) hx4 _ k) ?_
  show Run p e below s 0 0 (Q_rm3_2 Z a1 w2 f_w2 x4 x6 h0 n0) (T3.setTop (mkF m 18 #[.val (.ref a1), .val (.ref w2), .val (.int (2 : Int32)), .val (.int (0 : Int32)), .unset] [(.int x4)]))
  refine Run.go (fun _ k => XS.istore X3.here hx rfl (hb hby d3_18) rfl (l' := #[.val (.ref a1), .val (.ref w2), .val (.int (2 : Int32)), .val (.int (0 : Int32)), .val (.int x4)]) rfl k) ?_
  show Run p e below s 0 0 (Q_rm3_2 Z a1 w2 f_w2 x4 x6 h0 n0) (T3.setTop (mkF m 20 #[.val (.ref a1), .val (.ref w2), .val (.int (2 : Int32)), .val (.int (0 : Int32)), .val (.int x4)] []))
  refine Run.go (fun _ k => XS.iload X3.here hx rfl (hb hby d3_20) rfl  k) ?_
  show Run p e below s 0 0 (Q_rm3_2 Z a1 w2 f_w2 x4 x6 h0 n0) (T3.setTop (mkF m 22 #[.val (.ref a1), .val (.ref w2), .val (.int (2 : Int32)), .val (.int (0 : Int32)), .val (.int x4)] [(.int x4)]))
  by_cases hc5 : (x4 < (0 : Int32))
  · refine Run.go (fun _ k => XS.ifNo X3.here hx rfl (hb hby d3_22) rfl ((if0 _ _).trans (tlt hc5).2.1) k) ?_
    show Run p e below s 0 0 (Q_rm3_2 Z a1 w2 f_w2 x4 x6 h0 n0) (T3.setTop (mkF m 25 #[.val (.ref a1), .val (.ref w2), .val (.int (2 : Int32)), .val (.int (0 : Int32)), .val (.int x4)] []))
    refine Run.go (fun _ k => XS.iconst X3.here hx rfl (hb hby d3_25) k) ?_
    show Run p e below s 0 0 (Q_rm3_2 Z a1 w2 f_w2 x4 x6 h0 n0) (T3.setTop (mkF m 26 #[.val (.ref a1), .val (.ref w2), .val (.int (2 : Int32)), .val (.int (0 : Int32)), .val (.int x4)] [(.int (0 : Int32))]))
    refine Run.retN (y := (0 : Int32)) X3 hx (t := .boolean) Bd.returns (by simp) rfl Bd.notSynchronized (hb hby d3_26) (by decide) (by decide) ?_
    show Q_rm3_2 Z a1 w2 f_w2 x4 x6 h0 n0 _ T3.heap _
    exact ⟨congrArg some (congrArg Value.int (show (0 : Int32) = (F_rm3_2 x4 x6) from (by unfold F_rm3_2; rw [if_pos hc5]))), N0, e3⟩
  · refine Run.go (fun _ k => XS.ifYes X3.here hx rfl (pc0 := 22) (pc' := 27) rfl (hb hby d3_22) rfl ((if0 _ _).trans (flt hc5).2.1) (by decide) (by decide) k) ?_
    show Run p e below s 0 0 (Q_rm3_2 Z a1 w2 f_w2 x4 x6 h0 n0) (T3.setTop (mkF m 27 #[.val (.ref a1), .val (.ref w2), .val (.int (2 : Int32)), .val (.int (0 : Int32)), .val (.int x4)] []))
    refine Run.go (fun _ k => XS.iinc X3.here hx rfl (hb hby d3_27) rfl (l' := #[.val (.ref a1), .val (.ref w2), .val (.int (2 : Int32)), .val (.int (1 : Int32)), .val (.int x4)]) rfl k) ?_
    show Run p e below s 0 0 (Q_rm3_2 Z a1 w2 f_w2 x4 x6 h0 n0) (T3.setTop (mkF m 30 #[.val (.ref a1), .val (.ref w2), .val (.int (2 : Int32)), .val (.int (1 : Int32)), .val (.int x4)] []))
    refine Run.go (fun _ k => XS.goto X3.here hx rfl (pc0 := 30) (pc' := 10) rfl (hb hby d3_30) (by decide) (by decide) k) ?_
    show Run p e below s 0 0 (Q_rm3_2 Z a1 w2 f_w2 x4 x6 h0 n0) (T3.setTop (mkF m 10 #[.val (.ref a1), .val (.ref w2), .val (.int (2 : Int32)), .val (.int (1 : Int32)), .val (.int x4)] []))
    refine Run.go (fun _ k => XS.iloadN X3.here hx rfl (hb hby d3_10) rfl  k) ?_
    show Run p e below s 0 0 (Q_rm3_2 Z a1 w2 f_w2 x4 x6 h0 n0) (T3.setTop (mkF m 11 #[.val (.ref a1), .val (.ref w2), .val (.int (2 : Int32)), .val (.int (1 : Int32)), .val (.int x4)] [(.int (1 : Int32))]))
    refine Run.go (fun _ k => XS.iloadN X3.here hx rfl (hb hby d3_11) rfl  k) ?_
    show Run p e below s 0 0 (Q_rm3_2 Z a1 w2 f_w2 x4 x6 h0 n0) (T3.setTop (mkF m 12 #[.val (.ref a1), .val (.ref w2), .val (.int (2 : Int32)), .val (.int (1 : Int32)), .val (.int x4)] [(.int (2 : Int32)), (.int (1 : Int32))]))
    refine Run.go (fun _ k => XS.icmpNo X3.here hx rfl (hb hby d3_12) rfl (tlt (by decide)).2.1 k) ?_
    show Run p e below s 0 0 (Q_rm3_2 Z a1 w2 f_w2 x4 x6 h0 n0) (T3.setTop (mkF m 15 #[.val (.ref a1), .val (.ref w2), .val (.int (2 : Int32)), .val (.int (1 : Int32)), .val (.int x4)] []))
    refine Run.go (fun _ k => XS.aloadN X3.here hx rfl (hb hby d3_15) rfl rfl k) ?_
    show Run p e below s 0 0 (Q_rm3_2 Z a1 w2 f_w2 x4 x6 h0 n0) (T3.setTop (mkF m 16 #[.val (.ref a1), .val (.ref w2), .val (.int (2 : Int32)), .val (.int (1 : Int32)), .val (.int x4)] [(.ref w2)]))
    refine Run.go (fun _ k => XS.iloadN X3.here hx rfl (hb hby d3_16) rfl  k) ?_
    show Run p e below s 0 0 (Q_rm3_2 Z a1 w2 f_w2 x4 x6 h0 n0) (T3.setTop (mkF m 17 #[.val (.ref a1), .val (.ref w2), .val (.int (2 : Int32)), .val (.int (1 : Int32)), .val (.int x4)] [(.int (1 : Int32)), (.ref w2)]))
    refine Run.go (fun _ k => ary_iget X3 hx hZ e3 A_w2 (by decide) (by decide) (g := (mkF m 17 #[.val (.ref a1), .val (.ref w2), .val (.int (2 : Int32)), .val (.int (1 : Int32)), .val (.int x4)] [(.int (1 : Int32)), (.ref w2)])) rfl rfl (hb hby d3_17) hx6 _ k) ?_
    show Run p e below s 0 0 (Q_rm3_2 Z a1 w2 f_w2 x4 x6 h0 n0) (T3.setTop (mkF m 18 #[.val (.ref a1), .val (.ref w2), .val (.int (2 : Int32)), .val (.int (1 : Int32)), .val (.int x4)] [(.int x6)]))
    refine Run.go (fun _ k => XS.istore X3.here hx rfl (hb hby d3_18) rfl (l' := #[.val (.ref a1), .val (.ref w2), .val (.int (2 : Int32)), .val (.int (1 : Int32)), .val (.int x6)]) rfl k) ?_
    show Run p e below s 0 0 (Q_rm3_2 Z a1 w2 f_w2 x4 x6 h0 n0) (T3.setTop (mkF m 20 #[.val (.ref a1), .val (.ref w2), .val (.int (2 : Int32)), .val (.int (1 : Int32)), .val (.int x6)] []))
    refine Run.go (fun _ k => XS.iload X3.here hx rfl (hb hby d3_20) rfl  k) ?_
    show Run p e below s 0 0 (Q_rm3_2 Z a1 w2 f_w2 x4 x6 h0 n0) (T3.setTop (mkF m 22 #[.val (.ref a1), .val (.ref w2), .val (.int (2 : Int32)), .val (.int (1 : Int32)), .val (.int x6)] [(.int x6)]))
    by_cases hc7 : (x6 < (0 : Int32))
    · refine Run.go (fun _ k => XS.ifNo X3.here hx rfl (hb hby d3_22) rfl ((if0 _ _).trans (tlt hc7).2.1) k) ?_
      show Run p e below s 0 0 (Q_rm3_2 Z a1 w2 f_w2 x4 x6 h0 n0) (T3.setTop (mkF m 25 #[.val (.ref a1), .val (.ref w2), .val (.int (2 : Int32)), .val (.int (1 : Int32)), .val (.int x6)] []))
      refine Run.go (fun _ k => XS.iconst X3.here hx rfl (hb hby d3_25) k) ?_
      show Run p e below s 0 0 (Q_rm3_2 Z a1 w2 f_w2 x4 x6 h0 n0) (T3.setTop (mkF m 26 #[.val (.ref a1), .val (.ref w2), .val (.int (2 : Int32)), .val (.int (1 : Int32)), .val (.int x6)] [(.int (0 : Int32))]))
      refine Run.retN (y := (0 : Int32)) X3 hx (t := .boolean) Bd.returns (by simp) rfl Bd.notSynchronized (hb hby d3_26) (by decide) (by decide) ?_
      show Q_rm3_2 Z a1 w2 f_w2 x4 x6 h0 n0 _ T3.heap _
      exact ⟨congrArg some (congrArg Value.int (show (0 : Int32) = (F_rm3_2 x4 x6) from (by unfold F_rm3_2; rw [if_neg hc5, if_pos hc7]))), N0, e3⟩
    · refine Run.go (fun _ k => XS.ifYes X3.here hx rfl (pc0 := 22) (pc' := 27) rfl (hb hby d3_22) rfl ((if0 _ _).trans (flt hc7).2.1) (by decide) (by decide) k) ?_
      show Run p e below s 0 0 (Q_rm3_2 Z a1 w2 f_w2 x4 x6 h0 n0) (T3.setTop (mkF m 27 #[.val (.ref a1), .val (.ref w2), .val (.int (2 : Int32)), .val (.int (1 : Int32)), .val (.int x6)] []))
      refine Run.go (fun _ k => XS.iinc X3.here hx rfl (hb hby d3_27) rfl (l' := #[.val (.ref a1), .val (.ref w2), .val (.int (2 : Int32)), .val (.int (2 : Int32)), .val (.int x6)]) rfl k) ?_
      show Run p e below s 0 0 (Q_rm3_2 Z a1 w2 f_w2 x4 x6 h0 n0) (T3.setTop (mkF m 30 #[.val (.ref a1), .val (.ref w2), .val (.int (2 : Int32)), .val (.int (2 : Int32)), .val (.int x6)] []))
      refine Run.go (fun _ k => XS.goto X3.here hx rfl (pc0 := 30) (pc' := 10) rfl (hb hby d3_30) (by decide) (by decide) k) ?_
      show Run p e below s 0 0 (Q_rm3_2 Z a1 w2 f_w2 x4 x6 h0 n0) (T3.setTop (mkF m 10 #[.val (.ref a1), .val (.ref w2), .val (.int (2 : Int32)), .val (.int (2 : Int32)), .val (.int x6)] []))
      refine Run.go (fun _ k => XS.iloadN X3.here hx rfl (hb hby d3_10) rfl  k) ?_
      show Run p e below s 0 0 (Q_rm3_2 Z a1 w2 f_w2 x4 x6 h0 n0) (T3.setTop (mkF m 11 #[.val (.ref a1), .val (.ref w2), .val (.int (2 : Int32)), .val (.int (2 : Int32)), .val (.int x6)] [(.int (2 : Int32))]))
      refine Run.go (fun _ k => XS.iloadN X3.here hx rfl (hb hby d3_11) rfl  k) ?_
      show Run p e below s 0 0 (Q_rm3_2 Z a1 w2 f_w2 x4 x6 h0 n0) (T3.setTop (mkF m 12 #[.val (.ref a1), .val (.ref w2), .val (.int (2 : Int32)), .val (.int (2 : Int32)), .val (.int x6)] [(.int (2 : Int32)), (.int (2 : Int32))]))
      refine Run.go (fun _ k => XS.icmpYes X3.here hx rfl (pc0 := 12) (pc' := 33) rfl (hb hby d3_12) rfl (flt (by decide)).2.1 (by decide) (by decide) k) ?_
      show Run p e below s 0 0 (Q_rm3_2 Z a1 w2 f_w2 x4 x6 h0 n0) (T3.setTop (mkF m 33 #[.val (.ref a1), .val (.ref w2), .val (.int (2 : Int32)), .val (.int (2 : Int32)), .val (.int x6)] []))
      refine Run.go (fun _ k => XS.iconst X3.here hx rfl (hb hby d3_33) k) ?_
      show Run p e below s 0 0 (Q_rm3_2 Z a1 w2 f_w2 x4 x6 h0 n0) (T3.setTop (mkF m 34 #[.val (.ref a1), .val (.ref w2), .val (.int (2 : Int32)), .val (.int (2 : Int32)), .val (.int x6)] [(.int (1 : Int32))]))
      refine Run.retN (y := (1 : Int32)) X3 hx (t := .boolean) Bd.returns (by simp) rfl Bd.notSynchronized (hb hby d3_34) (by decide) (by decide) ?_
      show Q_rm3_2 Z a1 w2 f_w2 x4 x6 h0 n0 _ T3.heap _
      exact ⟨congrArg some (congrArg Value.int (show (1 : Int32) = (F_rm3_2 x4 x6) from (by unfold F_rm3_2; rw [if_neg hc5, if_neg hc7]))), N0, e3⟩
def F_rm3_3 (x4 : Int32) (x6 : Int32) (x8 : Int32) : Int32 := (if (x4 < (0 : Int32)) then (0 : Int32) else (if (x6 < (0 : Int32)) then (0 : Int32) else (if (x8 < (0 : Int32)) then (0 : Int32) else (1 : Int32))))
theorem F_rm3_3_b (x4 : Int32) (x6 : Int32) (x8 : Int32) : (F_rm3_3 x4 x6 x8) = 0 ∨ (F_rm3_3 x4 x6 x8) = 1 := by unfold F_rm3_3; (repeat' split) <;> simp
def Q_rm3_3 (Z : State) (a1 : Addr) (w2 : Addr) (f_w2 : Nat → Value) (x4 : Int32) (x6 : Int32) (x8 : Int32) (h0 : Heap) (n0 : Nat) (v : Option Value) (h : Heap) (L : List Loc) : Prop := v = some (.int (F_rm3_3 x4 x6 x8)) ∧ Fr n0 L ∧ h = h0
theorem ef_rm3_3 (m : MethodId) (x0 : Addr) : entryFrame m #[(.ref x0)] 5 = mkF m 0 #[.val (.ref x0), .unset, .unset, .unset, .unset] [] := by first | (simp [entryFrame, mkF, argsToLocals, Value.category]; done) | rfl
set_option maxRecDepth 65536 in
set_option maxHeartbeats 40000000 in
theorem rm3_3 (l : Launch) (Z : State) (a0 : Array Value) (hw : ∀ d ∈ tables_1, d.before a0 Z = true) (ws : List Jvm.Cond) (a1 : Addr) (w2 : Addr) (f_w2 : Nat → Value) (x4 : Int32) (x6 : Int32) (x8 : Int32) (h0 : Heap) (n0 : Nat) (Z0 : n0 ≤ h0.size) (F_terms_a1 : Fld Z h0 a1 "com/example/nestor/nestor/reasoning/Pattern" "terms" "[I" (.ref w2)) (A_w2 : Ary Z h0 w2 .int 3 f_w2) (hx4 : f_w2 0 = (.int x4)) (hx6 : f_w2 1 = (.int x6)) (hx8 : f_w2 2 = (.int x8)) :
    MetFree l (⟨"com/example/nestor/nestor/reasoning/Pattern", "isGround", "()Z"⟩ : MethodName) (head1 (Jvm.Cond.code (⟨"com/example/nestor/nestor/reasoning/Pattern", "isGround", "()Z"⟩ : MethodName) prog_43_method_4_code 5 (some .boolean) :: ws) ({ frames := 0, cells := 0, slots := 0, locals := 0 } : Room)) (fun a U => a = #[(.ref a1)] ∧ Z.Warmed39 U.vm ∧ U.heap = h0) (fun _ _ _ _ _ => True) (fun _ U o U' => ∃ v L, o = .returned v ∧ Q_rm3_3 Z a1 w2 f_w2 x4 x6 x8 h0 n0 v U'.heap L ∧ FrameEnd U o U' L ({ frames := 0, cells := 0, slots := 0, locals := 0 } : Room).cells ({ frames := 0, cells := 0, slots := 0, locals := 0 } : Room).slots) := by
  refine MetFree.of_bodySF (plainFor_of_name pn_0) hisR ?_
  intro p e s m args below meth c s₁ Bd hml0 hP hK
  obtain ⟨rfl, hZ, hh⟩ := hP
  have hx := Bd.exec
  have hby := Bd.bytes
  have hml : c.maxLocals = 5 := hml0
  have hown : s.vm.findClass "com/example/nestor/nestor/reasoning/Pattern" = some m.cls := findClass_of_methodNamed Bd.named
  have hnm := (name_of_methodNamed Bd.named Bd.method).1
  have X0 : Stand p l e ({ frames := 0, cells := 0, slots := 0, locals := 0 } : Room) s m #[(.ref a1)] below meth c s₁ [] 0 0 := Stand.of_body Bd
  have e0 : s₁.heap = h0 := by rw [← hh, Bd.state]; rfl
  have N0 := Fr.nil n0
  show Run p e below s 0 0 (Q_rm3_3 Z a1 w2 f_w2 x4 x6 x8 h0 n0) (s₁.setTop (entryFrame m #[(.ref a1)] 5))
  refine Run.go (fun _ k => castTop (ef_rm3_3 m a1) k) ?_
  show Run p e below s 0 0 (Q_rm3_3 Z a1 w2 f_w2 x4 x6 x8 h0 n0) (s₁.setTop (mkF m 0 #[.val (.ref a1), .unset, .unset, .unset, .unset] []))
  refine Run.go (fun _ k => XS.aloadN X0.here hx rfl (hb hby d3_0) rfl rfl k) ?_
  show Run p e below s 0 0 (Q_rm3_3 Z a1 w2 f_w2 x4 x6 x8 h0 n0) (s₁.setTop (mkF m 1 #[.val (.ref a1), .unset, .unset, .unset, .unset] [(.ref a1)]))
  obtain ⟨T3, X3, e3, st3⟩ := getF X0 hx hZ hown (host := "") (Or.inl (hw _ (List.mem_of_getElem? (i := 12) rfl))) Via.refl e0 F_terms_a1 (g := (mkF m 1 #[.val (.ref a1), .unset, .unset, .unset, .unset] [(.ref a1)])) rfl rfl (hb hby d3_1)
  refine Run.go st3 ?_
  show Run p e below s 0 0 (Q_rm3_3 Z a1 w2 f_w2 x4 x6 x8 h0 n0) (T3.setTop (mkF m 4 #[.val (.ref a1), .unset, .unset, .unset, .unset] [(.ref w2)]))
  refine Run.go (fun _ k => XS.astoreN X3.here hx rfl (hb hby d3_4) rfl rfl (l' := #[.val (.ref a1), .val (.ref w2), .unset, .unset, .unset]) rfl k) ?_
  show Run p e below s 0 0 (Q_rm3_3 Z a1 w2 f_w2 x4 x6 x8 h0 n0) (T3.setTop (mkF m 5 #[.val (.ref a1), .val (.ref w2), .unset, .unset, .unset] []))
  refine Run.go (fun _ k => XS.aloadN X3.here hx rfl (hb hby d3_5) rfl rfl k) ?_
  show Run p e below s 0 0 (Q_rm3_3 Z a1 w2 f_w2 x4 x6 x8 h0 n0) (T3.setTop (mkF m 6 #[.val (.ref a1), .val (.ref w2), .unset, .unset, .unset] [(.ref w2)]))
  refine Run.go (fun _ k => ary_len X3 hx hZ e3 A_w2 (g := (mkF m 6 #[.val (.ref a1), .val (.ref w2), .unset, .unset, .unset] [(.ref w2)])) rfl rfl (hb hby d3_6) (z := (3 : Int32)) (by decide) _ k) ?_
  show Run p e below s 0 0 (Q_rm3_3 Z a1 w2 f_w2 x4 x6 x8 h0 n0) (T3.setTop (mkF m 7 #[.val (.ref a1), .val (.ref w2), .unset, .unset, .unset] [(.int (3 : Int32))]))
  refine Run.go (fun _ k => XS.istoreN X3.here hx rfl (hb hby d3_7) rfl (l' := #[.val (.ref a1), .val (.ref w2), .val (.int (3 : Int32)), .unset, .unset]) rfl k) ?_
  show Run p e below s 0 0 (Q_rm3_3 Z a1 w2 f_w2 x4 x6 x8 h0 n0) (T3.setTop (mkF m 8 #[.val (.ref a1), .val (.ref w2), .val (.int (3 : Int32)), .unset, .unset] []))
  refine Run.go (fun _ k => XS.iconst X3.here hx rfl (hb hby d3_8) k) ?_
  show Run p e below s 0 0 (Q_rm3_3 Z a1 w2 f_w2 x4 x6 x8 h0 n0) (T3.setTop (mkF m 9 #[.val (.ref a1), .val (.ref w2), .val (.int (3 : Int32)), .unset, .unset] [(.int (0 : Int32))]))
  refine Run.go (fun _ k => XS.istoreN X3.here hx rfl (hb hby d3_9) rfl (l' := #[.val (.ref a1), .val (.ref w2), .val (.int (3 : Int32)), .val (.int (0 : Int32)), .unset]) rfl k) ?_
  show Run p e below s 0 0 (Q_rm3_3 Z a1 w2 f_w2 x4 x6 x8 h0 n0) (T3.setTop (mkF m 10 #[.val (.ref a1), .val (.ref w2), .val (.int (3 : Int32)), .val (.int (0 : Int32)), .unset] []))
  refine Run.go (fun _ k => XS.iloadN X3.here hx rfl (hb hby d3_10) rfl  k) ?_
  show Run p e below s 0 0 (Q_rm3_3 Z a1 w2 f_w2 x4 x6 x8 h0 n0) (T3.setTop (mkF m 11 #[.val (.ref a1), .val (.ref w2), .val (.int (3 : Int32)), .val (.int (0 : Int32)), .unset] [(.int (0 : Int32))]))
  refine Run.go (fun _ k => XS.iloadN X3.here hx rfl (hb hby d3_11) rfl  k) ?_
  show Run p e below s 0 0 (Q_rm3_3 Z a1 w2 f_w2 x4 x6 x8 h0 n0) (T3.setTop (mkF m 12 #[.val (.ref a1), .val (.ref w2), .val (.int (3 : Int32)), .val (.int (0 : Int32)), .unset] [(.int (3 : Int32)), (.int (0 : Int32))]))
  refine Run.go (fun _ k => XS.icmpNo X3.here hx rfl (hb hby d3_12) rfl (tlt (by decide)).2.1 k) ?_
  show Run p e below s 0 0 (Q_rm3_3 Z a1 w2 f_w2 x4 x6 x8 h0 n0) (T3.setTop (mkF m 15 #[.val (.ref a1), .val (.ref w2), .val (.int (3 : Int32)), .val (.int (0 : Int32)), .unset] []))
  refine Run.go (fun _ k => XS.aloadN X3.here hx rfl (hb hby d3_15) rfl rfl k) ?_
  show Run p e below s 0 0 (Q_rm3_3 Z a1 w2 f_w2 x4 x6 x8 h0 n0) (T3.setTop (mkF m 16 #[.val (.ref a1), .val (.ref w2), .val (.int (3 : Int32)), .val (.int (0 : Int32)), .unset] [(.ref w2)]))
  refine Run.go (fun _ k => XS.iloadN X3.here hx rfl (hb hby d3_16) rfl  k) ?_
  show Run p e below s 0 0 (Q_rm3_3 Z a1 w2 f_w2 x4 x6 x8 h0 n0) (T3.setTop (mkF m 17 #[.val (.ref a1), .val (.ref w2), .val (.int (3 : Int32)), .val (.int (0 : Int32)), .unset] [(.int (0 : Int32)), (.ref w2)]))
  refine Run.go (fun _ k => ary_iget X3 hx hZ e3 A_w2 (by decide) (by decide) (g := (mkF m 17 #[.val (.ref a1), .val (.ref w2), .val (.int (3 : Int32)), .val (.int (0 : Int32)), .unset] [(.int (0 : Int32)), (.ref w2)])) rfl rfl (hb hby d3_17) hx4 _ k) ?_
  show Run p e below s 0 0 (Q_rm3_3 Z a1 w2 f_w2 x4 x6 x8 h0 n0) (T3.setTop (mkF m 18 #[.val (.ref a1), .val (.ref w2), .val (.int (3 : Int32)), .val (.int (0 : Int32)), .unset] [(.int x4)]))
  refine Run.go (fun _ k => XS.istore X3.here hx rfl (hb hby d3_18) rfl (l' := #[.val (.ref a1), .val (.ref w2), .val (.int (3 : Int32)), .val (.int (0 : Int32)), .val (.int x4)]) rfl k) ?_
  show Run p e below s 0 0 (Q_rm3_3 Z a1 w2 f_w2 x4 x6 x8 h0 n0) (T3.setTop (mkF m 20 #[.val (.ref a1), .val (.ref w2), .val (.int (3 : Int32)), .val (.int (0 : Int32)), .val (.int x4)] []))
  refine Run.go (fun _ k => XS.iload X3.here hx rfl (hb hby d3_20) rfl  k) ?_
  show Run p e below s 0 0 (Q_rm3_3 Z a1 w2 f_w2 x4 x6 x8 h0 n0) (T3.setTop (mkF m 22 #[.val (.ref a1), .val (.ref w2), .val (.int (3 : Int32)), .val (.int (0 : Int32)), .val (.int x4)] [(.int x4)]))
  by_cases hc5 : (x4 < (0 : Int32))
  · refine Run.go (fun _ k => XS.ifNo X3.here hx rfl (hb hby d3_22) rfl ((if0 _ _).trans (tlt hc5).2.1) k) ?_
    show Run p e below s 0 0 (Q_rm3_3 Z a1 w2 f_w2 x4 x6 x8 h0 n0) (T3.setTop (mkF m 25 #[.val (.ref a1), .val (.ref w2), .val (.int (3 : Int32)), .val (.int (0 : Int32)), .val (.int x4)] []))
    refine Run.go (fun _ k => XS.iconst X3.here hx rfl (hb hby d3_25) k) ?_
    show Run p e below s 0 0 (Q_rm3_3 Z a1 w2 f_w2 x4 x6 x8 h0 n0) (T3.setTop (mkF m 26 #[.val (.ref a1), .val (.ref w2), .val (.int (3 : Int32)), .val (.int (0 : Int32)), .val (.int x4)] [(.int (0 : Int32))]))
    refine Run.retN (y := (0 : Int32)) X3 hx (t := .boolean) Bd.returns (by simp) rfl Bd.notSynchronized (hb hby d3_26) (by decide) (by decide) ?_
    show Q_rm3_3 Z a1 w2 f_w2 x4 x6 x8 h0 n0 _ T3.heap _
    exact ⟨congrArg some (congrArg Value.int (show (0 : Int32) = (F_rm3_3 x4 x6 x8) from (by unfold F_rm3_3; rw [if_pos hc5]))), N0, e3⟩
  · refine Run.go (fun _ k => XS.ifYes X3.here hx rfl (pc0 := 22) (pc' := 27) rfl (hb hby d3_22) rfl ((if0 _ _).trans (flt hc5).2.1) (by decide) (by decide) k) ?_
    show Run p e below s 0 0 (Q_rm3_3 Z a1 w2 f_w2 x4 x6 x8 h0 n0) (T3.setTop (mkF m 27 #[.val (.ref a1), .val (.ref w2), .val (.int (3 : Int32)), .val (.int (0 : Int32)), .val (.int x4)] []))
    refine Run.go (fun _ k => XS.iinc X3.here hx rfl (hb hby d3_27) rfl (l' := #[.val (.ref a1), .val (.ref w2), .val (.int (3 : Int32)), .val (.int (1 : Int32)), .val (.int x4)]) rfl k) ?_
    show Run p e below s 0 0 (Q_rm3_3 Z a1 w2 f_w2 x4 x6 x8 h0 n0) (T3.setTop (mkF m 30 #[.val (.ref a1), .val (.ref w2), .val (.int (3 : Int32)), .val (.int (1 : Int32)), .val (.int x4)] []))
    refine Run.go (fun _ k => XS.goto X3.here hx rfl (pc0 := 30) (pc' := 10) rfl (hb hby d3_30) (by decide) (by decide) k) ?_
    show Run p e below s 0 0 (Q_rm3_3 Z a1 w2 f_w2 x4 x6 x8 h0 n0) (T3.setTop (mkF m 10 #[.val (.ref a1), .val (.ref w2), .val (.int (3 : Int32)), .val (.int (1 : Int32)), .val (.int x4)] []))
    refine Run.go (fun _ k => XS.iloadN X3.here hx rfl (hb hby d3_10) rfl  k) ?_
    show Run p e below s 0 0 (Q_rm3_3 Z a1 w2 f_w2 x4 x6 x8 h0 n0) (T3.setTop (mkF m 11 #[.val (.ref a1), .val (.ref w2), .val (.int (3 : Int32)), .val (.int (1 : Int32)), .val (.int x4)] [(.int (1 : Int32))]))
    refine Run.go (fun _ k => XS.iloadN X3.here hx rfl (hb hby d3_11) rfl  k) ?_
    show Run p e below s 0 0 (Q_rm3_3 Z a1 w2 f_w2 x4 x6 x8 h0 n0) (T3.setTop (mkF m 12 #[.val (.ref a1), .val (.ref w2), .val (.int (3 : Int32)), .val (.int (1 : Int32)), .val (.int x4)] [(.int (3 : Int32)), (.int (1 : Int32))]))
    refine Run.go (fun _ k => XS.icmpNo X3.here hx rfl (hb hby d3_12) rfl (tlt (by decide)).2.1 k) ?_
    show Run p e below s 0 0 (Q_rm3_3 Z a1 w2 f_w2 x4 x6 x8 h0 n0) (T3.setTop (mkF m 15 #[.val (.ref a1), .val (.ref w2), .val (.int (3 : Int32)), .val (.int (1 : Int32)), .val (.int x4)] []))
    refine Run.go (fun _ k => XS.aloadN X3.here hx rfl (hb hby d3_15) rfl rfl k) ?_
    show Run p e below s 0 0 (Q_rm3_3 Z a1 w2 f_w2 x4 x6 x8 h0 n0) (T3.setTop (mkF m 16 #[.val (.ref a1), .val (.ref w2), .val (.int (3 : Int32)), .val (.int (1 : Int32)), .val (.int x4)] [(.ref w2)]))
    refine Run.go (fun _ k => XS.iloadN X3.here hx rfl (hb hby d3_16) rfl  k) ?_
    show Run p e below s 0 0 (Q_rm3_3 Z a1 w2 f_w2 x4 x6 x8 h0 n0) (T3.setTop (mkF m 17 #[.val (.ref a1), .val (.ref w2), .val (.int (3 : Int32)), .val (.int (1 : Int32)), .val (.int x4)] [(.int (1 : Int32)), (.ref w2)]))
    refine Run.go (fun _ k => ary_iget X3 hx hZ e3 A_w2 (by decide) (by decide) (g := (mkF m 17 #[.val (.ref a1), .val (.ref w2), .val (.int (3 : Int32)), .val (.int (1 : Int32)), .val (.int x4)] [(.int (1 : Int32)), (.ref w2)])) rfl rfl (hb hby d3_17) hx6 _ k) ?_
    show Run p e below s 0 0 (Q_rm3_3 Z a1 w2 f_w2 x4 x6 x8 h0 n0) (T3.setTop (mkF m 18 #[.val (.ref a1), .val (.ref w2), .val (.int (3 : Int32)), .val (.int (1 : Int32)), .val (.int x4)] [(.int x6)]))
    refine Run.go (fun _ k => XS.istore X3.here hx rfl (hb hby d3_18) rfl (l' := #[.val (.ref a1), .val (.ref w2), .val (.int (3 : Int32)), .val (.int (1 : Int32)), .val (.int x6)]) rfl k) ?_
    show Run p e below s 0 0 (Q_rm3_3 Z a1 w2 f_w2 x4 x6 x8 h0 n0) (T3.setTop (mkF m 20 #[.val (.ref a1), .val (.ref w2), .val (.int (3 : Int32)), .val (.int (1 : Int32)), .val (.int x6)] []))
    refine Run.go (fun _ k => XS.iload X3.here hx rfl (hb hby d3_20) rfl  k) ?_
    show Run p e below s 0 0 (Q_rm3_3 Z a1 w2 f_w2 x4 x6 x8 h0 n0) (T3.setTop (mkF m 22 #[.val (.ref a1), .val (.ref w2), .val (.int (3 : Int32)), .val (.int (1 : Int32)), .val (.int x6)] [(.int x6)]))
    by_cases hc7 : (x6 < (0 : Int32))
    · refine Run.go (fun _ k => XS.ifNo X3.here hx rfl (hb hby d3_22) rfl ((if0 _ _).trans (tlt hc7).2.1) k) ?_
      show Run p e below s 0 0 (Q_rm3_3 Z a1 w2 f_w2 x4 x6 x8 h0 n0) (T3.setTop (mkF m 25 #[.val (.ref a1), .val (.ref w2), .val (.int (3 : Int32)), .val (.int (1 : Int32)), .val (.int x6)] []))
      refine Run.go (fun _ k => XS.iconst X3.here hx rfl (hb hby d3_25) k) ?_
      show Run p e below s 0 0 (Q_rm3_3 Z a1 w2 f_w2 x4 x6 x8 h0 n0) (T3.setTop (mkF m 26 #[.val (.ref a1), .val (.ref w2), .val (.int (3 : Int32)), .val (.int (1 : Int32)), .val (.int x6)] [(.int (0 : Int32))]))
      refine Run.retN (y := (0 : Int32)) X3 hx (t := .boolean) Bd.returns (by simp) rfl Bd.notSynchronized (hb hby d3_26) (by decide) (by decide) ?_
      show Q_rm3_3 Z a1 w2 f_w2 x4 x6 x8 h0 n0 _ T3.heap _
      exact ⟨congrArg some (congrArg Value.int (show (0 : Int32) = (F_rm3_3 x4 x6 x8) from (by unfold F_rm3_3; rw [if_neg hc5, if_pos hc7]))), N0, e3⟩
    · refine Run.go (fun _ k => XS.ifYes X3.here hx rfl (pc0 := 22) (pc' := 27) rfl (hb hby d3_22) rfl ((if0 _ _).trans (flt hc7).2.1) (by decide) (by decide) k) ?_
      show Run p e below s 0 0 (Q_rm3_3 Z a1 w2 f_w2 x4 x6 x8 h0 n0) (T3.setTop (mkF m 27 #[.val (.ref a1), .val (.ref w2), .val (.int (3 : Int32)), .val (.int (1 : Int32)), .val (.int x6)] []))
      refine Run.go (fun _ k => XS.iinc X3.here hx rfl (hb hby d3_27) rfl (l' := #[.val (.ref a1), .val (.ref w2), .val (.int (3 : Int32)), .val (.int (2 : Int32)), .val (.int x6)]) rfl k) ?_
      show Run p e below s 0 0 (Q_rm3_3 Z a1 w2 f_w2 x4 x6 x8 h0 n0) (T3.setTop (mkF m 30 #[.val (.ref a1), .val (.ref w2), .val (.int (3 : Int32)), .val (.int (2 : Int32)), .val (.int x6)] []))
      refine Run.go (fun _ k => XS.goto X3.here hx rfl (pc0 := 30) (pc' := 10) rfl (hb hby d3_30) (by decide) (by decide) k) ?_
      show Run p e below s 0 0 (Q_rm3_3 Z a1 w2 f_w2 x4 x6 x8 h0 n0) (T3.setTop (mkF m 10 #[.val (.ref a1), .val (.ref w2), .val (.int (3 : Int32)), .val (.int (2 : Int32)), .val (.int x6)] []))
      refine Run.go (fun _ k => XS.iloadN X3.here hx rfl (hb hby d3_10) rfl  k) ?_
      show Run p e below s 0 0 (Q_rm3_3 Z a1 w2 f_w2 x4 x6 x8 h0 n0) (T3.setTop (mkF m 11 #[.val (.ref a1), .val (.ref w2), .val (.int (3 : Int32)), .val (.int (2 : Int32)), .val (.int x6)] [(.int (2 : Int32))]))
      refine Run.go (fun _ k => XS.iloadN X3.here hx rfl (hb hby d3_11) rfl  k) ?_
      show Run p e below s 0 0 (Q_rm3_3 Z a1 w2 f_w2 x4 x6 x8 h0 n0) (T3.setTop (mkF m 12 #[.val (.ref a1), .val (.ref w2), .val (.int (3 : Int32)), .val (.int (2 : Int32)), .val (.int x6)] [(.int (3 : Int32)), (.int (2 : Int32))]))
      refine Run.go (fun _ k => XS.icmpNo X3.here hx rfl (hb hby d3_12) rfl (tlt (by decide)).2.1 k) ?_
      show Run p e below s 0 0 (Q_rm3_3 Z a1 w2 f_w2 x4 x6 x8 h0 n0) (T3.setTop (mkF m 15 #[.val (.ref a1), .val (.ref w2), .val (.int (3 : Int32)), .val (.int (2 : Int32)), .val (.int x6)] []))
      refine Run.go (fun _ k => XS.aloadN X3.here hx rfl (hb hby d3_15) rfl rfl k) ?_
      show Run p e below s 0 0 (Q_rm3_3 Z a1 w2 f_w2 x4 x6 x8 h0 n0) (T3.setTop (mkF m 16 #[.val (.ref a1), .val (.ref w2), .val (.int (3 : Int32)), .val (.int (2 : Int32)), .val (.int x6)] [(.ref w2)]))
      refine Run.go (fun _ k => XS.iloadN X3.here hx rfl (hb hby d3_16) rfl  k) ?_
      show Run p e below s 0 0 (Q_rm3_3 Z a1 w2 f_w2 x4 x6 x8 h0 n0) (T3.setTop (mkF m 17 #[.val (.ref a1), .val (.ref w2), .val (.int (3 : Int32)), .val (.int (2 : Int32)), .val (.int x6)] [(.int (2 : Int32)), (.ref w2)]))
      refine Run.go (fun _ k => ary_iget X3 hx hZ e3 A_w2 (by decide) (by decide) (g := (mkF m 17 #[.val (.ref a1), .val (.ref w2), .val (.int (3 : Int32)), .val (.int (2 : Int32)), .val (.int x6)] [(.int (2 : Int32)), (.ref w2)])) rfl rfl (hb hby d3_17) hx8 _ k) ?_
      show Run p e below s 0 0 (Q_rm3_3 Z a1 w2 f_w2 x4 x6 x8 h0 n0) (T3.setTop (mkF m 18 #[.val (.ref a1), .val (.ref w2), .val (.int (3 : Int32)), .val (.int (2 : Int32)), .val (.int x6)] [(.int x8)]))
      refine Run.go (fun _ k => XS.istore X3.here hx rfl (hb hby d3_18) rfl (l' := #[.val (.ref a1), .val (.ref w2), .val (.int (3 : Int32)), .val (.int (2 : Int32)), .val (.int x8)]) rfl k) ?_
      show Run p e below s 0 0 (Q_rm3_3 Z a1 w2 f_w2 x4 x6 x8 h0 n0) (T3.setTop (mkF m 20 #[.val (.ref a1), .val (.ref w2), .val (.int (3 : Int32)), .val (.int (2 : Int32)), .val (.int x8)] []))
      refine Run.go (fun _ k => XS.iload X3.here hx rfl (hb hby d3_20) rfl  k) ?_
      show Run p e below s 0 0 (Q_rm3_3 Z a1 w2 f_w2 x4 x6 x8 h0 n0) (T3.setTop (mkF m 22 #[.val (.ref a1), .val (.ref w2), .val (.int (3 : Int32)), .val (.int (2 : Int32)), .val (.int x8)] [(.int x8)]))
      by_cases hc9 : (x8 < (0 : Int32))
      · refine Run.go (fun _ k => XS.ifNo X3.here hx rfl (hb hby d3_22) rfl ((if0 _ _).trans (tlt hc9).2.1) k) ?_
        show Run p e below s 0 0 (Q_rm3_3 Z a1 w2 f_w2 x4 x6 x8 h0 n0) (T3.setTop (mkF m 25 #[.val (.ref a1), .val (.ref w2), .val (.int (3 : Int32)), .val (.int (2 : Int32)), .val (.int x8)] []))
        refine Run.go (fun _ k => XS.iconst X3.here hx rfl (hb hby d3_25) k) ?_
        show Run p e below s 0 0 (Q_rm3_3 Z a1 w2 f_w2 x4 x6 x8 h0 n0) (T3.setTop (mkF m 26 #[.val (.ref a1), .val (.ref w2), .val (.int (3 : Int32)), .val (.int (2 : Int32)), .val (.int x8)] [(.int (0 : Int32))]))
        refine Run.retN (y := (0 : Int32)) X3 hx (t := .boolean) Bd.returns (by simp) rfl Bd.notSynchronized (hb hby d3_26) (by decide) (by decide) ?_
        show Q_rm3_3 Z a1 w2 f_w2 x4 x6 x8 h0 n0 _ T3.heap _
        exact ⟨congrArg some (congrArg Value.int (show (0 : Int32) = (F_rm3_3 x4 x6 x8) from (by unfold F_rm3_3; rw [if_neg hc5, if_neg hc7, if_pos hc9]))), N0, e3⟩
      · refine Run.go (fun _ k => XS.ifYes X3.here hx rfl (pc0 := 22) (pc' := 27) rfl (hb hby d3_22) rfl ((if0 _ _).trans (flt hc9).2.1) (by decide) (by decide) k) ?_
        show Run p e below s 0 0 (Q_rm3_3 Z a1 w2 f_w2 x4 x6 x8 h0 n0) (T3.setTop (mkF m 27 #[.val (.ref a1), .val (.ref w2), .val (.int (3 : Int32)), .val (.int (2 : Int32)), .val (.int x8)] []))
        refine Run.go (fun _ k => XS.iinc X3.here hx rfl (hb hby d3_27) rfl (l' := #[.val (.ref a1), .val (.ref w2), .val (.int (3 : Int32)), .val (.int (3 : Int32)), .val (.int x8)]) rfl k) ?_
        show Run p e below s 0 0 (Q_rm3_3 Z a1 w2 f_w2 x4 x6 x8 h0 n0) (T3.setTop (mkF m 30 #[.val (.ref a1), .val (.ref w2), .val (.int (3 : Int32)), .val (.int (3 : Int32)), .val (.int x8)] []))
        refine Run.go (fun _ k => XS.goto X3.here hx rfl (pc0 := 30) (pc' := 10) rfl (hb hby d3_30) (by decide) (by decide) k) ?_
        show Run p e below s 0 0 (Q_rm3_3 Z a1 w2 f_w2 x4 x6 x8 h0 n0) (T3.setTop (mkF m 10 #[.val (.ref a1), .val (.ref w2), .val (.int (3 : Int32)), .val (.int (3 : Int32)), .val (.int x8)] []))
        refine Run.go (fun _ k => XS.iloadN X3.here hx rfl (hb hby d3_10) rfl  k) ?_
        show Run p e below s 0 0 (Q_rm3_3 Z a1 w2 f_w2 x4 x6 x8 h0 n0) (T3.setTop (mkF m 11 #[.val (.ref a1), .val (.ref w2), .val (.int (3 : Int32)), .val (.int (3 : Int32)), .val (.int x8)] [(.int (3 : Int32))]))
        refine Run.go (fun _ k => XS.iloadN X3.here hx rfl (hb hby d3_11) rfl  k) ?_
        show Run p e below s 0 0 (Q_rm3_3 Z a1 w2 f_w2 x4 x6 x8 h0 n0) (T3.setTop (mkF m 12 #[.val (.ref a1), .val (.ref w2), .val (.int (3 : Int32)), .val (.int (3 : Int32)), .val (.int x8)] [(.int (3 : Int32)), (.int (3 : Int32))]))
        refine Run.go (fun _ k => XS.icmpYes X3.here hx rfl (pc0 := 12) (pc' := 33) rfl (hb hby d3_12) rfl (flt (by decide)).2.1 (by decide) (by decide) k) ?_
        show Run p e below s 0 0 (Q_rm3_3 Z a1 w2 f_w2 x4 x6 x8 h0 n0) (T3.setTop (mkF m 33 #[.val (.ref a1), .val (.ref w2), .val (.int (3 : Int32)), .val (.int (3 : Int32)), .val (.int x8)] []))
        refine Run.go (fun _ k => XS.iconst X3.here hx rfl (hb hby d3_33) k) ?_
        show Run p e below s 0 0 (Q_rm3_3 Z a1 w2 f_w2 x4 x6 x8 h0 n0) (T3.setTop (mkF m 34 #[.val (.ref a1), .val (.ref w2), .val (.int (3 : Int32)), .val (.int (3 : Int32)), .val (.int x8)] [(.int (1 : Int32))]))
        refine Run.retN (y := (1 : Int32)) X3 hx (t := .boolean) Bd.returns (by simp) rfl Bd.notSynchronized (hb hby d3_34) (by decide) (by decide) ?_
        show Q_rm3_3 Z a1 w2 f_w2 x4 x6 x8 h0 n0 _ T3.heap _
        exact ⟨congrArg some (congrArg Value.int (show (1 : Int32) = (F_rm3_3 x4 x6 x8) from (by unfold F_rm3_3; rw [if_neg hc5, if_neg hc7, if_neg hc9]))), N0, e3⟩
def F_rm3_4 (x4 : Int32) (x6 : Int32) (x8 : Int32) (x10 : Int32) : Int32 := (if (x4 < (0 : Int32)) then (0 : Int32) else (if (x6 < (0 : Int32)) then (0 : Int32) else (if (x8 < (0 : Int32)) then (0 : Int32) else (if (x10 < (0 : Int32)) then (0 : Int32) else (1 : Int32)))))
theorem F_rm3_4_b (x4 : Int32) (x6 : Int32) (x8 : Int32) (x10 : Int32) : (F_rm3_4 x4 x6 x8 x10) = 0 ∨ (F_rm3_4 x4 x6 x8 x10) = 1 := by unfold F_rm3_4; (repeat' split) <;> simp
def Q_rm3_4 (Z : State) (a1 : Addr) (w2 : Addr) (f_w2 : Nat → Value) (x4 : Int32) (x6 : Int32) (x8 : Int32) (x10 : Int32) (h0 : Heap) (n0 : Nat) (v : Option Value) (h : Heap) (L : List Loc) : Prop := v = some (.int (F_rm3_4 x4 x6 x8 x10)) ∧ Fr n0 L ∧ h = h0
theorem ef_rm3_4 (m : MethodId) (x0 : Addr) : entryFrame m #[(.ref x0)] 5 = mkF m 0 #[.val (.ref x0), .unset, .unset, .unset, .unset] [] := by first | (simp [entryFrame, mkF, argsToLocals, Value.category]; done) | rfl
set_option maxRecDepth 65536 in
set_option maxHeartbeats 40000000 in
theorem rm3_4 (l : Launch) (Z : State) (a0 : Array Value) (hw : ∀ d ∈ tables_1, d.before a0 Z = true) (ws : List Jvm.Cond) (a1 : Addr) (w2 : Addr) (f_w2 : Nat → Value) (x4 : Int32) (x6 : Int32) (x8 : Int32) (x10 : Int32) (h0 : Heap) (n0 : Nat) (Z0 : n0 ≤ h0.size) (F_terms_a1 : Fld Z h0 a1 "com/example/nestor/nestor/reasoning/Pattern" "terms" "[I" (.ref w2)) (A_w2 : Ary Z h0 w2 .int 4 f_w2) (hx4 : f_w2 0 = (.int x4)) (hx6 : f_w2 1 = (.int x6)) (hx8 : f_w2 2 = (.int x8)) (hx10 : f_w2 3 = (.int x10)) :
    MetFree l (⟨"com/example/nestor/nestor/reasoning/Pattern", "isGround", "()Z"⟩ : MethodName) (head1 (Jvm.Cond.code (⟨"com/example/nestor/nestor/reasoning/Pattern", "isGround", "()Z"⟩ : MethodName) prog_43_method_4_code 5 (some .boolean) :: ws) ({ frames := 0, cells := 0, slots := 0, locals := 0 } : Room)) (fun a U => a = #[(.ref a1)] ∧ Z.Warmed39 U.vm ∧ U.heap = h0) (fun _ _ _ _ _ => True) (fun _ U o U' => ∃ v L, o = .returned v ∧ Q_rm3_4 Z a1 w2 f_w2 x4 x6 x8 x10 h0 n0 v U'.heap L ∧ FrameEnd U o U' L ({ frames := 0, cells := 0, slots := 0, locals := 0 } : Room).cells ({ frames := 0, cells := 0, slots := 0, locals := 0 } : Room).slots) := by
  refine MetFree.of_bodySF (plainFor_of_name pn_0) hisR ?_
  intro p e s m args below meth c s₁ Bd hml0 hP hK
  obtain ⟨rfl, hZ, hh⟩ := hP
  have hx := Bd.exec
  have hby := Bd.bytes
  have hml : c.maxLocals = 5 := hml0
  have hown : s.vm.findClass "com/example/nestor/nestor/reasoning/Pattern" = some m.cls := findClass_of_methodNamed Bd.named
  have hnm := (name_of_methodNamed Bd.named Bd.method).1
  have X0 : Stand p l e ({ frames := 0, cells := 0, slots := 0, locals := 0 } : Room) s m #[(.ref a1)] below meth c s₁ [] 0 0 := Stand.of_body Bd
  have e0 : s₁.heap = h0 := by rw [← hh, Bd.state]; rfl
  have N0 := Fr.nil n0
  show Run p e below s 0 0 (Q_rm3_4 Z a1 w2 f_w2 x4 x6 x8 x10 h0 n0) (s₁.setTop (entryFrame m #[(.ref a1)] 5))
  refine Run.go (fun _ k => castTop (ef_rm3_4 m a1) k) ?_
  show Run p e below s 0 0 (Q_rm3_4 Z a1 w2 f_w2 x4 x6 x8 x10 h0 n0) (s₁.setTop (mkF m 0 #[.val (.ref a1), .unset, .unset, .unset, .unset] []))
  refine Run.go (fun _ k => XS.aloadN X0.here hx rfl (hb hby d3_0) rfl rfl k) ?_
  show Run p e below s 0 0 (Q_rm3_4 Z a1 w2 f_w2 x4 x6 x8 x10 h0 n0) (s₁.setTop (mkF m 1 #[.val (.ref a1), .unset, .unset, .unset, .unset] [(.ref a1)]))
  obtain ⟨T3, X3, e3, st3⟩ := getF X0 hx hZ hown (host := "") (Or.inl (hw _ (List.mem_of_getElem? (i := 12) rfl))) Via.refl e0 F_terms_a1 (g := (mkF m 1 #[.val (.ref a1), .unset, .unset, .unset, .unset] [(.ref a1)])) rfl rfl (hb hby d3_1)
  refine Run.go st3 ?_
  show Run p e below s 0 0 (Q_rm3_4 Z a1 w2 f_w2 x4 x6 x8 x10 h0 n0) (T3.setTop (mkF m 4 #[.val (.ref a1), .unset, .unset, .unset, .unset] [(.ref w2)]))
  refine Run.go (fun _ k => XS.astoreN X3.here hx rfl (hb hby d3_4) rfl rfl (l' := #[.val (.ref a1), .val (.ref w2), .unset, .unset, .unset]) rfl k) ?_
  show Run p e below s 0 0 (Q_rm3_4 Z a1 w2 f_w2 x4 x6 x8 x10 h0 n0) (T3.setTop (mkF m 5 #[.val (.ref a1), .val (.ref w2), .unset, .unset, .unset] []))
  refine Run.go (fun _ k => XS.aloadN X3.here hx rfl (hb hby d3_5) rfl rfl k) ?_
  show Run p e below s 0 0 (Q_rm3_4 Z a1 w2 f_w2 x4 x6 x8 x10 h0 n0) (T3.setTop (mkF m 6 #[.val (.ref a1), .val (.ref w2), .unset, .unset, .unset] [(.ref w2)]))
  refine Run.go (fun _ k => ary_len X3 hx hZ e3 A_w2 (g := (mkF m 6 #[.val (.ref a1), .val (.ref w2), .unset, .unset, .unset] [(.ref w2)])) rfl rfl (hb hby d3_6) (z := (4 : Int32)) (by decide) _ k) ?_
  show Run p e below s 0 0 (Q_rm3_4 Z a1 w2 f_w2 x4 x6 x8 x10 h0 n0) (T3.setTop (mkF m 7 #[.val (.ref a1), .val (.ref w2), .unset, .unset, .unset] [(.int (4 : Int32))]))
  refine Run.go (fun _ k => XS.istoreN X3.here hx rfl (hb hby d3_7) rfl (l' := #[.val (.ref a1), .val (.ref w2), .val (.int (4 : Int32)), .unset, .unset]) rfl k) ?_
  show Run p e below s 0 0 (Q_rm3_4 Z a1 w2 f_w2 x4 x6 x8 x10 h0 n0) (T3.setTop (mkF m 8 #[.val (.ref a1), .val (.ref w2), .val (.int (4 : Int32)), .unset, .unset] []))
  refine Run.go (fun _ k => XS.iconst X3.here hx rfl (hb hby d3_8) k) ?_
  show Run p e below s 0 0 (Q_rm3_4 Z a1 w2 f_w2 x4 x6 x8 x10 h0 n0) (T3.setTop (mkF m 9 #[.val (.ref a1), .val (.ref w2), .val (.int (4 : Int32)), .unset, .unset] [(.int (0 : Int32))]))
  refine Run.go (fun _ k => XS.istoreN X3.here hx rfl (hb hby d3_9) rfl (l' := #[.val (.ref a1), .val (.ref w2), .val (.int (4 : Int32)), .val (.int (0 : Int32)), .unset]) rfl k) ?_
  show Run p e below s 0 0 (Q_rm3_4 Z a1 w2 f_w2 x4 x6 x8 x10 h0 n0) (T3.setTop (mkF m 10 #[.val (.ref a1), .val (.ref w2), .val (.int (4 : Int32)), .val (.int (0 : Int32)), .unset] []))
  refine Run.go (fun _ k => XS.iloadN X3.here hx rfl (hb hby d3_10) rfl  k) ?_
  show Run p e below s 0 0 (Q_rm3_4 Z a1 w2 f_w2 x4 x6 x8 x10 h0 n0) (T3.setTop (mkF m 11 #[.val (.ref a1), .val (.ref w2), .val (.int (4 : Int32)), .val (.int (0 : Int32)), .unset] [(.int (0 : Int32))]))
  refine Run.go (fun _ k => XS.iloadN X3.here hx rfl (hb hby d3_11) rfl  k) ?_
  show Run p e below s 0 0 (Q_rm3_4 Z a1 w2 f_w2 x4 x6 x8 x10 h0 n0) (T3.setTop (mkF m 12 #[.val (.ref a1), .val (.ref w2), .val (.int (4 : Int32)), .val (.int (0 : Int32)), .unset] [(.int (4 : Int32)), (.int (0 : Int32))]))
  refine Run.go (fun _ k => XS.icmpNo X3.here hx rfl (hb hby d3_12) rfl (tlt (by decide)).2.1 k) ?_
  show Run p e below s 0 0 (Q_rm3_4 Z a1 w2 f_w2 x4 x6 x8 x10 h0 n0) (T3.setTop (mkF m 15 #[.val (.ref a1), .val (.ref w2), .val (.int (4 : Int32)), .val (.int (0 : Int32)), .unset] []))
  refine Run.go (fun _ k => XS.aloadN X3.here hx rfl (hb hby d3_15) rfl rfl k) ?_
  show Run p e below s 0 0 (Q_rm3_4 Z a1 w2 f_w2 x4 x6 x8 x10 h0 n0) (T3.setTop (mkF m 16 #[.val (.ref a1), .val (.ref w2), .val (.int (4 : Int32)), .val (.int (0 : Int32)), .unset] [(.ref w2)]))
  refine Run.go (fun _ k => XS.iloadN X3.here hx rfl (hb hby d3_16) rfl  k) ?_
  show Run p e below s 0 0 (Q_rm3_4 Z a1 w2 f_w2 x4 x6 x8 x10 h0 n0) (T3.setTop (mkF m 17 #[.val (.ref a1), .val (.ref w2), .val (.int (4 : Int32)), .val (.int (0 : Int32)), .unset] [(.int (0 : Int32)), (.ref w2)]))
  refine Run.go (fun _ k => ary_iget X3 hx hZ e3 A_w2 (by decide) (by decide) (g := (mkF m 17 #[.val (.ref a1), .val (.ref w2), .val (.int (4 : Int32)), .val (.int (0 : Int32)), .unset] [(.int (0 : Int32)), (.ref w2)])) rfl rfl (hb hby d3_17) hx4 _ k) ?_
  show Run p e below s 0 0 (Q_rm3_4 Z a1 w2 f_w2 x4 x6 x8 x10 h0 n0) (T3.setTop (mkF m 18 #[.val (.ref a1), .val (.ref w2), .val (.int (4 : Int32)), .val (.int (0 : Int32)), .unset] [(.int x4)]))
  refine Run.go (fun _ k => XS.istore X3.here hx rfl (hb hby d3_18) rfl (l' := #[.val (.ref a1), .val (.ref w2), .val (.int (4 : Int32)), .val (.int (0 : Int32)), .val (.int x4)]) rfl k) ?_
  show Run p e below s 0 0 (Q_rm3_4 Z a1 w2 f_w2 x4 x6 x8 x10 h0 n0) (T3.setTop (mkF m 20 #[.val (.ref a1), .val (.ref w2), .val (.int (4 : Int32)), .val (.int (0 : Int32)), .val (.int x4)] []))
  refine Run.go (fun _ k => XS.iload X3.here hx rfl (hb hby d3_20) rfl  k) ?_
  show Run p e below s 0 0 (Q_rm3_4 Z a1 w2 f_w2 x4 x6 x8 x10 h0 n0) (T3.setTop (mkF m 22 #[.val (.ref a1), .val (.ref w2), .val (.int (4 : Int32)), .val (.int (0 : Int32)), .val (.int x4)] [(.int x4)]))
  by_cases hc5 : (x4 < (0 : Int32))
  · refine Run.go (fun _ k => XS.ifNo X3.here hx rfl (hb hby d3_22) rfl ((if0 _ _).trans (tlt hc5).2.1) k) ?_
    show Run p e below s 0 0 (Q_rm3_4 Z a1 w2 f_w2 x4 x6 x8 x10 h0 n0) (T3.setTop (mkF m 25 #[.val (.ref a1), .val (.ref w2), .val (.int (4 : Int32)), .val (.int (0 : Int32)), .val (.int x4)] []))
    refine Run.go (fun _ k => XS.iconst X3.here hx rfl (hb hby d3_25) k) ?_
    show Run p e below s 0 0 (Q_rm3_4 Z a1 w2 f_w2 x4 x6 x8 x10 h0 n0) (T3.setTop (mkF m 26 #[.val (.ref a1), .val (.ref w2), .val (.int (4 : Int32)), .val (.int (0 : Int32)), .val (.int x4)] [(.int (0 : Int32))]))
    refine Run.retN (y := (0 : Int32)) X3 hx (t := .boolean) Bd.returns (by simp) rfl Bd.notSynchronized (hb hby d3_26) (by decide) (by decide) ?_
    show Q_rm3_4 Z a1 w2 f_w2 x4 x6 x8 x10 h0 n0 _ T3.heap _
    exact ⟨congrArg some (congrArg Value.int (show (0 : Int32) = (F_rm3_4 x4 x6 x8 x10) from (by unfold F_rm3_4; rw [if_pos hc5]))), N0, e3⟩
  · refine Run.go (fun _ k => XS.ifYes X3.here hx rfl (pc0 := 22) (pc' := 27) rfl (hb hby d3_22) rfl ((if0 _ _).trans (flt hc5).2.1) (by decide) (by decide) k) ?_
    show Run p e below s 0 0 (Q_rm3_4 Z a1 w2 f_w2 x4 x6 x8 x10 h0 n0) (T3.setTop (mkF m 27 #[.val (.ref a1), .val (.ref w2), .val (.int (4 : Int32)), .val (.int (0 : Int32)), .val (.int x4)] []))
    refine Run.go (fun _ k => XS.iinc X3.here hx rfl (hb hby d3_27) rfl (l' := #[.val (.ref a1), .val (.ref w2), .val (.int (4 : Int32)), .val (.int (1 : Int32)), .val (.int x4)]) rfl k) ?_
    show Run p e below s 0 0 (Q_rm3_4 Z a1 w2 f_w2 x4 x6 x8 x10 h0 n0) (T3.setTop (mkF m 30 #[.val (.ref a1), .val (.ref w2), .val (.int (4 : Int32)), .val (.int (1 : Int32)), .val (.int x4)] []))
    refine Run.go (fun _ k => XS.goto X3.here hx rfl (pc0 := 30) (pc' := 10) rfl (hb hby d3_30) (by decide) (by decide) k) ?_
    show Run p e below s 0 0 (Q_rm3_4 Z a1 w2 f_w2 x4 x6 x8 x10 h0 n0) (T3.setTop (mkF m 10 #[.val (.ref a1), .val (.ref w2), .val (.int (4 : Int32)), .val (.int (1 : Int32)), .val (.int x4)] []))
    refine Run.go (fun _ k => XS.iloadN X3.here hx rfl (hb hby d3_10) rfl  k) ?_
    show Run p e below s 0 0 (Q_rm3_4 Z a1 w2 f_w2 x4 x6 x8 x10 h0 n0) (T3.setTop (mkF m 11 #[.val (.ref a1), .val (.ref w2), .val (.int (4 : Int32)), .val (.int (1 : Int32)), .val (.int x4)] [(.int (1 : Int32))]))
    refine Run.go (fun _ k => XS.iloadN X3.here hx rfl (hb hby d3_11) rfl  k) ?_
    show Run p e below s 0 0 (Q_rm3_4 Z a1 w2 f_w2 x4 x6 x8 x10 h0 n0) (T3.setTop (mkF m 12 #[.val (.ref a1), .val (.ref w2), .val (.int (4 : Int32)), .val (.int (1 : Int32)), .val (.int x4)] [(.int (4 : Int32)), (.int (1 : Int32))]))
    refine Run.go (fun _ k => XS.icmpNo X3.here hx rfl (hb hby d3_12) rfl (tlt (by decide)).2.1 k) ?_
    show Run p e below s 0 0 (Q_rm3_4 Z a1 w2 f_w2 x4 x6 x8 x10 h0 n0) (T3.setTop (mkF m 15 #[.val (.ref a1), .val (.ref w2), .val (.int (4 : Int32)), .val (.int (1 : Int32)), .val (.int x4)] []))
    refine Run.go (fun _ k => XS.aloadN X3.here hx rfl (hb hby d3_15) rfl rfl k) ?_
    show Run p e below s 0 0 (Q_rm3_4 Z a1 w2 f_w2 x4 x6 x8 x10 h0 n0) (T3.setTop (mkF m 16 #[.val (.ref a1), .val (.ref w2), .val (.int (4 : Int32)), .val (.int (1 : Int32)), .val (.int x4)] [(.ref w2)]))
    refine Run.go (fun _ k => XS.iloadN X3.here hx rfl (hb hby d3_16) rfl  k) ?_
    show Run p e below s 0 0 (Q_rm3_4 Z a1 w2 f_w2 x4 x6 x8 x10 h0 n0) (T3.setTop (mkF m 17 #[.val (.ref a1), .val (.ref w2), .val (.int (4 : Int32)), .val (.int (1 : Int32)), .val (.int x4)] [(.int (1 : Int32)), (.ref w2)]))
    refine Run.go (fun _ k => ary_iget X3 hx hZ e3 A_w2 (by decide) (by decide) (g := (mkF m 17 #[.val (.ref a1), .val (.ref w2), .val (.int (4 : Int32)), .val (.int (1 : Int32)), .val (.int x4)] [(.int (1 : Int32)), (.ref w2)])) rfl rfl (hb hby d3_17) hx6 _ k) ?_
    show Run p e below s 0 0 (Q_rm3_4 Z a1 w2 f_w2 x4 x6 x8 x10 h0 n0) (T3.setTop (mkF m 18 #[.val (.ref a1), .val (.ref w2), .val (.int (4 : Int32)), .val (.int (1 : Int32)), .val (.int x4)] [(.int x6)]))
    refine Run.go (fun _ k => XS.istore X3.here hx rfl (hb hby d3_18) rfl (l' := #[.val (.ref a1), .val (.ref w2), .val (.int (4 : Int32)), .val (.int (1 : Int32)), .val (.int x6)]) rfl k) ?_
    show Run p e below s 0 0 (Q_rm3_4 Z a1 w2 f_w2 x4 x6 x8 x10 h0 n0) (T3.setTop (mkF m 20 #[.val (.ref a1), .val (.ref w2), .val (.int (4 : Int32)), .val (.int (1 : Int32)), .val (.int x6)] []))
    refine Run.go (fun _ k => XS.iload X3.here hx rfl (hb hby d3_20) rfl  k) ?_
    show Run p e below s 0 0 (Q_rm3_4 Z a1 w2 f_w2 x4 x6 x8 x10 h0 n0) (T3.setTop (mkF m 22 #[.val (.ref a1), .val (.ref w2), .val (.int (4 : Int32)), .val (.int (1 : Int32)), .val (.int x6)] [(.int x6)]))
    by_cases hc7 : (x6 < (0 : Int32))
    · refine Run.go (fun _ k => XS.ifNo X3.here hx rfl (hb hby d3_22) rfl ((if0 _ _).trans (tlt hc7).2.1) k) ?_
      show Run p e below s 0 0 (Q_rm3_4 Z a1 w2 f_w2 x4 x6 x8 x10 h0 n0) (T3.setTop (mkF m 25 #[.val (.ref a1), .val (.ref w2), .val (.int (4 : Int32)), .val (.int (1 : Int32)), .val (.int x6)] []))
      refine Run.go (fun _ k => XS.iconst X3.here hx rfl (hb hby d3_25) k) ?_
      show Run p e below s 0 0 (Q_rm3_4 Z a1 w2 f_w2 x4 x6 x8 x10 h0 n0) (T3.setTop (mkF m 26 #[.val (.ref a1), .val (.ref w2), .val (.int (4 : Int32)), .val (.int (1 : Int32)), .val (.int x6)] [(.int (0 : Int32))]))
      refine Run.retN (y := (0 : Int32)) X3 hx (t := .boolean) Bd.returns (by simp) rfl Bd.notSynchronized (hb hby d3_26) (by decide) (by decide) ?_
      show Q_rm3_4 Z a1 w2 f_w2 x4 x6 x8 x10 h0 n0 _ T3.heap _
      exact ⟨congrArg some (congrArg Value.int (show (0 : Int32) = (F_rm3_4 x4 x6 x8 x10) from (by unfold F_rm3_4; rw [if_neg hc5, if_pos hc7]))), N0, e3⟩
    · refine Run.go (fun _ k => XS.ifYes X3.here hx rfl (pc0 := 22) (pc' := 27) rfl (hb hby d3_22) rfl ((if0 _ _).trans (flt hc7).2.1) (by decide) (by decide) k) ?_
      show Run p e below s 0 0 (Q_rm3_4 Z a1 w2 f_w2 x4 x6 x8 x10 h0 n0) (T3.setTop (mkF m 27 #[.val (.ref a1), .val (.ref w2), .val (.int (4 : Int32)), .val (.int (1 : Int32)), .val (.int x6)] []))
      refine Run.go (fun _ k => XS.iinc X3.here hx rfl (hb hby d3_27) rfl (l' := #[.val (.ref a1), .val (.ref w2), .val (.int (4 : Int32)), .val (.int (2 : Int32)), .val (.int x6)]) rfl k) ?_
      show Run p e below s 0 0 (Q_rm3_4 Z a1 w2 f_w2 x4 x6 x8 x10 h0 n0) (T3.setTop (mkF m 30 #[.val (.ref a1), .val (.ref w2), .val (.int (4 : Int32)), .val (.int (2 : Int32)), .val (.int x6)] []))
      refine Run.go (fun _ k => XS.goto X3.here hx rfl (pc0 := 30) (pc' := 10) rfl (hb hby d3_30) (by decide) (by decide) k) ?_
      show Run p e below s 0 0 (Q_rm3_4 Z a1 w2 f_w2 x4 x6 x8 x10 h0 n0) (T3.setTop (mkF m 10 #[.val (.ref a1), .val (.ref w2), .val (.int (4 : Int32)), .val (.int (2 : Int32)), .val (.int x6)] []))
      refine Run.go (fun _ k => XS.iloadN X3.here hx rfl (hb hby d3_10) rfl  k) ?_
      show Run p e below s 0 0 (Q_rm3_4 Z a1 w2 f_w2 x4 x6 x8 x10 h0 n0) (T3.setTop (mkF m 11 #[.val (.ref a1), .val (.ref w2), .val (.int (4 : Int32)), .val (.int (2 : Int32)), .val (.int x6)] [(.int (2 : Int32))]))
      refine Run.go (fun _ k => XS.iloadN X3.here hx rfl (hb hby d3_11) rfl  k) ?_
      show Run p e below s 0 0 (Q_rm3_4 Z a1 w2 f_w2 x4 x6 x8 x10 h0 n0) (T3.setTop (mkF m 12 #[.val (.ref a1), .val (.ref w2), .val (.int (4 : Int32)), .val (.int (2 : Int32)), .val (.int x6)] [(.int (4 : Int32)), (.int (2 : Int32))]))
      refine Run.go (fun _ k => XS.icmpNo X3.here hx rfl (hb hby d3_12) rfl (tlt (by decide)).2.1 k) ?_
      show Run p e below s 0 0 (Q_rm3_4 Z a1 w2 f_w2 x4 x6 x8 x10 h0 n0) (T3.setTop (mkF m 15 #[.val (.ref a1), .val (.ref w2), .val (.int (4 : Int32)), .val (.int (2 : Int32)), .val (.int x6)] []))
      refine Run.go (fun _ k => XS.aloadN X3.here hx rfl (hb hby d3_15) rfl rfl k) ?_
      show Run p e below s 0 0 (Q_rm3_4 Z a1 w2 f_w2 x4 x6 x8 x10 h0 n0) (T3.setTop (mkF m 16 #[.val (.ref a1), .val (.ref w2), .val (.int (4 : Int32)), .val (.int (2 : Int32)), .val (.int x6)] [(.ref w2)]))
      refine Run.go (fun _ k => XS.iloadN X3.here hx rfl (hb hby d3_16) rfl  k) ?_
      show Run p e below s 0 0 (Q_rm3_4 Z a1 w2 f_w2 x4 x6 x8 x10 h0 n0) (T3.setTop (mkF m 17 #[.val (.ref a1), .val (.ref w2), .val (.int (4 : Int32)), .val (.int (2 : Int32)), .val (.int x6)] [(.int (2 : Int32)), (.ref w2)]))
      refine Run.go (fun _ k => ary_iget X3 hx hZ e3 A_w2 (by decide) (by decide) (g := (mkF m 17 #[.val (.ref a1), .val (.ref w2), .val (.int (4 : Int32)), .val (.int (2 : Int32)), .val (.int x6)] [(.int (2 : Int32)), (.ref w2)])) rfl rfl (hb hby d3_17) hx8 _ k) ?_
      show Run p e below s 0 0 (Q_rm3_4 Z a1 w2 f_w2 x4 x6 x8 x10 h0 n0) (T3.setTop (mkF m 18 #[.val (.ref a1), .val (.ref w2), .val (.int (4 : Int32)), .val (.int (2 : Int32)), .val (.int x6)] [(.int x8)]))
      refine Run.go (fun _ k => XS.istore X3.here hx rfl (hb hby d3_18) rfl (l' := #[.val (.ref a1), .val (.ref w2), .val (.int (4 : Int32)), .val (.int (2 : Int32)), .val (.int x8)]) rfl k) ?_
      show Run p e below s 0 0 (Q_rm3_4 Z a1 w2 f_w2 x4 x6 x8 x10 h0 n0) (T3.setTop (mkF m 20 #[.val (.ref a1), .val (.ref w2), .val (.int (4 : Int32)), .val (.int (2 : Int32)), .val (.int x8)] []))
      refine Run.go (fun _ k => XS.iload X3.here hx rfl (hb hby d3_20) rfl  k) ?_
      show Run p e below s 0 0 (Q_rm3_4 Z a1 w2 f_w2 x4 x6 x8 x10 h0 n0) (T3.setTop (mkF m 22 #[.val (.ref a1), .val (.ref w2), .val (.int (4 : Int32)), .val (.int (2 : Int32)), .val (.int x8)] [(.int x8)]))
      by_cases hc9 : (x8 < (0 : Int32))
      · refine Run.go (fun _ k => XS.ifNo X3.here hx rfl (hb hby d3_22) rfl ((if0 _ _).trans (tlt hc9).2.1) k) ?_
        show Run p e below s 0 0 (Q_rm3_4 Z a1 w2 f_w2 x4 x6 x8 x10 h0 n0) (T3.setTop (mkF m 25 #[.val (.ref a1), .val (.ref w2), .val (.int (4 : Int32)), .val (.int (2 : Int32)), .val (.int x8)] []))
        refine Run.go (fun _ k => XS.iconst X3.here hx rfl (hb hby d3_25) k) ?_
        show Run p e below s 0 0 (Q_rm3_4 Z a1 w2 f_w2 x4 x6 x8 x10 h0 n0) (T3.setTop (mkF m 26 #[.val (.ref a1), .val (.ref w2), .val (.int (4 : Int32)), .val (.int (2 : Int32)), .val (.int x8)] [(.int (0 : Int32))]))
        refine Run.retN (y := (0 : Int32)) X3 hx (t := .boolean) Bd.returns (by simp) rfl Bd.notSynchronized (hb hby d3_26) (by decide) (by decide) ?_
        show Q_rm3_4 Z a1 w2 f_w2 x4 x6 x8 x10 h0 n0 _ T3.heap _
        exact ⟨congrArg some (congrArg Value.int (show (0 : Int32) = (F_rm3_4 x4 x6 x8 x10) from (by unfold F_rm3_4; rw [if_neg hc5, if_neg hc7, if_pos hc9]))), N0, e3⟩
      · refine Run.go (fun _ k => XS.ifYes X3.here hx rfl (pc0 := 22) (pc' := 27) rfl (hb hby d3_22) rfl ((if0 _ _).trans (flt hc9).2.1) (by decide) (by decide) k) ?_
        show Run p e below s 0 0 (Q_rm3_4 Z a1 w2 f_w2 x4 x6 x8 x10 h0 n0) (T3.setTop (mkF m 27 #[.val (.ref a1), .val (.ref w2), .val (.int (4 : Int32)), .val (.int (2 : Int32)), .val (.int x8)] []))
        refine Run.go (fun _ k => XS.iinc X3.here hx rfl (hb hby d3_27) rfl (l' := #[.val (.ref a1), .val (.ref w2), .val (.int (4 : Int32)), .val (.int (3 : Int32)), .val (.int x8)]) rfl k) ?_
        show Run p e below s 0 0 (Q_rm3_4 Z a1 w2 f_w2 x4 x6 x8 x10 h0 n0) (T3.setTop (mkF m 30 #[.val (.ref a1), .val (.ref w2), .val (.int (4 : Int32)), .val (.int (3 : Int32)), .val (.int x8)] []))
        refine Run.go (fun _ k => XS.goto X3.here hx rfl (pc0 := 30) (pc' := 10) rfl (hb hby d3_30) (by decide) (by decide) k) ?_
        show Run p e below s 0 0 (Q_rm3_4 Z a1 w2 f_w2 x4 x6 x8 x10 h0 n0) (T3.setTop (mkF m 10 #[.val (.ref a1), .val (.ref w2), .val (.int (4 : Int32)), .val (.int (3 : Int32)), .val (.int x8)] []))
        refine Run.go (fun _ k => XS.iloadN X3.here hx rfl (hb hby d3_10) rfl  k) ?_
        show Run p e below s 0 0 (Q_rm3_4 Z a1 w2 f_w2 x4 x6 x8 x10 h0 n0) (T3.setTop (mkF m 11 #[.val (.ref a1), .val (.ref w2), .val (.int (4 : Int32)), .val (.int (3 : Int32)), .val (.int x8)] [(.int (3 : Int32))]))
        refine Run.go (fun _ k => XS.iloadN X3.here hx rfl (hb hby d3_11) rfl  k) ?_
        show Run p e below s 0 0 (Q_rm3_4 Z a1 w2 f_w2 x4 x6 x8 x10 h0 n0) (T3.setTop (mkF m 12 #[.val (.ref a1), .val (.ref w2), .val (.int (4 : Int32)), .val (.int (3 : Int32)), .val (.int x8)] [(.int (4 : Int32)), (.int (3 : Int32))]))
        refine Run.go (fun _ k => XS.icmpNo X3.here hx rfl (hb hby d3_12) rfl (tlt (by decide)).2.1 k) ?_
        show Run p e below s 0 0 (Q_rm3_4 Z a1 w2 f_w2 x4 x6 x8 x10 h0 n0) (T3.setTop (mkF m 15 #[.val (.ref a1), .val (.ref w2), .val (.int (4 : Int32)), .val (.int (3 : Int32)), .val (.int x8)] []))
        refine Run.go (fun _ k => XS.aloadN X3.here hx rfl (hb hby d3_15) rfl rfl k) ?_
        show Run p e below s 0 0 (Q_rm3_4 Z a1 w2 f_w2 x4 x6 x8 x10 h0 n0) (T3.setTop (mkF m 16 #[.val (.ref a1), .val (.ref w2), .val (.int (4 : Int32)), .val (.int (3 : Int32)), .val (.int x8)] [(.ref w2)]))
        refine Run.go (fun _ k => XS.iloadN X3.here hx rfl (hb hby d3_16) rfl  k) ?_
        show Run p e below s 0 0 (Q_rm3_4 Z a1 w2 f_w2 x4 x6 x8 x10 h0 n0) (T3.setTop (mkF m 17 #[.val (.ref a1), .val (.ref w2), .val (.int (4 : Int32)), .val (.int (3 : Int32)), .val (.int x8)] [(.int (3 : Int32)), (.ref w2)]))
        refine Run.go (fun _ k => ary_iget X3 hx hZ e3 A_w2 (by decide) (by decide) (g := (mkF m 17 #[.val (.ref a1), .val (.ref w2), .val (.int (4 : Int32)), .val (.int (3 : Int32)), .val (.int x8)] [(.int (3 : Int32)), (.ref w2)])) rfl rfl (hb hby d3_17) hx10 _ k) ?_
        show Run p e below s 0 0 (Q_rm3_4 Z a1 w2 f_w2 x4 x6 x8 x10 h0 n0) (T3.setTop (mkF m 18 #[.val (.ref a1), .val (.ref w2), .val (.int (4 : Int32)), .val (.int (3 : Int32)), .val (.int x8)] [(.int x10)]))
        refine Run.go (fun _ k => XS.istore X3.here hx rfl (hb hby d3_18) rfl (l' := #[.val (.ref a1), .val (.ref w2), .val (.int (4 : Int32)), .val (.int (3 : Int32)), .val (.int x10)]) rfl k) ?_
        show Run p e below s 0 0 (Q_rm3_4 Z a1 w2 f_w2 x4 x6 x8 x10 h0 n0) (T3.setTop (mkF m 20 #[.val (.ref a1), .val (.ref w2), .val (.int (4 : Int32)), .val (.int (3 : Int32)), .val (.int x10)] []))
        refine Run.go (fun _ k => XS.iload X3.here hx rfl (hb hby d3_20) rfl  k) ?_
        show Run p e below s 0 0 (Q_rm3_4 Z a1 w2 f_w2 x4 x6 x8 x10 h0 n0) (T3.setTop (mkF m 22 #[.val (.ref a1), .val (.ref w2), .val (.int (4 : Int32)), .val (.int (3 : Int32)), .val (.int x10)] [(.int x10)]))
        by_cases hc11 : (x10 < (0 : Int32))
        · refine Run.go (fun _ k => XS.ifNo X3.here hx rfl (hb hby d3_22) rfl ((if0 _ _).trans (tlt hc11).2.1) k) ?_
          show Run p e below s 0 0 (Q_rm3_4 Z a1 w2 f_w2 x4 x6 x8 x10 h0 n0) (T3.setTop (mkF m 25 #[.val (.ref a1), .val (.ref w2), .val (.int (4 : Int32)), .val (.int (3 : Int32)), .val (.int x10)] []))
          refine Run.go (fun _ k => XS.iconst X3.here hx rfl (hb hby d3_25) k) ?_
          show Run p e below s 0 0 (Q_rm3_4 Z a1 w2 f_w2 x4 x6 x8 x10 h0 n0) (T3.setTop (mkF m 26 #[.val (.ref a1), .val (.ref w2), .val (.int (4 : Int32)), .val (.int (3 : Int32)), .val (.int x10)] [(.int (0 : Int32))]))
          refine Run.retN (y := (0 : Int32)) X3 hx (t := .boolean) Bd.returns (by simp) rfl Bd.notSynchronized (hb hby d3_26) (by decide) (by decide) ?_
          show Q_rm3_4 Z a1 w2 f_w2 x4 x6 x8 x10 h0 n0 _ T3.heap _
          exact ⟨congrArg some (congrArg Value.int (show (0 : Int32) = (F_rm3_4 x4 x6 x8 x10) from (by unfold F_rm3_4; rw [if_neg hc5, if_neg hc7, if_neg hc9, if_pos hc11]))), N0, e3⟩
        · refine Run.go (fun _ k => XS.ifYes X3.here hx rfl (pc0 := 22) (pc' := 27) rfl (hb hby d3_22) rfl ((if0 _ _).trans (flt hc11).2.1) (by decide) (by decide) k) ?_
          show Run p e below s 0 0 (Q_rm3_4 Z a1 w2 f_w2 x4 x6 x8 x10 h0 n0) (T3.setTop (mkF m 27 #[.val (.ref a1), .val (.ref w2), .val (.int (4 : Int32)), .val (.int (3 : Int32)), .val (.int x10)] []))
          refine Run.go (fun _ k => XS.iinc X3.here hx rfl (hb hby d3_27) rfl (l' := #[.val (.ref a1), .val (.ref w2), .val (.int (4 : Int32)), .val (.int (4 : Int32)), .val (.int x10)]) rfl k) ?_
          show Run p e below s 0 0 (Q_rm3_4 Z a1 w2 f_w2 x4 x6 x8 x10 h0 n0) (T3.setTop (mkF m 30 #[.val (.ref a1), .val (.ref w2), .val (.int (4 : Int32)), .val (.int (4 : Int32)), .val (.int x10)] []))
          refine Run.go (fun _ k => XS.goto X3.here hx rfl (pc0 := 30) (pc' := 10) rfl (hb hby d3_30) (by decide) (by decide) k) ?_
          show Run p e below s 0 0 (Q_rm3_4 Z a1 w2 f_w2 x4 x6 x8 x10 h0 n0) (T3.setTop (mkF m 10 #[.val (.ref a1), .val (.ref w2), .val (.int (4 : Int32)), .val (.int (4 : Int32)), .val (.int x10)] []))
          refine Run.go (fun _ k => XS.iloadN X3.here hx rfl (hb hby d3_10) rfl  k) ?_
          show Run p e below s 0 0 (Q_rm3_4 Z a1 w2 f_w2 x4 x6 x8 x10 h0 n0) (T3.setTop (mkF m 11 #[.val (.ref a1), .val (.ref w2), .val (.int (4 : Int32)), .val (.int (4 : Int32)), .val (.int x10)] [(.int (4 : Int32))]))
          refine Run.go (fun _ k => XS.iloadN X3.here hx rfl (hb hby d3_11) rfl  k) ?_
          show Run p e below s 0 0 (Q_rm3_4 Z a1 w2 f_w2 x4 x6 x8 x10 h0 n0) (T3.setTop (mkF m 12 #[.val (.ref a1), .val (.ref w2), .val (.int (4 : Int32)), .val (.int (4 : Int32)), .val (.int x10)] [(.int (4 : Int32)), (.int (4 : Int32))]))
          refine Run.go (fun _ k => XS.icmpYes X3.here hx rfl (pc0 := 12) (pc' := 33) rfl (hb hby d3_12) rfl (flt (by decide)).2.1 (by decide) (by decide) k) ?_
          show Run p e below s 0 0 (Q_rm3_4 Z a1 w2 f_w2 x4 x6 x8 x10 h0 n0) (T3.setTop (mkF m 33 #[.val (.ref a1), .val (.ref w2), .val (.int (4 : Int32)), .val (.int (4 : Int32)), .val (.int x10)] []))
          refine Run.go (fun _ k => XS.iconst X3.here hx rfl (hb hby d3_33) k) ?_
          show Run p e below s 0 0 (Q_rm3_4 Z a1 w2 f_w2 x4 x6 x8 x10 h0 n0) (T3.setTop (mkF m 34 #[.val (.ref a1), .val (.ref w2), .val (.int (4 : Int32)), .val (.int (4 : Int32)), .val (.int x10)] [(.int (1 : Int32))]))
          refine Run.retN (y := (1 : Int32)) X3 hx (t := .boolean) Bd.returns (by simp) rfl Bd.notSynchronized (hb hby d3_34) (by decide) (by decide) ?_
          show Q_rm3_4 Z a1 w2 f_w2 x4 x6 x8 x10 h0 n0 _ T3.heap _
          exact ⟨congrArg some (congrArg Value.int (show (1 : Int32) = (F_rm3_4 x4 x6 x8 x10) from (by unfold F_rm3_4; rw [if_neg hc5, if_neg hc7, if_neg hc9, if_neg hc11]))), N0, e3⟩
theorem own_c (k : Int32) : (k &&& (7 : Int32)) % (5 : Int32) = 0 ∨ (k &&& (7 : Int32)) % (5 : Int32) = 1 ∨ (k &&& (7 : Int32)) % (5 : Int32) = 2 ∨ (k &&& (7 : Int32)) % (5 : Int32) = 3 ∨ (k &&& (7 : Int32)) % (5 : Int32) = 4 := by
  have h := c_and k 7 (by decide)
  have h2 := (c_irem (k &&& (7 : Int32)) 5 5 rfl).1 h.1
  simp only [← Int32.toInt_inj, show (0 : Int32).toInt = 0 from rfl, show (1 : Int32).toInt = 1 from rfl, show (2 : Int32).toInt = 2 from rfl, show (3 : Int32).toInt = 3 from rfl, show (4 : Int32).toInt = 4 from rfl]
  omega
theorem pd_0 : parseMethodDescriptor "(I[I)V" = some ⟨[.int, (.array .int)], none⟩ := by decide +kernel
theorem pd_1 : parseMethodDescriptor "()Z" = some ⟨[], some .boolean⟩ := by decide +kernel
def Q_rm0 (Z : State) (p1 : Int32) (p2 : Int32) (p3 : Int32) (p4 : Int32) (p5 : Int32) (p6 : Int32) (h0 : Heap) (n0 : Nat) (v : Option Value) (h : Heap) (L : List Loc) : Prop := v = some (.int 1) ∧ Fr n0 L
theorem ef_rm0 (m : MethodId) (x0 : Int32) (x1 : Int32) (x2 : Int32) (x3 : Int32) (x4 : Int32) (x5 : Int32) : entryFrame m #[(.int x0), (.int x1), (.int x2), (.int x3), (.int x4), (.int x5)] maxLocals = mkF m 0 #[.val (.int x0), .val (.int x1), .val (.int x2), .val (.int x3), .val (.int x4), .val (.int x5), .unset, .unset, .unset, .unset] [] := by first | (simp [entryFrame, mkF, argsToLocals, Value.category, maxLocals]; done) | rfl
theorem pn_1 : plainName "com/example/nestor/nestor/reasoning/PatternIsGroundPinLaw" = true := by first | (simp [plainName, overriddenIn]; done) | decide +kernel
set_option maxRecDepth 65536 in
set_option maxHeartbeats 40000000 in
theorem rm0 (l : Launch) (Z : State) (a0 : Array Value) (hw : ∀ d ∈ tables_1, d.before a0 Z = true) (ws : List Jvm.Cond) (p1 : Int32) (p2 : Int32) (p3 : Int32) (p4 : Int32) (p5 : Int32) (p6 : Int32) (h0 : Heap) (n0 : Nat) (Z0 : n0 ≤ h0.size)  :
    MetFree l x (head1 (Jvm.Cond.code x code maxLocals ret :: ws) room_1) (fun a U => a = #[(.int p1), (.int p2), (.int p3), (.int p4), (.int p5), (.int p6)] ∧ Z.Warmed39 U.vm ∧ U.heap = h0) (fun _ _ _ _ _ => True) (fun _ U o U' => ∃ v L, o = .returned v ∧ Q_rm0 Z p1 p2 p3 p4 p5 p6 h0 n0 v U'.heap L ∧ FrameEnd U o U' L 2 6) := by
  refine MetFree.of_bodySF (plainFor_of_name pn_1) hisR ?_
  intro p e s m args below meth c s₁ Bd hml0 hP hK
  obtain ⟨rfl, hZ, hh⟩ := hP
  have hx := Bd.exec
  have hby := Bd.bytes
  have hml : c.maxLocals = 10 := hml0
  have hown : s.vm.findClass "com/example/nestor/nestor/reasoning/PatternIsGroundPinLaw" = some m.cls := findClass_of_methodNamed Bd.named
  have hnm := (name_of_methodNamed Bd.named Bd.method).1
  have X0 : Stand p l e room_1 s m #[(.int p1), (.int p2), (.int p3), (.int p4), (.int p5), (.int p6)] below meth c s₁ [] 0 0 := Stand.of_body Bd
  have e0 : s₁.heap = h0 := by rw [← hh, Bd.state]; rfl
  have N0 := Fr.nil n0
  show Run p e below s 2 6 (Q_rm0 Z p1 p2 p3 p4 p5 p6 h0 n0) (s₁.setTop (entryFrame m #[(.int p1), (.int p2), (.int p3), (.int p4), (.int p5), (.int p6)] maxLocals))
  refine Run.go (fun _ k => castTop (ef_rm0 m p1 p2 p3 p4 p5 p6) k) ?_
  show Run p e below s 2 6 (Q_rm0 Z p1 p2 p3 p4 p5 p6 h0 n0) (s₁.setTop (mkF m 0 #[.val (.int p1), .val (.int p2), .val (.int p3), .val (.int p4), .val (.int p5), .val (.int p6), .unset, .unset, .unset, .unset] []))
  refine Run.go (fun _ k => XS.iloadN X0.here hx rfl (hb hby at_0) rfl  k) ?_
  show Run p e below s 2 6 (Q_rm0 Z p1 p2 p3 p4 p5 p6 h0 n0) (s₁.setTop (mkF m 1 #[.val (.int p1), .val (.int p2), .val (.int p3), .val (.int p4), .val (.int p5), .val (.int p6), .unset, .unset, .unset, .unset] [(.int p2)]))
  refine Run.go (fun _ k => XS.bipush X0.here hx rfl (hb hby at_1) k) ?_
  show Run p e below s 2 6 (Q_rm0 Z p1 p2 p3 p4 p5 p6 h0 n0) (s₁.setTop (mkF m 3 #[.val (.int p1), .val (.int p2), .val (.int p3), .val (.int p4), .val (.int p5), .val (.int p6), .unset, .unset, .unset, .unset] [(.int (7 : Int32)), (.int p2)]))
  refine Run.go (fun _ k => XS.iand X0.here hx rfl (hb hby at_3) rfl k) ?_
  show Run p e below s 2 6 (Q_rm0 Z p1 p2 p3 p4 p5 p6 h0 n0) (s₁.setTop (mkF m 4 #[.val (.int p1), .val (.int p2), .val (.int p3), .val (.int p4), .val (.int p5), .val (.int p6), .unset, .unset, .unset, .unset] [(.int (p2 &&& (7 : Int32)))]))
  refine Run.go (fun _ k => XS.iconst X0.here hx rfl (hb hby at_4) k) ?_
  show Run p e below s 2 6 (Q_rm0 Z p1 p2 p3 p4 p5 p6 h0 n0) (s₁.setTop (mkF m 5 #[.val (.int p1), .val (.int p2), .val (.int p3), .val (.int p4), .val (.int p5), .val (.int p6), .unset, .unset, .unset, .unset] [(.int (5 : Int32)), (.int (p2 &&& (7 : Int32)))]))
  refine Run.go (fun _ k => iremM X0 hx rfl (hb hby at_5) rfl (by decide) k) ?_
  show Run p e below s 2 6 (Q_rm0 Z p1 p2 p3 p4 p5 p6 h0 n0) (s₁.setTop (mkF m 6 #[.val (.int p1), .val (.int p2), .val (.int p3), .val (.int p4), .val (.int p5), .val (.int p6), .unset, .unset, .unset, .unset] [(.int ((p2 &&& (7 : Int32)) % (5 : Int32)))]))
  refine Run.go (fun _ k => XS.istore X0.here hx rfl (hb hby at_6) rfl (l' := #[.val (.int p1), .val (.int p2), .val (.int p3), .val (.int p4), .val (.int p5), .val (.int p6), .val (.int ((p2 &&& (7 : Int32)) % (5 : Int32))), .unset, .unset, .unset]) rfl k) ?_
  show Run p e below s 2 6 (Q_rm0 Z p1 p2 p3 p4 p5 p6 h0 n0) (s₁.setTop (mkF m 8 #[.val (.int p1), .val (.int p2), .val (.int p3), .val (.int p4), .val (.int p5), .val (.int p6), .val (.int ((p2 &&& (7 : Int32)) % (5 : Int32))), .unset, .unset, .unset] []))
  obtain hk7 | hk7 | hk7 | hk7 | hk7 := own_c p2
  · rw [hk7]
    show Run p e below s 2 6 (Q_rm0 Z p1 p2 p3 p4 p5 p6 h0 n0) (s₁.setTop (mkF m 8 #[.val (.int p1), .val (.int p2), .val (.int p3), .val (.int p4), .val (.int p5), .val (.int p6), .val (.int (0 : Int32)), .unset, .unset, .unset] []))
    refine Run.go (fun _ k => XS.iload X0.here hx rfl (hb hby at_8) rfl  k) ?_
    show Run p e below s 2 6 (Q_rm0 Z p1 p2 p3 p4 p5 p6 h0 n0) (s₁.setTop (mkF m 10 #[.val (.int p1), .val (.int p2), .val (.int p3), .val (.int p4), .val (.int p5), .val (.int p6), .val (.int (0 : Int32)), .unset, .unset, .unset] [(.int (0 : Int32))]))
    obtain ⟨T8, h8, k8, X8, e8, E8, A8, st8⟩ := newP X0 hx hZ (hw _ (List.mem_of_getElem? (i := 0) rfl)) e0 (g := (mkF m 10 #[.val (.int p1), .val (.int p2), .val (.int p3), .val (.int p4), .val (.int p5), .val (.int p6), .val (.int (0 : Int32)), .unset, .unset, .unset] [(.int (0 : Int32))])) rfl (hb hby at_10) rfl (by decide) (cap := 0) (by decide) (by decide) (by decide) (by decide)
    obtain ⟨b8, g8⟩ : ∃ z, z = h0.size := ⟨_, rfl⟩
    rw [← g8] at A8 st8
    have g_b8 : n0 ≤ b8 := Nat.le_trans Z0 (Nat.le_of_eq g8.symm)
    have Z8 : n0 ≤ h8.size := Nat.le_trans Z0 E8.1
    have fx9 : Ary Z h8 b8 .int 0 (fun _ => (.int (0 : Int32))) := Ary.new A8 (by decide)
    refine Run.go st8 ?_
    show Run p e below s 2 6 (Q_rm0 Z p1 p2 p3 p4 p5 p6 h0 n0) (T8.setTop (mkF m 12 #[.val (.int p1), .val (.int p2), .val (.int p3), .val (.int p4), .val (.int p5), .val (.int p6), .val (.int (0 : Int32)), .unset, .unset, .unset] [(.ref b8)]))
    refine Run.go (fun _ k => XS.astore X8.here hx rfl (hb hby at_12) rfl rfl (l' := #[.val (.int p1), .val (.int p2), .val (.int p3), .val (.int p4), .val (.int p5), .val (.int p6), .val (.int (0 : Int32)), .val (.ref b8), .unset, .unset]) rfl k) ?_
    show Run p e below s 2 6 (Q_rm0 Z p1 p2 p3 p4 p5 p6 h0 n0) (T8.setTop (mkF m 14 #[.val (.int p1), .val (.int p2), .val (.int p3), .val (.int p4), .val (.int p5), .val (.int p6), .val (.int (0 : Int32)), .val (.ref b8), .unset, .unset] []))
    refine Run.go (fun _ k => XS.iload X8.here hx rfl (hb hby at_14) rfl  k) ?_
    show Run p e below s 2 6 (Q_rm0 Z p1 p2 p3 p4 p5 p6 h0 n0) (T8.setTop (mkF m 16 #[.val (.int p1), .val (.int p2), .val (.int p3), .val (.int p4), .val (.int p5), .val (.int p6), .val (.int (0 : Int32)), .val (.ref b8), .unset, .unset] [(.int (0 : Int32))]))
    refine Run.go (fun _ k => XS.ifYes X8.here hx rfl (pc0 := 16) (pc' := 24) rfl (hb hby at_16) rfl ((if0 _ _).trans (flt (by decide)).2.2.2) (by decide) (by decide) k) ?_
    show Run p e below s 2 6 (Q_rm0 Z p1 p2 p3 p4 p5 p6 h0 n0) (T8.setTop (mkF m 24 #[.val (.int p1), .val (.int p2), .val (.int p3), .val (.int p4), .val (.int p5), .val (.int p6), .val (.int (0 : Int32)), .val (.ref b8), .unset, .unset] []))
    refine Run.go (fun _ k => XS.iload X8.here hx rfl (hb hby at_24) rfl  k) ?_
    show Run p e below s 2 6 (Q_rm0 Z p1 p2 p3 p4 p5 p6 h0 n0) (T8.setTop (mkF m 26 #[.val (.int p1), .val (.int p2), .val (.int p3), .val (.int p4), .val (.int p5), .val (.int p6), .val (.int (0 : Int32)), .val (.ref b8), .unset, .unset] [(.int (0 : Int32))]))
    refine Run.go (fun _ k => XS.iconst X8.here hx rfl (hb hby at_26) k) ?_
    show Run p e below s 2 6 (Q_rm0 Z p1 p2 p3 p4 p5 p6 h0 n0) (T8.setTop (mkF m 27 #[.val (.int p1), .val (.int p2), .val (.int p3), .val (.int p4), .val (.int p5), .val (.int p6), .val (.int (0 : Int32)), .val (.ref b8), .unset, .unset] [(.int (1 : Int32)), (.int (0 : Int32))]))
    refine Run.go (fun _ k => XS.icmpYes X8.here hx rfl (pc0 := 27) (pc' := 35) rfl (hb hby at_27) rfl (flt (by decide)).2.2.2 (by decide) (by decide) k) ?_
    show Run p e below s 2 6 (Q_rm0 Z p1 p2 p3 p4 p5 p6 h0 n0) (T8.setTop (mkF m 35 #[.val (.int p1), .val (.int p2), .val (.int p3), .val (.int p4), .val (.int p5), .val (.int p6), .val (.int (0 : Int32)), .val (.ref b8), .unset, .unset] []))
    refine Run.go (fun _ k => XS.iload X8.here hx rfl (hb hby at_35) rfl  k) ?_
    show Run p e below s 2 6 (Q_rm0 Z p1 p2 p3 p4 p5 p6 h0 n0) (T8.setTop (mkF m 37 #[.val (.int p1), .val (.int p2), .val (.int p3), .val (.int p4), .val (.int p5), .val (.int p6), .val (.int (0 : Int32)), .val (.ref b8), .unset, .unset] [(.int (0 : Int32))]))
    refine Run.go (fun _ k => XS.iconst X8.here hx rfl (hb hby at_37) k) ?_
    show Run p e below s 2 6 (Q_rm0 Z p1 p2 p3 p4 p5 p6 h0 n0) (T8.setTop (mkF m 38 #[.val (.int p1), .val (.int p2), .val (.int p3), .val (.int p4), .val (.int p5), .val (.int p6), .val (.int (0 : Int32)), .val (.ref b8), .unset, .unset] [(.int (2 : Int32)), (.int (0 : Int32))]))
    refine Run.go (fun _ k => XS.icmpYes X8.here hx rfl (pc0 := 38) (pc' := 47) rfl (hb hby at_38) rfl (flt (by decide)).2.2.2 (by decide) (by decide) k) ?_
    show Run p e below s 2 6 (Q_rm0 Z p1 p2 p3 p4 p5 p6 h0 n0) (T8.setTop (mkF m 47 #[.val (.int p1), .val (.int p2), .val (.int p3), .val (.int p4), .val (.int p5), .val (.int p6), .val (.int (0 : Int32)), .val (.ref b8), .unset, .unset] []))
    refine Run.go (fun _ k => XS.iload X8.here hx rfl (hb hby at_47) rfl  k) ?_
    show Run p e below s 2 6 (Q_rm0 Z p1 p2 p3 p4 p5 p6 h0 n0) (T8.setTop (mkF m 49 #[.val (.int p1), .val (.int p2), .val (.int p3), .val (.int p4), .val (.int p5), .val (.int p6), .val (.int (0 : Int32)), .val (.ref b8), .unset, .unset] [(.int (0 : Int32))]))
    refine Run.go (fun _ k => XS.iconst X8.here hx rfl (hb hby at_49) k) ?_
    show Run p e below s 2 6 (Q_rm0 Z p1 p2 p3 p4 p5 p6 h0 n0) (T8.setTop (mkF m 50 #[.val (.int p1), .val (.int p2), .val (.int p3), .val (.int p4), .val (.int p5), .val (.int p6), .val (.int (0 : Int32)), .val (.ref b8), .unset, .unset] [(.int (3 : Int32)), (.int (0 : Int32))]))
    refine Run.go (fun _ k => XS.icmpYes X8.here hx rfl (pc0 := 50) (pc' := 59) rfl (hb hby at_50) rfl (flt (by decide)).2.2.2 (by decide) (by decide) k) ?_
    show Run p e below s 2 6 (Q_rm0 Z p1 p2 p3 p4 p5 p6 h0 n0) (T8.setTop (mkF m 59 #[.val (.int p1), .val (.int p2), .val (.int p3), .val (.int p4), .val (.int p5), .val (.int p6), .val (.int (0 : Int32)), .val (.ref b8), .unset, .unset] []))
    refine Run.go (fun _ k => XS.iload X8.here hx rfl (hb hby at_59) rfl  k) ?_
    show Run p e below s 2 6 (Q_rm0 Z p1 p2 p3 p4 p5 p6 h0 n0) (T8.setTop (mkF m 61 #[.val (.int p1), .val (.int p2), .val (.int p3), .val (.int p4), .val (.int p5), .val (.int p6), .val (.int (0 : Int32)), .val (.ref b8), .unset, .unset] [(.int (0 : Int32))]))
    refine Run.go (fun _ k => XS.iconst X8.here hx rfl (hb hby at_61) k) ?_
    show Run p e below s 2 6 (Q_rm0 Z p1 p2 p3 p4 p5 p6 h0 n0) (T8.setTop (mkF m 62 #[.val (.int p1), .val (.int p2), .val (.int p3), .val (.int p4), .val (.int p5), .val (.int p6), .val (.int (0 : Int32)), .val (.ref b8), .unset, .unset] [(.int (1 : Int32)), (.int (0 : Int32))]))
    refine Run.go (fun _ k => XS.icmpYes X8.here hx rfl (pc0 := 62) (pc' := 69) rfl (hb hby at_62) rfl (tlt (by decide)).1 (by decide) (by decide) k) ?_
    show Run p e below s 2 6 (Q_rm0 Z p1 p2 p3 p4 p5 p6 h0 n0) (T8.setTop (mkF m 69 #[.val (.int p1), .val (.int p2), .val (.int p3), .val (.int p4), .val (.int p5), .val (.int p6), .val (.int (0 : Int32)), .val (.ref b8), .unset, .unset] []))
    refine Run.go (fun _ k => XS.iload X8.here hx rfl (hb hby at_69) rfl  k) ?_
    show Run p e below s 2 6 (Q_rm0 Z p1 p2 p3 p4 p5 p6 h0 n0) (T8.setTop (mkF m 71 #[.val (.int p1), .val (.int p2), .val (.int p3), .val (.int p4), .val (.int p5), .val (.int p6), .val (.int (0 : Int32)), .val (.ref b8), .unset, .unset] [(.int (0 : Int32))]))
    refine Run.go (fun _ k => XS.iconst X8.here hx rfl (hb hby at_71) k) ?_
    show Run p e below s 2 6 (Q_rm0 Z p1 p2 p3 p4 p5 p6 h0 n0) (T8.setTop (mkF m 72 #[.val (.int p1), .val (.int p2), .val (.int p3), .val (.int p4), .val (.int p5), .val (.int p6), .val (.int (0 : Int32)), .val (.ref b8), .unset, .unset] [(.int (2 : Int32)), (.int (0 : Int32))]))
    refine Run.go (fun _ k => XS.icmpYes X8.here hx rfl (pc0 := 72) (pc' := 79) rfl (hb hby at_72) rfl (tlt (by decide)).1 (by decide) (by decide) k) ?_
    show Run p e below s 2 6 (Q_rm0 Z p1 p2 p3 p4 p5 p6 h0 n0) (T8.setTop (mkF m 79 #[.val (.int p1), .val (.int p2), .val (.int p3), .val (.int p4), .val (.int p5), .val (.int p6), .val (.int (0 : Int32)), .val (.ref b8), .unset, .unset] []))
    refine Run.go (fun _ k => XS.iload X8.here hx rfl (hb hby at_79) rfl  k) ?_
    show Run p e below s 2 6 (Q_rm0 Z p1 p2 p3 p4 p5 p6 h0 n0) (T8.setTop (mkF m 81 #[.val (.int p1), .val (.int p2), .val (.int p3), .val (.int p4), .val (.int p5), .val (.int p6), .val (.int (0 : Int32)), .val (.ref b8), .unset, .unset] [(.int (0 : Int32))]))
    refine Run.go (fun _ k => XS.iconst X8.here hx rfl (hb hby at_81) k) ?_
    show Run p e below s 2 6 (Q_rm0 Z p1 p2 p3 p4 p5 p6 h0 n0) (T8.setTop (mkF m 82 #[.val (.int p1), .val (.int p2), .val (.int p3), .val (.int p4), .val (.int p5), .val (.int p6), .val (.int (0 : Int32)), .val (.ref b8), .unset, .unset] [(.int (3 : Int32)), (.int (0 : Int32))]))
    refine Run.go (fun _ k => XS.icmpYes X8.here hx rfl (pc0 := 82) (pc' := 90) rfl (hb hby at_82) rfl (tlt (by decide)).1 (by decide) (by decide) k) ?_
    show Run p e below s 2 6 (Q_rm0 Z p1 p2 p3 p4 p5 p6 h0 n0) (T8.setTop (mkF m 90 #[.val (.int p1), .val (.int p2), .val (.int p3), .val (.int p4), .val (.int p5), .val (.int p6), .val (.int (0 : Int32)), .val (.ref b8), .unset, .unset] []))
    refine Run.go (fun _ k => XS.iload X8.here hx rfl (hb hby at_90) rfl  k) ?_
    show Run p e below s 2 6 (Q_rm0 Z p1 p2 p3 p4 p5 p6 h0 n0) (T8.setTop (mkF m 92 #[.val (.int p1), .val (.int p2), .val (.int p3), .val (.int p4), .val (.int p5), .val (.int p6), .val (.int (0 : Int32)), .val (.ref b8), .unset, .unset] [(.int (0 : Int32))]))
    refine Run.go (fun _ k => XS.iconst X8.here hx rfl (hb hby at_92) k) ?_
    show Run p e below s 2 6 (Q_rm0 Z p1 p2 p3 p4 p5 p6 h0 n0) (T8.setTop (mkF m 93 #[.val (.int p1), .val (.int p2), .val (.int p3), .val (.int p4), .val (.int p5), .val (.int p6), .val (.int (0 : Int32)), .val (.ref b8), .unset, .unset] [(.int (4 : Int32)), (.int (0 : Int32))]))
    refine Run.go (fun _ k => XS.icmpYes X8.here hx rfl (pc0 := 93) (pc' := 101) rfl (hb hby at_93) rfl (tlt (by decide)).1 (by decide) (by decide) k) ?_
    show Run p e below s 2 6 (Q_rm0 Z p1 p2 p3 p4 p5 p6 h0 n0) (T8.setTop (mkF m 101 #[.val (.int p1), .val (.int p2), .val (.int p3), .val (.int p4), .val (.int p5), .val (.int p6), .val (.int (0 : Int32)), .val (.ref b8), .unset, .unset] []))
    refine Run.go (fun _ k => XS.iconst X8.here hx rfl (hb hby at_101) k) ?_
    show Run p e below s 2 6 (Q_rm0 Z p1 p2 p3 p4 p5 p6 h0 n0) (T8.setTop (mkF m 102 #[.val (.int p1), .val (.int p2), .val (.int p3), .val (.int p4), .val (.int p5), .val (.int p6), .val (.int (0 : Int32)), .val (.ref b8), .unset, .unset] [(.int (1 : Int32))]))
    refine Run.go (fun _ k => XS.goto X8.here hx rfl (pc0 := 102) (pc' := 106) rfl (hb hby at_102) (by decide) (by decide) k) ?_
    show Run p e below s 2 6 (Q_rm0 Z p1 p2 p3 p4 p5 p6 h0 n0) (T8.setTop (mkF m 106 #[.val (.int p1), .val (.int p2), .val (.int p3), .val (.int p4), .val (.int p5), .val (.int p6), .val (.int (0 : Int32)), .val (.ref b8), .unset, .unset] [(.int (1 : Int32))]))
    refine Run.go (fun _ k => XS.istore X8.here hx rfl (hb hby at_106) rfl (l' := #[.val (.int p1), .val (.int p2), .val (.int p3), .val (.int p4), .val (.int p5), .val (.int p6), .val (.int (0 : Int32)), .val (.ref b8), .val (.int (1 : Int32)), .unset]) rfl k) ?_
    show Run p e below s 2 6 (Q_rm0 Z p1 p2 p3 p4 p5 p6 h0 n0) (T8.setTop (mkF m 108 #[.val (.int p1), .val (.int p2), .val (.int p3), .val (.int p4), .val (.int p5), .val (.int p6), .val (.int (0 : Int32)), .val (.ref b8), .val (.int (1 : Int32)), .unset] []))
    obtain ⟨T10, h10, X10, e10, E10, A10, D10, -, st10⟩ := newO X8 hx hZ hown (hw _ (List.mem_of_getElem? (i := 1) rfl)) (hw _ (List.mem_of_getElem? (i := 2) rfl)) (hw _ (List.mem_of_getElem? (i := 3) rfl)) e8 (g := (mkF m 108 #[.val (.int p1), .val (.int p2), .val (.int p3), .val (.int p4), .val (.int p5), .val (.int p6), .val (.int (0 : Int32)), .val (.ref b8), .val (.int (1 : Int32)), .unset] [])) rfl (hb hby at_108) (by decide) (by decide)
    obtain ⟨b10, g10⟩ : ∃ z, z = h8.size := ⟨_, rfl⟩
    rw [← g10] at A10 D10 st10
    have g_b10 : n0 ≤ b10 := Nat.le_trans Z8 (Nat.le_of_eq g10.symm)
    have Z10 : n0 ≤ h10.size := Nat.le_trans Z8 E10.1
    have ne_b8_b10 : b8 ≠ b10 := Nat.ne_of_lt (Nat.lt_of_lt_of_le fx9.lt (Nat.le_of_eq g10.symm))
    have fx11 : Fld Z h10 b10 "com/example/nestor/nestor/reasoning/Pattern" "predicate" "I" (.int (0 : Int32)) := D10 (Or.inr (hw _ (List.mem_of_getElem? (i := 11) rfl))) (ty := .int) (by decide)
    have fx12 : Fld Z h10 b10 "com/example/nestor/nestor/reasoning/Pattern" "terms" "[I" .null := D10 (Or.inr (hw _ (List.mem_of_getElem? (i := 13) rfl))) (ty := (.array .int)) (by decide)
    refine Run.go st10 ?_
    show Run p e below s 2 6 (Q_rm0 Z p1 p2 p3 p4 p5 p6 h0 n0) (T10.setTop (mkF m 111 #[.val (.int p1), .val (.int p2), .val (.int p3), .val (.int p4), .val (.int p5), .val (.int p6), .val (.int (0 : Int32)), .val (.ref b8), .val (.int (1 : Int32)), .unset] [(.ref b10)]))
    refine Run.go (fun _ k => XS.dup X10.here hx rfl (hb hby at_111) rfl rfl k) ?_
    show Run p e below s 2 6 (Q_rm0 Z p1 p2 p3 p4 p5 p6 h0 n0) (T10.setTop (mkF m 112 #[.val (.int p1), .val (.int p2), .val (.int p3), .val (.int p4), .val (.int p5), .val (.int p6), .val (.int (0 : Int32)), .val (.ref b8), .val (.int (1 : Int32)), .unset] [(.ref b10), (.ref b10)]))
    refine Run.go (fun _ k => XS.iloadN X10.here hx rfl (hb hby at_112) rfl  k) ?_
    show Run p e below s 2 6 (Q_rm0 Z p1 p2 p3 p4 p5 p6 h0 n0) (T10.setTop (mkF m 113 #[.val (.int p1), .val (.int p2), .val (.int p3), .val (.int p4), .val (.int p5), .val (.int p6), .val (.int (0 : Int32)), .val (.ref b8), .val (.int (1 : Int32)), .unset] [(.int p1), (.ref b10), (.ref b10)]))
    refine Run.go (fun _ k => XS.aload X10.here hx rfl (hb hby at_113) rfl rfl k) ?_
    show Run p e below s 2 6 (Q_rm0 Z p1 p2 p3 p4 p5 p6 h0 n0) (T10.setTop (mkF m 115 #[.val (.int p1), .val (.int p2), .val (.int p3), .val (.int p4), .val (.int p5), .val (.int p6), .val (.int (0 : Int32)), .val (.ref b8), .val (.int (1 : Int32)), .unset] [(.ref b8), (.int p1), (.ref b10), (.ref b10)]))
    obtain ⟨_, _, ⟨T13, L13, k13, n13⟩, -, X13, ⟨Lc13, hQ13, l13, y13, z13⟩, st13⟩ := X10.specialBack hx (y := (⟨"com/example/nestor/nestor/reasoning/Pattern", "<init>", "(I[I)V"⟩ : MethodName)) rfl hown (mvT hZ (hw _ (List.mem_of_getElem? (i := 4) rfl))) (mvT hZ (hw _ (List.mem_of_getElem? (i := 5) rfl))) (mvT hZ (hw _ (List.mem_of_getElem? (i := 6) rfl))) (by decide) (backOf (W := 1) (rm1 l Z a0 hw [] b10 p1 b8 (.int (0 : Int32)) .null h10 n0 Z10 A10 fx11 g_b10 fx12) hZ (hw _ (List.mem_of_getElem? (i := 6) rfl)) (hw _ (List.mem_of_getElem? (i := 3) rfl)) (by decide) (by decide)) (g := (mkF m 115 #[.val (.int p1), .val (.int p2), .val (.int p3), .val (.int p4), .val (.int p5), .val (.int p6), .val (.int (0 : Int32)), .val (.ref b8), .val (.int (1 : Int32)), .unset] [(.ref b8), (.int p1), (.ref b10), (.ref b10)])) rfl (by rw [hml]; rfl) (Steps.refl _) (a := b10) (argsL := [(.int p1), (.ref b8)]) (rest := [(.ref b10)]) (lenOf pd_0 rfl) rfl (by show 2 * 0 + _ ≤ _; exact Nat.le_of_eq rfl) (hb hby at_115) (fun _ _ => ⟨rfl, e10, (by decide : 2 + 0 ≤ _), (by decide : 2 + 0 ≤ _)⟩)
    dsimp only [Pt.U, Pt.locs, Pt.cells, Pt.slots] at X13 l13 y13 z13 st13 hQ13
    subst l13 y13 z13
    obtain ⟨rfl, N13q, K13q, fq13_0, fq13_1, fq13_2⟩ := hQ13
    have N13 := Fr.app N0 N13q
    have Z13 : n0 ≤ T13.heap.size := Nat.le_trans Z10 K13q.1
    refine Run.tr st13 ?_
    show Run p e below s 2 6 (Q_rm0 Z p1 p2 p3 p4 p5 p6 h0 n0) (T13.setTop (mkF m 118 #[.val (.int p1), .val (.int p2), .val (.int p3), .val (.int p4), .val (.int p5), .val (.int p6), .val (.int (0 : Int32)), .val (.ref b8), .val (.int (1 : Int32)), .unset] [(.ref b10)]))
    refine Run.go (fun _ k => XS.astore X13.here hx rfl (hb hby at_118) rfl rfl (l' := #[.val (.int p1), .val (.int p2), .val (.int p3), .val (.int p4), .val (.int p5), .val (.int p6), .val (.int (0 : Int32)), .val (.ref b8), .val (.int (1 : Int32)), .val (.ref b10)]) rfl k) ?_
    show Run p e below s 2 6 (Q_rm0 Z p1 p2 p3 p4 p5 p6 h0 n0) (T13.setTop (mkF m 120 #[.val (.int p1), .val (.int p2), .val (.int p3), .val (.int p4), .val (.int p5), .val (.int p6), .val (.int (0 : Int32)), .val (.ref b8), .val (.int (1 : Int32)), .val (.ref b10)] []))
    refine Run.go (fun _ k => XS.aload X13.here hx rfl (hb hby at_120) rfl rfl k) ?_
    show Run p e below s 2 6 (Q_rm0 Z p1 p2 p3 p4 p5 p6 h0 n0) (T13.setTop (mkF m 122 #[.val (.int p1), .val (.int p2), .val (.int p3), .val (.int p4), .val (.int p5), .val (.int p6), .val (.int (0 : Int32)), .val (.ref b8), .val (.int (1 : Int32)), .val (.ref b10)] [(.ref b10)]))
    have fx15 := ((fx9.ext E10).keep K13q (ninS ne_b8_b10 nin0))
    obtain ⟨cq14, kq14, q14a, q14b, q14c⟩ := isOf hZ rfl fq13_0
    obtain ⟨_, _, ⟨T14, L14, k14, n14⟩, -, X14, ⟨Lc14, hQ14, l14, y14, z14⟩, st14⟩ := X13.virtualBack hx (y := (⟨"com/example/nestor/nestor/reasoning/Pattern", "isGround", "()Z"⟩ : MethodName)) (z := (⟨"com/example/nestor/nestor/reasoning/Pattern", "isGround", "()Z"⟩ : MethodName)) hown (mvT hZ (hw _ (List.mem_of_getElem? (i := 14) rfl))) (mvT hZ (hw _ (List.mem_of_getElem? (i := 15) rfl))) (notFace_of_selects (args := #[]) (mvT hZ (hw _ (List.mem_of_getElem? (i := 17) rfl)))) (mvT hZ (hw _ (List.mem_of_getElem? (i := 17) rfl))) (mvT hZ (hw _ (List.mem_of_getElem? (i := 16) rfl))) (by decide) (backOf (W := 0) (rm3_0 l Z a0 hw [] b10 b8 (fun _ => (.int (0 : Int32))) T13.heap n0 Z13 fq13_2 fx15) hZ (hw _ (List.mem_of_getElem? (i := 18) rfl)) (hw _ (List.mem_of_getElem? (i := 3) rfl)) (by decide) (by decide)) q14a q14c (g := (mkF m 122 #[.val (.int p1), .val (.int p2), .val (.int p3), .val (.int p4), .val (.int p5), .val (.int p6), .val (.int (0 : Int32)), .val (.ref b8), .val (.int (1 : Int32)), .val (.ref b10)] [(.ref b10)])) rfl (by rw [hml]; rfl) (Steps.refl _) (argsL := []) (rest := []) (lenOf pd_1 rfl) rfl (by show 2 * 0 + _ ≤ _; exact Nat.le_of_eq rfl) (hb hby at_122) (fun _ _ => ⟨rfl, rfl, (by decide : 2 + 0 ≤ _), (by decide : 2 + 0 ≤ _)⟩)
    dsimp only [Pt.U, Pt.locs, Pt.cells, Pt.slots] at X14 l14 y14 z14 st14 hQ14
    subst l14 y14 z14
    obtain ⟨rfl, N14q, e14q⟩ := hQ14
    have N14 := Fr.app N13 N14q
    refine Run.tr st14 ?_
    show Run p e below s 2 6 (Q_rm0 Z p1 p2 p3 p4 p5 p6 h0 n0) (T14.setTop (mkF m 125 #[.val (.int p1), .val (.int p2), .val (.int p3), .val (.int p4), .val (.int p5), .val (.int p6), .val (.int (0 : Int32)), .val (.ref b8), .val (.int (1 : Int32)), .val (.ref b10)] [(.int (1 : Int32))]))
    refine Run.go (fun _ k => XS.iload X14.here hx rfl (hb hby at_125) rfl  k) ?_
    show Run p e below s 2 6 (Q_rm0 Z p1 p2 p3 p4 p5 p6 h0 n0) (T14.setTop (mkF m 127 #[.val (.int p1), .val (.int p2), .val (.int p3), .val (.int p4), .val (.int p5), .val (.int p6), .val (.int (0 : Int32)), .val (.ref b8), .val (.int (1 : Int32)), .val (.ref b10)] [(.int (1 : Int32)), (.int (1 : Int32))]))
    refine Run.go (fun _ k => XS.icmpNo X14.here hx rfl (hb hby at_127) rfl (teq (rfl : (1 : Int32) = (1 : Int32))).2 k) ?_
    show Run p e below s 2 6 (Q_rm0 Z p1 p2 p3 p4 p5 p6 h0 n0) (T14.setTop (mkF m 130 #[.val (.int p1), .val (.int p2), .val (.int p3), .val (.int p4), .val (.int p5), .val (.int p6), .val (.int (0 : Int32)), .val (.ref b8), .val (.int (1 : Int32)), .val (.ref b10)] []))
    refine Run.go (fun _ k => XS.iconst X14.here hx rfl (hb hby at_130) k) ?_
    show Run p e below s 2 6 (Q_rm0 Z p1 p2 p3 p4 p5 p6 h0 n0) (T14.setTop (mkF m 131 #[.val (.int p1), .val (.int p2), .val (.int p3), .val (.int p4), .val (.int p5), .val (.int p6), .val (.int (0 : Int32)), .val (.ref b8), .val (.int (1 : Int32)), .val (.ref b10)] [(.int (1 : Int32))]))
    refine Run.go (fun _ k => XS.goto X14.here hx rfl (pc0 := 131) (pc' := 135) rfl (hb hby at_131) (by decide) (by decide) k) ?_
    show Run p e below s 2 6 (Q_rm0 Z p1 p2 p3 p4 p5 p6 h0 n0) (T14.setTop (mkF m 135 #[.val (.int p1), .val (.int p2), .val (.int p3), .val (.int p4), .val (.int p5), .val (.int p6), .val (.int (0 : Int32)), .val (.ref b8), .val (.int (1 : Int32)), .val (.ref b10)] [(.int (1 : Int32))]))
    exact Run.retN (y := 1) X14 hx (t := .boolean) Bd.returns (by simp) rfl Bd.notSynchronized (hb hby at_135) (by decide) (by decide) ⟨rfl, N14⟩
  · rw [hk7]
    show Run p e below s 2 6 (Q_rm0 Z p1 p2 p3 p4 p5 p6 h0 n0) (s₁.setTop (mkF m 8 #[.val (.int p1), .val (.int p2), .val (.int p3), .val (.int p4), .val (.int p5), .val (.int p6), .val (.int (1 : Int32)), .unset, .unset, .unset] []))
    refine Run.go (fun _ k => XS.iload X0.here hx rfl (hb hby at_8) rfl  k) ?_
    show Run p e below s 2 6 (Q_rm0 Z p1 p2 p3 p4 p5 p6 h0 n0) (s₁.setTop (mkF m 10 #[.val (.int p1), .val (.int p2), .val (.int p3), .val (.int p4), .val (.int p5), .val (.int p6), .val (.int (1 : Int32)), .unset, .unset, .unset] [(.int (1 : Int32))]))
    obtain ⟨T16, h16, k16, X16, e16, E16, A16, st16⟩ := newP X0 hx hZ (hw _ (List.mem_of_getElem? (i := 0) rfl)) e0 (g := (mkF m 10 #[.val (.int p1), .val (.int p2), .val (.int p3), .val (.int p4), .val (.int p5), .val (.int p6), .val (.int (1 : Int32)), .unset, .unset, .unset] [(.int (1 : Int32))])) rfl (hb hby at_10) rfl (by decide) (cap := 1) (by decide) (by decide) (by decide) (by decide)
    obtain ⟨b16, g16⟩ : ∃ z, z = h0.size := ⟨_, rfl⟩
    rw [← g16] at A16 st16
    have g_b16 : n0 ≤ b16 := Nat.le_trans Z0 (Nat.le_of_eq g16.symm)
    have Z16 : n0 ≤ h16.size := Nat.le_trans Z0 E16.1
    have fx17 : Ary Z h16 b16 .int 1 (fun _ => (.int (0 : Int32))) := Ary.new A16 (by decide)
    refine Run.go st16 ?_
    show Run p e below s 2 6 (Q_rm0 Z p1 p2 p3 p4 p5 p6 h0 n0) (T16.setTop (mkF m 12 #[.val (.int p1), .val (.int p2), .val (.int p3), .val (.int p4), .val (.int p5), .val (.int p6), .val (.int (1 : Int32)), .unset, .unset, .unset] [(.ref b16)]))
    refine Run.go (fun _ k => XS.astore X16.here hx rfl (hb hby at_12) rfl rfl (l' := #[.val (.int p1), .val (.int p2), .val (.int p3), .val (.int p4), .val (.int p5), .val (.int p6), .val (.int (1 : Int32)), .val (.ref b16), .unset, .unset]) rfl k) ?_
    show Run p e below s 2 6 (Q_rm0 Z p1 p2 p3 p4 p5 p6 h0 n0) (T16.setTop (mkF m 14 #[.val (.int p1), .val (.int p2), .val (.int p3), .val (.int p4), .val (.int p5), .val (.int p6), .val (.int (1 : Int32)), .val (.ref b16), .unset, .unset] []))
    refine Run.go (fun _ k => XS.iload X16.here hx rfl (hb hby at_14) rfl  k) ?_
    show Run p e below s 2 6 (Q_rm0 Z p1 p2 p3 p4 p5 p6 h0 n0) (T16.setTop (mkF m 16 #[.val (.int p1), .val (.int p2), .val (.int p3), .val (.int p4), .val (.int p5), .val (.int p6), .val (.int (1 : Int32)), .val (.ref b16), .unset, .unset] [(.int (1 : Int32))]))
    refine Run.go (fun _ k => XS.ifNo X16.here hx rfl (hb hby at_16) rfl ((if0 _ _).trans (tlt (by decide)).2.2.2) k) ?_
    show Run p e below s 2 6 (Q_rm0 Z p1 p2 p3 p4 p5 p6 h0 n0) (T16.setTop (mkF m 19 #[.val (.int p1), .val (.int p2), .val (.int p3), .val (.int p4), .val (.int p5), .val (.int p6), .val (.int (1 : Int32)), .val (.ref b16), .unset, .unset] []))
    refine Run.go (fun _ k => XS.aload X16.here hx rfl (hb hby at_19) rfl rfl k) ?_
    show Run p e below s 2 6 (Q_rm0 Z p1 p2 p3 p4 p5 p6 h0 n0) (T16.setTop (mkF m 21 #[.val (.int p1), .val (.int p2), .val (.int p3), .val (.int p4), .val (.int p5), .val (.int p6), .val (.int (1 : Int32)), .val (.ref b16), .unset, .unset] [(.ref b16)]))
    refine Run.go (fun _ k => XS.iconst X16.here hx rfl (hb hby at_21) k) ?_
    show Run p e below s 2 6 (Q_rm0 Z p1 p2 p3 p4 p5 p6 h0 n0) (T16.setTop (mkF m 22 #[.val (.int p1), .val (.int p2), .val (.int p3), .val (.int p4), .val (.int p5), .val (.int p6), .val (.int (1 : Int32)), .val (.ref b16), .unset, .unset] [(.int (0 : Int32)), (.ref b16)]))
    refine Run.go (fun _ k => XS.iloadN X16.here hx rfl (hb hby at_22) rfl  k) ?_
    show Run p e below s 2 6 (Q_rm0 Z p1 p2 p3 p4 p5 p6 h0 n0) (T16.setTop (mkF m 23 #[.val (.int p1), .val (.int p2), .val (.int p3), .val (.int p4), .val (.int p5), .val (.int p6), .val (.int (1 : Int32)), .val (.ref b16), .unset, .unset] [(.int p3), (.int (0 : Int32)), (.ref b16)]))
    obtain ⟨T18, h18, X18, e18, W18, st18⟩ := ary_iset X16 hx hZ e16 fx17 (by decide) (by decide) (g := (mkF m 23 #[.val (.int p1), .val (.int p2), .val (.int p3), .val (.int p4), .val (.int p5), .val (.int p6), .val (.int (1 : Int32)), .val (.ref b16), .unset, .unset] [(.int p3), (.int (0 : Int32)), (.ref b16)])) rfl rfl (hb hby at_23)
    have N18 := Fr.snoc X18 N0 g_b16
    have Z18 : n0 ≤ h18.size := Nat.le_trans Z16 (Keep.of_wr W18).1
    have fx19 : Ary Z h18 b16 .int 1 (fun i => if i = 0 then (.int p3) else (fun _ => (.int (0 : Int32))) i) := fx17.same W18
    refine Run.go st18 ?_
    show Run p e below s 2 6 (Q_rm0 Z p1 p2 p3 p4 p5 p6 h0 n0) (T18.setTop (mkF m 24 #[.val (.int p1), .val (.int p2), .val (.int p3), .val (.int p4), .val (.int p5), .val (.int p6), .val (.int (1 : Int32)), .val (.ref b16), .unset, .unset] []))
    refine Run.go (fun _ k => XS.iload X18.here hx rfl (hb hby at_24) rfl  k) ?_
    show Run p e below s 2 6 (Q_rm0 Z p1 p2 p3 p4 p5 p6 h0 n0) (T18.setTop (mkF m 26 #[.val (.int p1), .val (.int p2), .val (.int p3), .val (.int p4), .val (.int p5), .val (.int p6), .val (.int (1 : Int32)), .val (.ref b16), .unset, .unset] [(.int (1 : Int32))]))
    refine Run.go (fun _ k => XS.iconst X18.here hx rfl (hb hby at_26) k) ?_
    show Run p e below s 2 6 (Q_rm0 Z p1 p2 p3 p4 p5 p6 h0 n0) (T18.setTop (mkF m 27 #[.val (.int p1), .val (.int p2), .val (.int p3), .val (.int p4), .val (.int p5), .val (.int p6), .val (.int (1 : Int32)), .val (.ref b16), .unset, .unset] [(.int (1 : Int32)), (.int (1 : Int32))]))
    refine Run.go (fun _ k => XS.icmpYes X18.here hx rfl (pc0 := 27) (pc' := 35) rfl (hb hby at_27) rfl (flt (by decide)).2.2.2 (by decide) (by decide) k) ?_
    show Run p e below s 2 6 (Q_rm0 Z p1 p2 p3 p4 p5 p6 h0 n0) (T18.setTop (mkF m 35 #[.val (.int p1), .val (.int p2), .val (.int p3), .val (.int p4), .val (.int p5), .val (.int p6), .val (.int (1 : Int32)), .val (.ref b16), .unset, .unset] []))
    refine Run.go (fun _ k => XS.iload X18.here hx rfl (hb hby at_35) rfl  k) ?_
    show Run p e below s 2 6 (Q_rm0 Z p1 p2 p3 p4 p5 p6 h0 n0) (T18.setTop (mkF m 37 #[.val (.int p1), .val (.int p2), .val (.int p3), .val (.int p4), .val (.int p5), .val (.int p6), .val (.int (1 : Int32)), .val (.ref b16), .unset, .unset] [(.int (1 : Int32))]))
    refine Run.go (fun _ k => XS.iconst X18.here hx rfl (hb hby at_37) k) ?_
    show Run p e below s 2 6 (Q_rm0 Z p1 p2 p3 p4 p5 p6 h0 n0) (T18.setTop (mkF m 38 #[.val (.int p1), .val (.int p2), .val (.int p3), .val (.int p4), .val (.int p5), .val (.int p6), .val (.int (1 : Int32)), .val (.ref b16), .unset, .unset] [(.int (2 : Int32)), (.int (1 : Int32))]))
    refine Run.go (fun _ k => XS.icmpYes X18.here hx rfl (pc0 := 38) (pc' := 47) rfl (hb hby at_38) rfl (flt (by decide)).2.2.2 (by decide) (by decide) k) ?_
    show Run p e below s 2 6 (Q_rm0 Z p1 p2 p3 p4 p5 p6 h0 n0) (T18.setTop (mkF m 47 #[.val (.int p1), .val (.int p2), .val (.int p3), .val (.int p4), .val (.int p5), .val (.int p6), .val (.int (1 : Int32)), .val (.ref b16), .unset, .unset] []))
    refine Run.go (fun _ k => XS.iload X18.here hx rfl (hb hby at_47) rfl  k) ?_
    show Run p e below s 2 6 (Q_rm0 Z p1 p2 p3 p4 p5 p6 h0 n0) (T18.setTop (mkF m 49 #[.val (.int p1), .val (.int p2), .val (.int p3), .val (.int p4), .val (.int p5), .val (.int p6), .val (.int (1 : Int32)), .val (.ref b16), .unset, .unset] [(.int (1 : Int32))]))
    refine Run.go (fun _ k => XS.iconst X18.here hx rfl (hb hby at_49) k) ?_
    show Run p e below s 2 6 (Q_rm0 Z p1 p2 p3 p4 p5 p6 h0 n0) (T18.setTop (mkF m 50 #[.val (.int p1), .val (.int p2), .val (.int p3), .val (.int p4), .val (.int p5), .val (.int p6), .val (.int (1 : Int32)), .val (.ref b16), .unset, .unset] [(.int (3 : Int32)), (.int (1 : Int32))]))
    refine Run.go (fun _ k => XS.icmpYes X18.here hx rfl (pc0 := 50) (pc' := 59) rfl (hb hby at_50) rfl (flt (by decide)).2.2.2 (by decide) (by decide) k) ?_
    show Run p e below s 2 6 (Q_rm0 Z p1 p2 p3 p4 p5 p6 h0 n0) (T18.setTop (mkF m 59 #[.val (.int p1), .val (.int p2), .val (.int p3), .val (.int p4), .val (.int p5), .val (.int p6), .val (.int (1 : Int32)), .val (.ref b16), .unset, .unset] []))
    refine Run.go (fun _ k => XS.iload X18.here hx rfl (hb hby at_59) rfl  k) ?_
    show Run p e below s 2 6 (Q_rm0 Z p1 p2 p3 p4 p5 p6 h0 n0) (T18.setTop (mkF m 61 #[.val (.int p1), .val (.int p2), .val (.int p3), .val (.int p4), .val (.int p5), .val (.int p6), .val (.int (1 : Int32)), .val (.ref b16), .unset, .unset] [(.int (1 : Int32))]))
    refine Run.go (fun _ k => XS.iconst X18.here hx rfl (hb hby at_61) k) ?_
    show Run p e below s 2 6 (Q_rm0 Z p1 p2 p3 p4 p5 p6 h0 n0) (T18.setTop (mkF m 62 #[.val (.int p1), .val (.int p2), .val (.int p3), .val (.int p4), .val (.int p5), .val (.int p6), .val (.int (1 : Int32)), .val (.ref b16), .unset, .unset] [(.int (1 : Int32)), (.int (1 : Int32))]))
    refine Run.go (fun _ k => XS.icmpNo X18.here hx rfl (hb hby at_62) rfl (flt (by decide)).1 k) ?_
    show Run p e below s 2 6 (Q_rm0 Z p1 p2 p3 p4 p5 p6 h0 n0) (T18.setTop (mkF m 65 #[.val (.int p1), .val (.int p2), .val (.int p3), .val (.int p4), .val (.int p5), .val (.int p6), .val (.int (1 : Int32)), .val (.ref b16), .unset, .unset] []))
    refine Run.go (fun _ k => XS.iloadN X18.here hx rfl (hb hby at_65) rfl  k) ?_
    show Run p e below s 2 6 (Q_rm0 Z p1 p2 p3 p4 p5 p6 h0 n0) (T18.setTop (mkF m 66 #[.val (.int p1), .val (.int p2), .val (.int p3), .val (.int p4), .val (.int p5), .val (.int p6), .val (.int (1 : Int32)), .val (.ref b16), .unset, .unset] [(.int p3)]))
    have J20 : ∀ (w21 : Int32) (hw21 : w21 = (if (¬ (p3 < (0 : Int32))) then (1 : Int32) else 0)) (T22 : State) (L22 : List Loc) (X22 : Stand p l e room_1 s m #[(.int p1), (.int p2), (.int p3), (.int p4), (.int p5), (.int p6)] below meth c T22 L22 1 1) (e22 : T22.heap = h18) (N22 : Fr n0 L22), Run p e below s 2 6 (Q_rm0 Z p1 p2 p3 p4 p5 p6 h0 n0) (T22.setTop (mkF m 106 #[.val (.int p1), .val (.int p2), .val (.int p3), .val (.int p4), .val (.int p5), .val (.int p6), .val (.int (1 : Int32)), .val (.ref b16), .unset, .unset] [(.int w21)])) := by
      intro w21 hw21 T22 L22 X22 e22 N22
      show Run p e below s 2 6 (Q_rm0 Z p1 p2 p3 p4 p5 p6 h0 n0) (T22.setTop (mkF m 106 #[.val (.int p1), .val (.int p2), .val (.int p3), .val (.int p4), .val (.int p5), .val (.int p6), .val (.int (1 : Int32)), .val (.ref b16), .unset, .unset] [(.int w21)]))
      refine Run.go (fun _ k => XS.istore X22.here hx rfl (hb hby at_106) rfl (l' := #[.val (.int p1), .val (.int p2), .val (.int p3), .val (.int p4), .val (.int p5), .val (.int p6), .val (.int (1 : Int32)), .val (.ref b16), .val (.int w21), .unset]) rfl k) ?_
      show Run p e below s 2 6 (Q_rm0 Z p1 p2 p3 p4 p5 p6 h0 n0) (T22.setTop (mkF m 108 #[.val (.int p1), .val (.int p2), .val (.int p3), .val (.int p4), .val (.int p5), .val (.int p6), .val (.int (1 : Int32)), .val (.ref b16), .val (.int w21), .unset] []))
      obtain ⟨T23, h23, X23, e23, E23, A23, D23, -, st23⟩ := newO X22 hx hZ hown (hw _ (List.mem_of_getElem? (i := 1) rfl)) (hw _ (List.mem_of_getElem? (i := 2) rfl)) (hw _ (List.mem_of_getElem? (i := 3) rfl)) e22 (g := (mkF m 108 #[.val (.int p1), .val (.int p2), .val (.int p3), .val (.int p4), .val (.int p5), .val (.int p6), .val (.int (1 : Int32)), .val (.ref b16), .val (.int w21), .unset] [])) rfl (hb hby at_108) (by decide) (by decide)
      obtain ⟨b23, g23⟩ : ∃ z, z = h18.size := ⟨_, rfl⟩
      rw [← g23] at A23 D23 st23
      have g_b23 : n0 ≤ b23 := Nat.le_trans Z18 (Nat.le_of_eq g23.symm)
      have Z23 : n0 ≤ h23.size := Nat.le_trans Z18 E23.1
      have ne_b16_b23 : b16 ≠ b23 := Nat.ne_of_lt (Nat.lt_of_lt_of_le fx19.lt (Nat.le_of_eq g23.symm))
      have fx24 : Fld Z h23 b23 "com/example/nestor/nestor/reasoning/Pattern" "predicate" "I" (.int (0 : Int32)) := D23 (Or.inr (hw _ (List.mem_of_getElem? (i := 11) rfl))) (ty := .int) (by decide)
      have fx25 : Fld Z h23 b23 "com/example/nestor/nestor/reasoning/Pattern" "terms" "[I" .null := D23 (Or.inr (hw _ (List.mem_of_getElem? (i := 13) rfl))) (ty := (.array .int)) (by decide)
      refine Run.go st23 ?_
      show Run p e below s 2 6 (Q_rm0 Z p1 p2 p3 p4 p5 p6 h0 n0) (T23.setTop (mkF m 111 #[.val (.int p1), .val (.int p2), .val (.int p3), .val (.int p4), .val (.int p5), .val (.int p6), .val (.int (1 : Int32)), .val (.ref b16), .val (.int w21), .unset] [(.ref b23)]))
      refine Run.go (fun _ k => XS.dup X23.here hx rfl (hb hby at_111) rfl rfl k) ?_
      show Run p e below s 2 6 (Q_rm0 Z p1 p2 p3 p4 p5 p6 h0 n0) (T23.setTop (mkF m 112 #[.val (.int p1), .val (.int p2), .val (.int p3), .val (.int p4), .val (.int p5), .val (.int p6), .val (.int (1 : Int32)), .val (.ref b16), .val (.int w21), .unset] [(.ref b23), (.ref b23)]))
      refine Run.go (fun _ k => XS.iloadN X23.here hx rfl (hb hby at_112) rfl  k) ?_
      show Run p e below s 2 6 (Q_rm0 Z p1 p2 p3 p4 p5 p6 h0 n0) (T23.setTop (mkF m 113 #[.val (.int p1), .val (.int p2), .val (.int p3), .val (.int p4), .val (.int p5), .val (.int p6), .val (.int (1 : Int32)), .val (.ref b16), .val (.int w21), .unset] [(.int p1), (.ref b23), (.ref b23)]))
      refine Run.go (fun _ k => XS.aload X23.here hx rfl (hb hby at_113) rfl rfl k) ?_
      show Run p e below s 2 6 (Q_rm0 Z p1 p2 p3 p4 p5 p6 h0 n0) (T23.setTop (mkF m 115 #[.val (.int p1), .val (.int p2), .val (.int p3), .val (.int p4), .val (.int p5), .val (.int p6), .val (.int (1 : Int32)), .val (.ref b16), .val (.int w21), .unset] [(.ref b16), (.int p1), (.ref b23), (.ref b23)]))
      obtain ⟨_, _, ⟨T26, L26, k26, n26⟩, -, X26, ⟨Lc26, hQ26, l26, y26, z26⟩, st26⟩ := X23.specialBack hx (y := (⟨"com/example/nestor/nestor/reasoning/Pattern", "<init>", "(I[I)V"⟩ : MethodName)) rfl hown (mvT hZ (hw _ (List.mem_of_getElem? (i := 4) rfl))) (mvT hZ (hw _ (List.mem_of_getElem? (i := 5) rfl))) (mvT hZ (hw _ (List.mem_of_getElem? (i := 6) rfl))) (by decide) (backOf (W := 1) (rm1 l Z a0 hw [] b23 p1 b16 (.int (0 : Int32)) .null h23 n0 Z23 A23 fx24 g_b23 fx25) hZ (hw _ (List.mem_of_getElem? (i := 6) rfl)) (hw _ (List.mem_of_getElem? (i := 3) rfl)) (by decide) (by decide)) (g := (mkF m 115 #[.val (.int p1), .val (.int p2), .val (.int p3), .val (.int p4), .val (.int p5), .val (.int p6), .val (.int (1 : Int32)), .val (.ref b16), .val (.int w21), .unset] [(.ref b16), (.int p1), (.ref b23), (.ref b23)])) rfl (by rw [hml]; rfl) (Steps.refl _) (a := b23) (argsL := [(.int p1), (.ref b16)]) (rest := [(.ref b23)]) (lenOf pd_0 rfl) rfl (by show 2 * 0 + _ ≤ _; exact Nat.le_of_eq rfl) (hb hby at_115) (fun _ _ => ⟨rfl, e23, (by decide : 2 + 0 ≤ _), (by decide : 3 + 0 ≤ _)⟩)
      dsimp only [Pt.U, Pt.locs, Pt.cells, Pt.slots] at X26 l26 y26 z26 st26 hQ26
      subst l26 y26 z26
      obtain ⟨rfl, N26q, K26q, fq26_0, fq26_1, fq26_2⟩ := hQ26
      have N26 := Fr.app N22 N26q
      have Z26 : n0 ≤ T26.heap.size := Nat.le_trans Z23 K26q.1
      refine Run.tr st26 ?_
      show Run p e below s 2 6 (Q_rm0 Z p1 p2 p3 p4 p5 p6 h0 n0) (T26.setTop (mkF m 118 #[.val (.int p1), .val (.int p2), .val (.int p3), .val (.int p4), .val (.int p5), .val (.int p6), .val (.int (1 : Int32)), .val (.ref b16), .val (.int w21), .unset] [(.ref b23)]))
      refine Run.go (fun _ k => XS.astore X26.here hx rfl (hb hby at_118) rfl rfl (l' := #[.val (.int p1), .val (.int p2), .val (.int p3), .val (.int p4), .val (.int p5), .val (.int p6), .val (.int (1 : Int32)), .val (.ref b16), .val (.int w21), .val (.ref b23)]) rfl k) ?_
      show Run p e below s 2 6 (Q_rm0 Z p1 p2 p3 p4 p5 p6 h0 n0) (T26.setTop (mkF m 120 #[.val (.int p1), .val (.int p2), .val (.int p3), .val (.int p4), .val (.int p5), .val (.int p6), .val (.int (1 : Int32)), .val (.ref b16), .val (.int w21), .val (.ref b23)] []))
      refine Run.go (fun _ k => XS.aload X26.here hx rfl (hb hby at_120) rfl rfl k) ?_
      show Run p e below s 2 6 (Q_rm0 Z p1 p2 p3 p4 p5 p6 h0 n0) (T26.setTop (mkF m 122 #[.val (.int p1), .val (.int p2), .val (.int p3), .val (.int p4), .val (.int p5), .val (.int p6), .val (.int (1 : Int32)), .val (.ref b16), .val (.int w21), .val (.ref b23)] [(.ref b23)]))
      have fx28 := ((fx19.ext E23).keep K26q (ninS ne_b16_b23 nin0))
      obtain ⟨cq27, kq27, q27a, q27b, q27c⟩ := isOf hZ rfl fq26_0
      obtain ⟨_, _, ⟨T27, L27, k27, n27⟩, -, X27, ⟨Lc27, hQ27, l27, y27, z27⟩, st27⟩ := X26.virtualBack hx (y := (⟨"com/example/nestor/nestor/reasoning/Pattern", "isGround", "()Z"⟩ : MethodName)) (z := (⟨"com/example/nestor/nestor/reasoning/Pattern", "isGround", "()Z"⟩ : MethodName)) hown (mvT hZ (hw _ (List.mem_of_getElem? (i := 14) rfl))) (mvT hZ (hw _ (List.mem_of_getElem? (i := 15) rfl))) (notFace_of_selects (args := #[]) (mvT hZ (hw _ (List.mem_of_getElem? (i := 17) rfl)))) (mvT hZ (hw _ (List.mem_of_getElem? (i := 17) rfl))) (mvT hZ (hw _ (List.mem_of_getElem? (i := 16) rfl))) (by decide) (backOf (W := 0) (rm3_1 l Z a0 hw [] b23 b16 (fun i => if i = 0 then (.int p3) else (fun _ => (.int (0 : Int32))) i) p3 T26.heap n0 Z26 fq26_2 fx28 rfl) hZ (hw _ (List.mem_of_getElem? (i := 18) rfl)) (hw _ (List.mem_of_getElem? (i := 3) rfl)) (by decide) (by decide)) q27a q27c (g := (mkF m 122 #[.val (.int p1), .val (.int p2), .val (.int p3), .val (.int p4), .val (.int p5), .val (.int p6), .val (.int (1 : Int32)), .val (.ref b16), .val (.int w21), .val (.ref b23)] [(.ref b23)])) rfl (by rw [hml]; rfl) (Steps.refl _) (argsL := []) (rest := []) (lenOf pd_1 rfl) rfl (by show 2 * 0 + _ ≤ _; exact Nat.le_of_eq rfl) (hb hby at_122) (fun _ _ => ⟨rfl, rfl, (by decide : 2 + 0 ≤ _), (by decide : 3 + 0 ≤ _)⟩)
      dsimp only [Pt.U, Pt.locs, Pt.cells, Pt.slots] at X27 l27 y27 z27 st27 hQ27
      subst l27 y27 z27
      obtain ⟨rfl, N27q, e27q⟩ := hQ27
      have N27 := Fr.app N26 N27q
      refine Run.tr st27 ?_
      show Run p e below s 2 6 (Q_rm0 Z p1 p2 p3 p4 p5 p6 h0 n0) (T27.setTop (mkF m 125 #[.val (.int p1), .val (.int p2), .val (.int p3), .val (.int p4), .val (.int p5), .val (.int p6), .val (.int (1 : Int32)), .val (.ref b16), .val (.int w21), .val (.ref b23)] [(.int (F_rm3_1 p3))]))
      refine Run.go (fun _ k => XS.iload X27.here hx rfl (hb hby at_125) rfl  k) ?_
      show Run p e below s 2 6 (Q_rm0 Z p1 p2 p3 p4 p5 p6 h0 n0) (T27.setTop (mkF m 127 #[.val (.int p1), .val (.int p2), .val (.int p3), .val (.int p4), .val (.int p5), .val (.int p6), .val (.int (1 : Int32)), .val (.ref b16), .val (.int w21), .val (.ref b23)] [(.int w21), (.int (F_rm3_1 p3))]))
      refine Run.go (fun _ k => XS.icmpNo X27.here hx rfl (hb hby at_127) rfl (teq (by rw [hw21]; unfold F_rm3_1; (repeat' split) <;> simp_all)).2 k) ?_
      show Run p e below s 2 6 (Q_rm0 Z p1 p2 p3 p4 p5 p6 h0 n0) (T27.setTop (mkF m 130 #[.val (.int p1), .val (.int p2), .val (.int p3), .val (.int p4), .val (.int p5), .val (.int p6), .val (.int (1 : Int32)), .val (.ref b16), .val (.int w21), .val (.ref b23)] []))
      refine Run.go (fun _ k => XS.iconst X27.here hx rfl (hb hby at_130) k) ?_
      show Run p e below s 2 6 (Q_rm0 Z p1 p2 p3 p4 p5 p6 h0 n0) (T27.setTop (mkF m 131 #[.val (.int p1), .val (.int p2), .val (.int p3), .val (.int p4), .val (.int p5), .val (.int p6), .val (.int (1 : Int32)), .val (.ref b16), .val (.int w21), .val (.ref b23)] [(.int (1 : Int32))]))
      refine Run.go (fun _ k => XS.goto X27.here hx rfl (pc0 := 131) (pc' := 135) rfl (hb hby at_131) (by decide) (by decide) k) ?_
      show Run p e below s 2 6 (Q_rm0 Z p1 p2 p3 p4 p5 p6 h0 n0) (T27.setTop (mkF m 135 #[.val (.int p1), .val (.int p2), .val (.int p3), .val (.int p4), .val (.int p5), .val (.int p6), .val (.int (1 : Int32)), .val (.ref b16), .val (.int w21), .val (.ref b23)] [(.int (1 : Int32))]))
      exact Run.retN (y := 1) X27 hx (t := .boolean) Bd.returns (by simp) rfl Bd.notSynchronized (hb hby at_135) (by decide) (by decide) ⟨rfl, N27⟩
    by_cases hc29 : (p3 < (0 : Int32))
    · refine Run.go (fun _ k => XS.ifYes X18.here hx rfl (pc0 := 66) (pc' := 105) rfl (hb hby at_66) rfl ((if0 _ _).trans (tlt hc29).1) (by decide) (by decide) k) ?_
      show Run p e below s 2 6 (Q_rm0 Z p1 p2 p3 p4 p5 p6 h0 n0) (T18.setTop (mkF m 105 #[.val (.int p1), .val (.int p2), .val (.int p3), .val (.int p4), .val (.int p5), .val (.int p6), .val (.int (1 : Int32)), .val (.ref b16), .unset, .unset] []))
      refine Run.go (fun _ k => XS.iconst X18.here hx rfl (hb hby at_105) k) ?_
      show Run p e below s 2 6 (Q_rm0 Z p1 p2 p3 p4 p5 p6 h0 n0) (T18.setTop (mkF m 106 #[.val (.int p1), .val (.int p2), .val (.int p3), .val (.int p4), .val (.int p5), .val (.int p6), .val (.int (1 : Int32)), .val (.ref b16), .unset, .unset] [(.int (0 : Int32))]))
      exact J20 _ (if_neg (fun q => q hc29)).symm _ _ X18 e18 N18
    · refine Run.go (fun _ k => XS.ifNo X18.here hx rfl (hb hby at_66) rfl ((if0 _ _).trans (flt hc29).1) k) ?_
      show Run p e below s 2 6 (Q_rm0 Z p1 p2 p3 p4 p5 p6 h0 n0) (T18.setTop (mkF m 69 #[.val (.int p1), .val (.int p2), .val (.int p3), .val (.int p4), .val (.int p5), .val (.int p6), .val (.int (1 : Int32)), .val (.ref b16), .unset, .unset] []))
      refine Run.go (fun _ k => XS.iload X18.here hx rfl (hb hby at_69) rfl  k) ?_
      show Run p e below s 2 6 (Q_rm0 Z p1 p2 p3 p4 p5 p6 h0 n0) (T18.setTop (mkF m 71 #[.val (.int p1), .val (.int p2), .val (.int p3), .val (.int p4), .val (.int p5), .val (.int p6), .val (.int (1 : Int32)), .val (.ref b16), .unset, .unset] [(.int (1 : Int32))]))
      refine Run.go (fun _ k => XS.iconst X18.here hx rfl (hb hby at_71) k) ?_
      show Run p e below s 2 6 (Q_rm0 Z p1 p2 p3 p4 p5 p6 h0 n0) (T18.setTop (mkF m 72 #[.val (.int p1), .val (.int p2), .val (.int p3), .val (.int p4), .val (.int p5), .val (.int p6), .val (.int (1 : Int32)), .val (.ref b16), .unset, .unset] [(.int (2 : Int32)), (.int (1 : Int32))]))
      refine Run.go (fun _ k => XS.icmpYes X18.here hx rfl (pc0 := 72) (pc' := 79) rfl (hb hby at_72) rfl (tlt (by decide)).1 (by decide) (by decide) k) ?_
      show Run p e below s 2 6 (Q_rm0 Z p1 p2 p3 p4 p5 p6 h0 n0) (T18.setTop (mkF m 79 #[.val (.int p1), .val (.int p2), .val (.int p3), .val (.int p4), .val (.int p5), .val (.int p6), .val (.int (1 : Int32)), .val (.ref b16), .unset, .unset] []))
      refine Run.go (fun _ k => XS.iload X18.here hx rfl (hb hby at_79) rfl  k) ?_
      show Run p e below s 2 6 (Q_rm0 Z p1 p2 p3 p4 p5 p6 h0 n0) (T18.setTop (mkF m 81 #[.val (.int p1), .val (.int p2), .val (.int p3), .val (.int p4), .val (.int p5), .val (.int p6), .val (.int (1 : Int32)), .val (.ref b16), .unset, .unset] [(.int (1 : Int32))]))
      refine Run.go (fun _ k => XS.iconst X18.here hx rfl (hb hby at_81) k) ?_
      show Run p e below s 2 6 (Q_rm0 Z p1 p2 p3 p4 p5 p6 h0 n0) (T18.setTop (mkF m 82 #[.val (.int p1), .val (.int p2), .val (.int p3), .val (.int p4), .val (.int p5), .val (.int p6), .val (.int (1 : Int32)), .val (.ref b16), .unset, .unset] [(.int (3 : Int32)), (.int (1 : Int32))]))
      refine Run.go (fun _ k => XS.icmpYes X18.here hx rfl (pc0 := 82) (pc' := 90) rfl (hb hby at_82) rfl (tlt (by decide)).1 (by decide) (by decide) k) ?_
      show Run p e below s 2 6 (Q_rm0 Z p1 p2 p3 p4 p5 p6 h0 n0) (T18.setTop (mkF m 90 #[.val (.int p1), .val (.int p2), .val (.int p3), .val (.int p4), .val (.int p5), .val (.int p6), .val (.int (1 : Int32)), .val (.ref b16), .unset, .unset] []))
      refine Run.go (fun _ k => XS.iload X18.here hx rfl (hb hby at_90) rfl  k) ?_
      show Run p e below s 2 6 (Q_rm0 Z p1 p2 p3 p4 p5 p6 h0 n0) (T18.setTop (mkF m 92 #[.val (.int p1), .val (.int p2), .val (.int p3), .val (.int p4), .val (.int p5), .val (.int p6), .val (.int (1 : Int32)), .val (.ref b16), .unset, .unset] [(.int (1 : Int32))]))
      refine Run.go (fun _ k => XS.iconst X18.here hx rfl (hb hby at_92) k) ?_
      show Run p e below s 2 6 (Q_rm0 Z p1 p2 p3 p4 p5 p6 h0 n0) (T18.setTop (mkF m 93 #[.val (.int p1), .val (.int p2), .val (.int p3), .val (.int p4), .val (.int p5), .val (.int p6), .val (.int (1 : Int32)), .val (.ref b16), .unset, .unset] [(.int (4 : Int32)), (.int (1 : Int32))]))
      refine Run.go (fun _ k => XS.icmpYes X18.here hx rfl (pc0 := 93) (pc' := 101) rfl (hb hby at_93) rfl (tlt (by decide)).1 (by decide) (by decide) k) ?_
      show Run p e below s 2 6 (Q_rm0 Z p1 p2 p3 p4 p5 p6 h0 n0) (T18.setTop (mkF m 101 #[.val (.int p1), .val (.int p2), .val (.int p3), .val (.int p4), .val (.int p5), .val (.int p6), .val (.int (1 : Int32)), .val (.ref b16), .unset, .unset] []))
      refine Run.go (fun _ k => XS.iconst X18.here hx rfl (hb hby at_101) k) ?_
      show Run p e below s 2 6 (Q_rm0 Z p1 p2 p3 p4 p5 p6 h0 n0) (T18.setTop (mkF m 102 #[.val (.int p1), .val (.int p2), .val (.int p3), .val (.int p4), .val (.int p5), .val (.int p6), .val (.int (1 : Int32)), .val (.ref b16), .unset, .unset] [(.int (1 : Int32))]))
      refine Run.go (fun _ k => XS.goto X18.here hx rfl (pc0 := 102) (pc' := 106) rfl (hb hby at_102) (by decide) (by decide) k) ?_
      show Run p e below s 2 6 (Q_rm0 Z p1 p2 p3 p4 p5 p6 h0 n0) (T18.setTop (mkF m 106 #[.val (.int p1), .val (.int p2), .val (.int p3), .val (.int p4), .val (.int p5), .val (.int p6), .val (.int (1 : Int32)), .val (.ref b16), .unset, .unset] [(.int (1 : Int32))]))
      exact J20 _ (if_pos hc29).symm _ _ X18 e18 N18
  · rw [hk7]
    show Run p e below s 2 6 (Q_rm0 Z p1 p2 p3 p4 p5 p6 h0 n0) (s₁.setTop (mkF m 8 #[.val (.int p1), .val (.int p2), .val (.int p3), .val (.int p4), .val (.int p5), .val (.int p6), .val (.int (2 : Int32)), .unset, .unset, .unset] []))
    refine Run.go (fun _ k => XS.iload X0.here hx rfl (hb hby at_8) rfl  k) ?_
    show Run p e below s 2 6 (Q_rm0 Z p1 p2 p3 p4 p5 p6 h0 n0) (s₁.setTop (mkF m 10 #[.val (.int p1), .val (.int p2), .val (.int p3), .val (.int p4), .val (.int p5), .val (.int p6), .val (.int (2 : Int32)), .unset, .unset, .unset] [(.int (2 : Int32))]))
    obtain ⟨T30, h30, k30, X30, e30, E30, A30, st30⟩ := newP X0 hx hZ (hw _ (List.mem_of_getElem? (i := 0) rfl)) e0 (g := (mkF m 10 #[.val (.int p1), .val (.int p2), .val (.int p3), .val (.int p4), .val (.int p5), .val (.int p6), .val (.int (2 : Int32)), .unset, .unset, .unset] [(.int (2 : Int32))])) rfl (hb hby at_10) rfl (by decide) (cap := 2) (by decide) (by decide) (by decide) (by decide)
    obtain ⟨b30, g30⟩ : ∃ z, z = h0.size := ⟨_, rfl⟩
    rw [← g30] at A30 st30
    have g_b30 : n0 ≤ b30 := Nat.le_trans Z0 (Nat.le_of_eq g30.symm)
    have Z30 : n0 ≤ h30.size := Nat.le_trans Z0 E30.1
    have fx31 : Ary Z h30 b30 .int 2 (fun _ => (.int (0 : Int32))) := Ary.new A30 (by decide)
    refine Run.go st30 ?_
    show Run p e below s 2 6 (Q_rm0 Z p1 p2 p3 p4 p5 p6 h0 n0) (T30.setTop (mkF m 12 #[.val (.int p1), .val (.int p2), .val (.int p3), .val (.int p4), .val (.int p5), .val (.int p6), .val (.int (2 : Int32)), .unset, .unset, .unset] [(.ref b30)]))
    refine Run.go (fun _ k => XS.astore X30.here hx rfl (hb hby at_12) rfl rfl (l' := #[.val (.int p1), .val (.int p2), .val (.int p3), .val (.int p4), .val (.int p5), .val (.int p6), .val (.int (2 : Int32)), .val (.ref b30), .unset, .unset]) rfl k) ?_
    show Run p e below s 2 6 (Q_rm0 Z p1 p2 p3 p4 p5 p6 h0 n0) (T30.setTop (mkF m 14 #[.val (.int p1), .val (.int p2), .val (.int p3), .val (.int p4), .val (.int p5), .val (.int p6), .val (.int (2 : Int32)), .val (.ref b30), .unset, .unset] []))
    refine Run.go (fun _ k => XS.iload X30.here hx rfl (hb hby at_14) rfl  k) ?_
    show Run p e below s 2 6 (Q_rm0 Z p1 p2 p3 p4 p5 p6 h0 n0) (T30.setTop (mkF m 16 #[.val (.int p1), .val (.int p2), .val (.int p3), .val (.int p4), .val (.int p5), .val (.int p6), .val (.int (2 : Int32)), .val (.ref b30), .unset, .unset] [(.int (2 : Int32))]))
    refine Run.go (fun _ k => XS.ifNo X30.here hx rfl (hb hby at_16) rfl ((if0 _ _).trans (tlt (by decide)).2.2.2) k) ?_
    show Run p e below s 2 6 (Q_rm0 Z p1 p2 p3 p4 p5 p6 h0 n0) (T30.setTop (mkF m 19 #[.val (.int p1), .val (.int p2), .val (.int p3), .val (.int p4), .val (.int p5), .val (.int p6), .val (.int (2 : Int32)), .val (.ref b30), .unset, .unset] []))
    refine Run.go (fun _ k => XS.aload X30.here hx rfl (hb hby at_19) rfl rfl k) ?_
    show Run p e below s 2 6 (Q_rm0 Z p1 p2 p3 p4 p5 p6 h0 n0) (T30.setTop (mkF m 21 #[.val (.int p1), .val (.int p2), .val (.int p3), .val (.int p4), .val (.int p5), .val (.int p6), .val (.int (2 : Int32)), .val (.ref b30), .unset, .unset] [(.ref b30)]))
    refine Run.go (fun _ k => XS.iconst X30.here hx rfl (hb hby at_21) k) ?_
    show Run p e below s 2 6 (Q_rm0 Z p1 p2 p3 p4 p5 p6 h0 n0) (T30.setTop (mkF m 22 #[.val (.int p1), .val (.int p2), .val (.int p3), .val (.int p4), .val (.int p5), .val (.int p6), .val (.int (2 : Int32)), .val (.ref b30), .unset, .unset] [(.int (0 : Int32)), (.ref b30)]))
    refine Run.go (fun _ k => XS.iloadN X30.here hx rfl (hb hby at_22) rfl  k) ?_
    show Run p e below s 2 6 (Q_rm0 Z p1 p2 p3 p4 p5 p6 h0 n0) (T30.setTop (mkF m 23 #[.val (.int p1), .val (.int p2), .val (.int p3), .val (.int p4), .val (.int p5), .val (.int p6), .val (.int (2 : Int32)), .val (.ref b30), .unset, .unset] [(.int p3), (.int (0 : Int32)), (.ref b30)]))
    obtain ⟨T32, h32, X32, e32, W32, st32⟩ := ary_iset X30 hx hZ e30 fx31 (by decide) (by decide) (g := (mkF m 23 #[.val (.int p1), .val (.int p2), .val (.int p3), .val (.int p4), .val (.int p5), .val (.int p6), .val (.int (2 : Int32)), .val (.ref b30), .unset, .unset] [(.int p3), (.int (0 : Int32)), (.ref b30)])) rfl rfl (hb hby at_23)
    have N32 := Fr.snoc X32 N0 g_b30
    have Z32 : n0 ≤ h32.size := Nat.le_trans Z30 (Keep.of_wr W32).1
    have fx33 : Ary Z h32 b30 .int 2 (fun i => if i = 0 then (.int p3) else (fun _ => (.int (0 : Int32))) i) := fx31.same W32
    refine Run.go st32 ?_
    show Run p e below s 2 6 (Q_rm0 Z p1 p2 p3 p4 p5 p6 h0 n0) (T32.setTop (mkF m 24 #[.val (.int p1), .val (.int p2), .val (.int p3), .val (.int p4), .val (.int p5), .val (.int p6), .val (.int (2 : Int32)), .val (.ref b30), .unset, .unset] []))
    refine Run.go (fun _ k => XS.iload X32.here hx rfl (hb hby at_24) rfl  k) ?_
    show Run p e below s 2 6 (Q_rm0 Z p1 p2 p3 p4 p5 p6 h0 n0) (T32.setTop (mkF m 26 #[.val (.int p1), .val (.int p2), .val (.int p3), .val (.int p4), .val (.int p5), .val (.int p6), .val (.int (2 : Int32)), .val (.ref b30), .unset, .unset] [(.int (2 : Int32))]))
    refine Run.go (fun _ k => XS.iconst X32.here hx rfl (hb hby at_26) k) ?_
    show Run p e below s 2 6 (Q_rm0 Z p1 p2 p3 p4 p5 p6 h0 n0) (T32.setTop (mkF m 27 #[.val (.int p1), .val (.int p2), .val (.int p3), .val (.int p4), .val (.int p5), .val (.int p6), .val (.int (2 : Int32)), .val (.ref b30), .unset, .unset] [(.int (1 : Int32)), (.int (2 : Int32))]))
    refine Run.go (fun _ k => XS.icmpNo X32.here hx rfl (hb hby at_27) rfl (tlt (by decide)).2.2.2 k) ?_
    show Run p e below s 2 6 (Q_rm0 Z p1 p2 p3 p4 p5 p6 h0 n0) (T32.setTop (mkF m 30 #[.val (.int p1), .val (.int p2), .val (.int p3), .val (.int p4), .val (.int p5), .val (.int p6), .val (.int (2 : Int32)), .val (.ref b30), .unset, .unset] []))
    refine Run.go (fun _ k => XS.aload X32.here hx rfl (hb hby at_30) rfl rfl k) ?_
    show Run p e below s 2 6 (Q_rm0 Z p1 p2 p3 p4 p5 p6 h0 n0) (T32.setTop (mkF m 32 #[.val (.int p1), .val (.int p2), .val (.int p3), .val (.int p4), .val (.int p5), .val (.int p6), .val (.int (2 : Int32)), .val (.ref b30), .unset, .unset] [(.ref b30)]))
    refine Run.go (fun _ k => XS.iconst X32.here hx rfl (hb hby at_32) k) ?_
    show Run p e below s 2 6 (Q_rm0 Z p1 p2 p3 p4 p5 p6 h0 n0) (T32.setTop (mkF m 33 #[.val (.int p1), .val (.int p2), .val (.int p3), .val (.int p4), .val (.int p5), .val (.int p6), .val (.int (2 : Int32)), .val (.ref b30), .unset, .unset] [(.int (1 : Int32)), (.ref b30)]))
    refine Run.go (fun _ k => XS.iloadN X32.here hx rfl (hb hby at_33) rfl  k) ?_
    show Run p e below s 2 6 (Q_rm0 Z p1 p2 p3 p4 p5 p6 h0 n0) (T32.setTop (mkF m 34 #[.val (.int p1), .val (.int p2), .val (.int p3), .val (.int p4), .val (.int p5), .val (.int p6), .val (.int (2 : Int32)), .val (.ref b30), .unset, .unset] [(.int p4), (.int (1 : Int32)), (.ref b30)]))
    obtain ⟨T34, h34, X34, e34, W34, st34⟩ := ary_iset X32 hx hZ e32 fx33 (by decide) (by decide) (g := (mkF m 34 #[.val (.int p1), .val (.int p2), .val (.int p3), .val (.int p4), .val (.int p5), .val (.int p6), .val (.int (2 : Int32)), .val (.ref b30), .unset, .unset] [(.int p4), (.int (1 : Int32)), (.ref b30)])) rfl rfl (hb hby at_34)
    have N34 := Fr.snoc X34 N32 g_b30
    have Z34 : n0 ≤ h34.size := Nat.le_trans Z32 (Keep.of_wr W34).1
    have fx35 : Ary Z h34 b30 .int 2 (fun i => if i = 1 then (.int p4) else (fun i => if i = 0 then (.int p3) else (fun _ => (.int (0 : Int32))) i) i) := fx33.same W34
    refine Run.go st34 ?_
    show Run p e below s 2 6 (Q_rm0 Z p1 p2 p3 p4 p5 p6 h0 n0) (T34.setTop (mkF m 35 #[.val (.int p1), .val (.int p2), .val (.int p3), .val (.int p4), .val (.int p5), .val (.int p6), .val (.int (2 : Int32)), .val (.ref b30), .unset, .unset] []))
    refine Run.go (fun _ k => XS.iload X34.here hx rfl (hb hby at_35) rfl  k) ?_
    show Run p e below s 2 6 (Q_rm0 Z p1 p2 p3 p4 p5 p6 h0 n0) (T34.setTop (mkF m 37 #[.val (.int p1), .val (.int p2), .val (.int p3), .val (.int p4), .val (.int p5), .val (.int p6), .val (.int (2 : Int32)), .val (.ref b30), .unset, .unset] [(.int (2 : Int32))]))
    refine Run.go (fun _ k => XS.iconst X34.here hx rfl (hb hby at_37) k) ?_
    show Run p e below s 2 6 (Q_rm0 Z p1 p2 p3 p4 p5 p6 h0 n0) (T34.setTop (mkF m 38 #[.val (.int p1), .val (.int p2), .val (.int p3), .val (.int p4), .val (.int p5), .val (.int p6), .val (.int (2 : Int32)), .val (.ref b30), .unset, .unset] [(.int (2 : Int32)), (.int (2 : Int32))]))
    refine Run.go (fun _ k => XS.icmpYes X34.here hx rfl (pc0 := 38) (pc' := 47) rfl (hb hby at_38) rfl (flt (by decide)).2.2.2 (by decide) (by decide) k) ?_
    show Run p e below s 2 6 (Q_rm0 Z p1 p2 p3 p4 p5 p6 h0 n0) (T34.setTop (mkF m 47 #[.val (.int p1), .val (.int p2), .val (.int p3), .val (.int p4), .val (.int p5), .val (.int p6), .val (.int (2 : Int32)), .val (.ref b30), .unset, .unset] []))
    refine Run.go (fun _ k => XS.iload X34.here hx rfl (hb hby at_47) rfl  k) ?_
    show Run p e below s 2 6 (Q_rm0 Z p1 p2 p3 p4 p5 p6 h0 n0) (T34.setTop (mkF m 49 #[.val (.int p1), .val (.int p2), .val (.int p3), .val (.int p4), .val (.int p5), .val (.int p6), .val (.int (2 : Int32)), .val (.ref b30), .unset, .unset] [(.int (2 : Int32))]))
    refine Run.go (fun _ k => XS.iconst X34.here hx rfl (hb hby at_49) k) ?_
    show Run p e below s 2 6 (Q_rm0 Z p1 p2 p3 p4 p5 p6 h0 n0) (T34.setTop (mkF m 50 #[.val (.int p1), .val (.int p2), .val (.int p3), .val (.int p4), .val (.int p5), .val (.int p6), .val (.int (2 : Int32)), .val (.ref b30), .unset, .unset] [(.int (3 : Int32)), (.int (2 : Int32))]))
    refine Run.go (fun _ k => XS.icmpYes X34.here hx rfl (pc0 := 50) (pc' := 59) rfl (hb hby at_50) rfl (flt (by decide)).2.2.2 (by decide) (by decide) k) ?_
    show Run p e below s 2 6 (Q_rm0 Z p1 p2 p3 p4 p5 p6 h0 n0) (T34.setTop (mkF m 59 #[.val (.int p1), .val (.int p2), .val (.int p3), .val (.int p4), .val (.int p5), .val (.int p6), .val (.int (2 : Int32)), .val (.ref b30), .unset, .unset] []))
    refine Run.go (fun _ k => XS.iload X34.here hx rfl (hb hby at_59) rfl  k) ?_
    show Run p e below s 2 6 (Q_rm0 Z p1 p2 p3 p4 p5 p6 h0 n0) (T34.setTop (mkF m 61 #[.val (.int p1), .val (.int p2), .val (.int p3), .val (.int p4), .val (.int p5), .val (.int p6), .val (.int (2 : Int32)), .val (.ref b30), .unset, .unset] [(.int (2 : Int32))]))
    refine Run.go (fun _ k => XS.iconst X34.here hx rfl (hb hby at_61) k) ?_
    show Run p e below s 2 6 (Q_rm0 Z p1 p2 p3 p4 p5 p6 h0 n0) (T34.setTop (mkF m 62 #[.val (.int p1), .val (.int p2), .val (.int p3), .val (.int p4), .val (.int p5), .val (.int p6), .val (.int (2 : Int32)), .val (.ref b30), .unset, .unset] [(.int (1 : Int32)), (.int (2 : Int32))]))
    refine Run.go (fun _ k => XS.icmpNo X34.here hx rfl (hb hby at_62) rfl (flt (by decide)).1 k) ?_
    show Run p e below s 2 6 (Q_rm0 Z p1 p2 p3 p4 p5 p6 h0 n0) (T34.setTop (mkF m 65 #[.val (.int p1), .val (.int p2), .val (.int p3), .val (.int p4), .val (.int p5), .val (.int p6), .val (.int (2 : Int32)), .val (.ref b30), .unset, .unset] []))
    refine Run.go (fun _ k => XS.iloadN X34.here hx rfl (hb hby at_65) rfl  k) ?_
    show Run p e below s 2 6 (Q_rm0 Z p1 p2 p3 p4 p5 p6 h0 n0) (T34.setTop (mkF m 66 #[.val (.int p1), .val (.int p2), .val (.int p3), .val (.int p4), .val (.int p5), .val (.int p6), .val (.int (2 : Int32)), .val (.ref b30), .unset, .unset] [(.int p3)]))
    have J36 : ∀ (w37 : Int32) (hw37 : w37 = (if ((¬ (p3 < (0 : Int32))) ∧ (¬ (p4 < (0 : Int32)))) then (1 : Int32) else 0)) (T38 : State) (L38 : List Loc) (X38 : Stand p l e room_1 s m #[(.int p1), (.int p2), (.int p3), (.int p4), (.int p5), (.int p6)] below meth c T38 L38 1 2) (e38 : T38.heap = h34) (N38 : Fr n0 L38), Run p e below s 2 6 (Q_rm0 Z p1 p2 p3 p4 p5 p6 h0 n0) (T38.setTop (mkF m 106 #[.val (.int p1), .val (.int p2), .val (.int p3), .val (.int p4), .val (.int p5), .val (.int p6), .val (.int (2 : Int32)), .val (.ref b30), .unset, .unset] [(.int w37)])) := by
      intro w37 hw37 T38 L38 X38 e38 N38
      show Run p e below s 2 6 (Q_rm0 Z p1 p2 p3 p4 p5 p6 h0 n0) (T38.setTop (mkF m 106 #[.val (.int p1), .val (.int p2), .val (.int p3), .val (.int p4), .val (.int p5), .val (.int p6), .val (.int (2 : Int32)), .val (.ref b30), .unset, .unset] [(.int w37)]))
      refine Run.go (fun _ k => XS.istore X38.here hx rfl (hb hby at_106) rfl (l' := #[.val (.int p1), .val (.int p2), .val (.int p3), .val (.int p4), .val (.int p5), .val (.int p6), .val (.int (2 : Int32)), .val (.ref b30), .val (.int w37), .unset]) rfl k) ?_
      show Run p e below s 2 6 (Q_rm0 Z p1 p2 p3 p4 p5 p6 h0 n0) (T38.setTop (mkF m 108 #[.val (.int p1), .val (.int p2), .val (.int p3), .val (.int p4), .val (.int p5), .val (.int p6), .val (.int (2 : Int32)), .val (.ref b30), .val (.int w37), .unset] []))
      obtain ⟨T39, h39, X39, e39, E39, A39, D39, -, st39⟩ := newO X38 hx hZ hown (hw _ (List.mem_of_getElem? (i := 1) rfl)) (hw _ (List.mem_of_getElem? (i := 2) rfl)) (hw _ (List.mem_of_getElem? (i := 3) rfl)) e38 (g := (mkF m 108 #[.val (.int p1), .val (.int p2), .val (.int p3), .val (.int p4), .val (.int p5), .val (.int p6), .val (.int (2 : Int32)), .val (.ref b30), .val (.int w37), .unset] [])) rfl (hb hby at_108) (by decide) (by decide)
      obtain ⟨b39, g39⟩ : ∃ z, z = h34.size := ⟨_, rfl⟩
      rw [← g39] at A39 D39 st39
      have g_b39 : n0 ≤ b39 := Nat.le_trans Z34 (Nat.le_of_eq g39.symm)
      have Z39 : n0 ≤ h39.size := Nat.le_trans Z34 E39.1
      have ne_b30_b39 : b30 ≠ b39 := Nat.ne_of_lt (Nat.lt_of_lt_of_le fx35.lt (Nat.le_of_eq g39.symm))
      have fx40 : Fld Z h39 b39 "com/example/nestor/nestor/reasoning/Pattern" "predicate" "I" (.int (0 : Int32)) := D39 (Or.inr (hw _ (List.mem_of_getElem? (i := 11) rfl))) (ty := .int) (by decide)
      have fx41 : Fld Z h39 b39 "com/example/nestor/nestor/reasoning/Pattern" "terms" "[I" .null := D39 (Or.inr (hw _ (List.mem_of_getElem? (i := 13) rfl))) (ty := (.array .int)) (by decide)
      refine Run.go st39 ?_
      show Run p e below s 2 6 (Q_rm0 Z p1 p2 p3 p4 p5 p6 h0 n0) (T39.setTop (mkF m 111 #[.val (.int p1), .val (.int p2), .val (.int p3), .val (.int p4), .val (.int p5), .val (.int p6), .val (.int (2 : Int32)), .val (.ref b30), .val (.int w37), .unset] [(.ref b39)]))
      refine Run.go (fun _ k => XS.dup X39.here hx rfl (hb hby at_111) rfl rfl k) ?_
      show Run p e below s 2 6 (Q_rm0 Z p1 p2 p3 p4 p5 p6 h0 n0) (T39.setTop (mkF m 112 #[.val (.int p1), .val (.int p2), .val (.int p3), .val (.int p4), .val (.int p5), .val (.int p6), .val (.int (2 : Int32)), .val (.ref b30), .val (.int w37), .unset] [(.ref b39), (.ref b39)]))
      refine Run.go (fun _ k => XS.iloadN X39.here hx rfl (hb hby at_112) rfl  k) ?_
      show Run p e below s 2 6 (Q_rm0 Z p1 p2 p3 p4 p5 p6 h0 n0) (T39.setTop (mkF m 113 #[.val (.int p1), .val (.int p2), .val (.int p3), .val (.int p4), .val (.int p5), .val (.int p6), .val (.int (2 : Int32)), .val (.ref b30), .val (.int w37), .unset] [(.int p1), (.ref b39), (.ref b39)]))
      refine Run.go (fun _ k => XS.aload X39.here hx rfl (hb hby at_113) rfl rfl k) ?_
      show Run p e below s 2 6 (Q_rm0 Z p1 p2 p3 p4 p5 p6 h0 n0) (T39.setTop (mkF m 115 #[.val (.int p1), .val (.int p2), .val (.int p3), .val (.int p4), .val (.int p5), .val (.int p6), .val (.int (2 : Int32)), .val (.ref b30), .val (.int w37), .unset] [(.ref b30), (.int p1), (.ref b39), (.ref b39)]))
      obtain ⟨_, _, ⟨T42, L42, k42, n42⟩, -, X42, ⟨Lc42, hQ42, l42, y42, z42⟩, st42⟩ := X39.specialBack hx (y := (⟨"com/example/nestor/nestor/reasoning/Pattern", "<init>", "(I[I)V"⟩ : MethodName)) rfl hown (mvT hZ (hw _ (List.mem_of_getElem? (i := 4) rfl))) (mvT hZ (hw _ (List.mem_of_getElem? (i := 5) rfl))) (mvT hZ (hw _ (List.mem_of_getElem? (i := 6) rfl))) (by decide) (backOf (W := 1) (rm1 l Z a0 hw [] b39 p1 b30 (.int (0 : Int32)) .null h39 n0 Z39 A39 fx40 g_b39 fx41) hZ (hw _ (List.mem_of_getElem? (i := 6) rfl)) (hw _ (List.mem_of_getElem? (i := 3) rfl)) (by decide) (by decide)) (g := (mkF m 115 #[.val (.int p1), .val (.int p2), .val (.int p3), .val (.int p4), .val (.int p5), .val (.int p6), .val (.int (2 : Int32)), .val (.ref b30), .val (.int w37), .unset] [(.ref b30), (.int p1), (.ref b39), (.ref b39)])) rfl (by rw [hml]; rfl) (Steps.refl _) (a := b39) (argsL := [(.int p1), (.ref b30)]) (rest := [(.ref b39)]) (lenOf pd_0 rfl) rfl (by show 2 * 0 + _ ≤ _; exact Nat.le_of_eq rfl) (hb hby at_115) (fun _ _ => ⟨rfl, e39, (by decide : 2 + 0 ≤ _), (by decide : 4 + 0 ≤ _)⟩)
      dsimp only [Pt.U, Pt.locs, Pt.cells, Pt.slots] at X42 l42 y42 z42 st42 hQ42
      subst l42 y42 z42
      obtain ⟨rfl, N42q, K42q, fq42_0, fq42_1, fq42_2⟩ := hQ42
      have N42 := Fr.app N38 N42q
      have Z42 : n0 ≤ T42.heap.size := Nat.le_trans Z39 K42q.1
      refine Run.tr st42 ?_
      show Run p e below s 2 6 (Q_rm0 Z p1 p2 p3 p4 p5 p6 h0 n0) (T42.setTop (mkF m 118 #[.val (.int p1), .val (.int p2), .val (.int p3), .val (.int p4), .val (.int p5), .val (.int p6), .val (.int (2 : Int32)), .val (.ref b30), .val (.int w37), .unset] [(.ref b39)]))
      refine Run.go (fun _ k => XS.astore X42.here hx rfl (hb hby at_118) rfl rfl (l' := #[.val (.int p1), .val (.int p2), .val (.int p3), .val (.int p4), .val (.int p5), .val (.int p6), .val (.int (2 : Int32)), .val (.ref b30), .val (.int w37), .val (.ref b39)]) rfl k) ?_
      show Run p e below s 2 6 (Q_rm0 Z p1 p2 p3 p4 p5 p6 h0 n0) (T42.setTop (mkF m 120 #[.val (.int p1), .val (.int p2), .val (.int p3), .val (.int p4), .val (.int p5), .val (.int p6), .val (.int (2 : Int32)), .val (.ref b30), .val (.int w37), .val (.ref b39)] []))
      refine Run.go (fun _ k => XS.aload X42.here hx rfl (hb hby at_120) rfl rfl k) ?_
      show Run p e below s 2 6 (Q_rm0 Z p1 p2 p3 p4 p5 p6 h0 n0) (T42.setTop (mkF m 122 #[.val (.int p1), .val (.int p2), .val (.int p3), .val (.int p4), .val (.int p5), .val (.int p6), .val (.int (2 : Int32)), .val (.ref b30), .val (.int w37), .val (.ref b39)] [(.ref b39)]))
      have fx44 := ((fx35.ext E39).keep K42q (ninS ne_b30_b39 nin0))
      obtain ⟨cq43, kq43, q43a, q43b, q43c⟩ := isOf hZ rfl fq42_0
      obtain ⟨_, _, ⟨T43, L43, k43, n43⟩, -, X43, ⟨Lc43, hQ43, l43, y43, z43⟩, st43⟩ := X42.virtualBack hx (y := (⟨"com/example/nestor/nestor/reasoning/Pattern", "isGround", "()Z"⟩ : MethodName)) (z := (⟨"com/example/nestor/nestor/reasoning/Pattern", "isGround", "()Z"⟩ : MethodName)) hown (mvT hZ (hw _ (List.mem_of_getElem? (i := 14) rfl))) (mvT hZ (hw _ (List.mem_of_getElem? (i := 15) rfl))) (notFace_of_selects (args := #[]) (mvT hZ (hw _ (List.mem_of_getElem? (i := 17) rfl)))) (mvT hZ (hw _ (List.mem_of_getElem? (i := 17) rfl))) (mvT hZ (hw _ (List.mem_of_getElem? (i := 16) rfl))) (by decide) (backOf (W := 0) (rm3_2 l Z a0 hw [] b39 b30 (fun i => if i = 1 then (.int p4) else (fun i => if i = 0 then (.int p3) else (fun _ => (.int (0 : Int32))) i) i) p3 p4 T42.heap n0 Z42 fq42_2 fx44 rfl rfl) hZ (hw _ (List.mem_of_getElem? (i := 18) rfl)) (hw _ (List.mem_of_getElem? (i := 3) rfl)) (by decide) (by decide)) q43a q43c (g := (mkF m 122 #[.val (.int p1), .val (.int p2), .val (.int p3), .val (.int p4), .val (.int p5), .val (.int p6), .val (.int (2 : Int32)), .val (.ref b30), .val (.int w37), .val (.ref b39)] [(.ref b39)])) rfl (by rw [hml]; rfl) (Steps.refl _) (argsL := []) (rest := []) (lenOf pd_1 rfl) rfl (by show 2 * 0 + _ ≤ _; exact Nat.le_of_eq rfl) (hb hby at_122) (fun _ _ => ⟨rfl, rfl, (by decide : 2 + 0 ≤ _), (by decide : 4 + 0 ≤ _)⟩)
      dsimp only [Pt.U, Pt.locs, Pt.cells, Pt.slots] at X43 l43 y43 z43 st43 hQ43
      subst l43 y43 z43
      obtain ⟨rfl, N43q, e43q⟩ := hQ43
      have N43 := Fr.app N42 N43q
      refine Run.tr st43 ?_
      show Run p e below s 2 6 (Q_rm0 Z p1 p2 p3 p4 p5 p6 h0 n0) (T43.setTop (mkF m 125 #[.val (.int p1), .val (.int p2), .val (.int p3), .val (.int p4), .val (.int p5), .val (.int p6), .val (.int (2 : Int32)), .val (.ref b30), .val (.int w37), .val (.ref b39)] [(.int (F_rm3_2 p3 p4))]))
      refine Run.go (fun _ k => XS.iload X43.here hx rfl (hb hby at_125) rfl  k) ?_
      show Run p e below s 2 6 (Q_rm0 Z p1 p2 p3 p4 p5 p6 h0 n0) (T43.setTop (mkF m 127 #[.val (.int p1), .val (.int p2), .val (.int p3), .val (.int p4), .val (.int p5), .val (.int p6), .val (.int (2 : Int32)), .val (.ref b30), .val (.int w37), .val (.ref b39)] [(.int w37), (.int (F_rm3_2 p3 p4))]))
      refine Run.go (fun _ k => XS.icmpNo X43.here hx rfl (hb hby at_127) rfl (teq (by rw [hw37]; unfold F_rm3_2; (repeat' split) <;> simp_all)).2 k) ?_
      show Run p e below s 2 6 (Q_rm0 Z p1 p2 p3 p4 p5 p6 h0 n0) (T43.setTop (mkF m 130 #[.val (.int p1), .val (.int p2), .val (.int p3), .val (.int p4), .val (.int p5), .val (.int p6), .val (.int (2 : Int32)), .val (.ref b30), .val (.int w37), .val (.ref b39)] []))
      refine Run.go (fun _ k => XS.iconst X43.here hx rfl (hb hby at_130) k) ?_
      show Run p e below s 2 6 (Q_rm0 Z p1 p2 p3 p4 p5 p6 h0 n0) (T43.setTop (mkF m 131 #[.val (.int p1), .val (.int p2), .val (.int p3), .val (.int p4), .val (.int p5), .val (.int p6), .val (.int (2 : Int32)), .val (.ref b30), .val (.int w37), .val (.ref b39)] [(.int (1 : Int32))]))
      refine Run.go (fun _ k => XS.goto X43.here hx rfl (pc0 := 131) (pc' := 135) rfl (hb hby at_131) (by decide) (by decide) k) ?_
      show Run p e below s 2 6 (Q_rm0 Z p1 p2 p3 p4 p5 p6 h0 n0) (T43.setTop (mkF m 135 #[.val (.int p1), .val (.int p2), .val (.int p3), .val (.int p4), .val (.int p5), .val (.int p6), .val (.int (2 : Int32)), .val (.ref b30), .val (.int w37), .val (.ref b39)] [(.int (1 : Int32))]))
      exact Run.retN (y := 1) X43 hx (t := .boolean) Bd.returns (by simp) rfl Bd.notSynchronized (hb hby at_135) (by decide) (by decide) ⟨rfl, N43⟩
    by_cases hc45 : (p3 < (0 : Int32))
    · refine Run.go (fun _ k => XS.ifYes X34.here hx rfl (pc0 := 66) (pc' := 105) rfl (hb hby at_66) rfl ((if0 _ _).trans (tlt hc45).1) (by decide) (by decide) k) ?_
      show Run p e below s 2 6 (Q_rm0 Z p1 p2 p3 p4 p5 p6 h0 n0) (T34.setTop (mkF m 105 #[.val (.int p1), .val (.int p2), .val (.int p3), .val (.int p4), .val (.int p5), .val (.int p6), .val (.int (2 : Int32)), .val (.ref b30), .unset, .unset] []))
      refine Run.go (fun _ k => XS.iconst X34.here hx rfl (hb hby at_105) k) ?_
      show Run p e below s 2 6 (Q_rm0 Z p1 p2 p3 p4 p5 p6 h0 n0) (T34.setTop (mkF m 106 #[.val (.int p1), .val (.int p2), .val (.int p3), .val (.int p4), .val (.int p5), .val (.int p6), .val (.int (2 : Int32)), .val (.ref b30), .unset, .unset] [(.int (0 : Int32))]))
      exact J36 _ (if_neg (fun q => (fun q => q hc45) q.1)).symm _ _ X34 e34 N34
    · refine Run.go (fun _ k => XS.ifNo X34.here hx rfl (hb hby at_66) rfl ((if0 _ _).trans (flt hc45).1) k) ?_
      show Run p e below s 2 6 (Q_rm0 Z p1 p2 p3 p4 p5 p6 h0 n0) (T34.setTop (mkF m 69 #[.val (.int p1), .val (.int p2), .val (.int p3), .val (.int p4), .val (.int p5), .val (.int p6), .val (.int (2 : Int32)), .val (.ref b30), .unset, .unset] []))
      refine Run.go (fun _ k => XS.iload X34.here hx rfl (hb hby at_69) rfl  k) ?_
      show Run p e below s 2 6 (Q_rm0 Z p1 p2 p3 p4 p5 p6 h0 n0) (T34.setTop (mkF m 71 #[.val (.int p1), .val (.int p2), .val (.int p3), .val (.int p4), .val (.int p5), .val (.int p6), .val (.int (2 : Int32)), .val (.ref b30), .unset, .unset] [(.int (2 : Int32))]))
      refine Run.go (fun _ k => XS.iconst X34.here hx rfl (hb hby at_71) k) ?_
      show Run p e below s 2 6 (Q_rm0 Z p1 p2 p3 p4 p5 p6 h0 n0) (T34.setTop (mkF m 72 #[.val (.int p1), .val (.int p2), .val (.int p3), .val (.int p4), .val (.int p5), .val (.int p6), .val (.int (2 : Int32)), .val (.ref b30), .unset, .unset] [(.int (2 : Int32)), (.int (2 : Int32))]))
      refine Run.go (fun _ k => XS.icmpNo X34.here hx rfl (hb hby at_72) rfl (flt (by decide)).1 k) ?_
      show Run p e below s 2 6 (Q_rm0 Z p1 p2 p3 p4 p5 p6 h0 n0) (T34.setTop (mkF m 75 #[.val (.int p1), .val (.int p2), .val (.int p3), .val (.int p4), .val (.int p5), .val (.int p6), .val (.int (2 : Int32)), .val (.ref b30), .unset, .unset] []))
      refine Run.go (fun _ k => XS.iloadN X34.here hx rfl (hb hby at_75) rfl  k) ?_
      show Run p e below s 2 6 (Q_rm0 Z p1 p2 p3 p4 p5 p6 h0 n0) (T34.setTop (mkF m 76 #[.val (.int p1), .val (.int p2), .val (.int p3), .val (.int p4), .val (.int p5), .val (.int p6), .val (.int (2 : Int32)), .val (.ref b30), .unset, .unset] [(.int p4)]))
      by_cases hc46 : (p4 < (0 : Int32))
      · refine Run.go (fun _ k => XS.ifYes X34.here hx rfl (pc0 := 76) (pc' := 105) rfl (hb hby at_76) rfl ((if0 _ _).trans (tlt hc46).1) (by decide) (by decide) k) ?_
        show Run p e below s 2 6 (Q_rm0 Z p1 p2 p3 p4 p5 p6 h0 n0) (T34.setTop (mkF m 105 #[.val (.int p1), .val (.int p2), .val (.int p3), .val (.int p4), .val (.int p5), .val (.int p6), .val (.int (2 : Int32)), .val (.ref b30), .unset, .unset] []))
        refine Run.go (fun _ k => XS.iconst X34.here hx rfl (hb hby at_105) k) ?_
        show Run p e below s 2 6 (Q_rm0 Z p1 p2 p3 p4 p5 p6 h0 n0) (T34.setTop (mkF m 106 #[.val (.int p1), .val (.int p2), .val (.int p3), .val (.int p4), .val (.int p5), .val (.int p6), .val (.int (2 : Int32)), .val (.ref b30), .unset, .unset] [(.int (0 : Int32))]))
        exact J36 _ (if_neg (fun q => (fun q => q hc46) q.2)).symm _ _ X34 e34 N34
      · refine Run.go (fun _ k => XS.ifNo X34.here hx rfl (hb hby at_76) rfl ((if0 _ _).trans (flt hc46).1) k) ?_
        show Run p e below s 2 6 (Q_rm0 Z p1 p2 p3 p4 p5 p6 h0 n0) (T34.setTop (mkF m 79 #[.val (.int p1), .val (.int p2), .val (.int p3), .val (.int p4), .val (.int p5), .val (.int p6), .val (.int (2 : Int32)), .val (.ref b30), .unset, .unset] []))
        refine Run.go (fun _ k => XS.iload X34.here hx rfl (hb hby at_79) rfl  k) ?_
        show Run p e below s 2 6 (Q_rm0 Z p1 p2 p3 p4 p5 p6 h0 n0) (T34.setTop (mkF m 81 #[.val (.int p1), .val (.int p2), .val (.int p3), .val (.int p4), .val (.int p5), .val (.int p6), .val (.int (2 : Int32)), .val (.ref b30), .unset, .unset] [(.int (2 : Int32))]))
        refine Run.go (fun _ k => XS.iconst X34.here hx rfl (hb hby at_81) k) ?_
        show Run p e below s 2 6 (Q_rm0 Z p1 p2 p3 p4 p5 p6 h0 n0) (T34.setTop (mkF m 82 #[.val (.int p1), .val (.int p2), .val (.int p3), .val (.int p4), .val (.int p5), .val (.int p6), .val (.int (2 : Int32)), .val (.ref b30), .unset, .unset] [(.int (3 : Int32)), (.int (2 : Int32))]))
        refine Run.go (fun _ k => XS.icmpYes X34.here hx rfl (pc0 := 82) (pc' := 90) rfl (hb hby at_82) rfl (tlt (by decide)).1 (by decide) (by decide) k) ?_
        show Run p e below s 2 6 (Q_rm0 Z p1 p2 p3 p4 p5 p6 h0 n0) (T34.setTop (mkF m 90 #[.val (.int p1), .val (.int p2), .val (.int p3), .val (.int p4), .val (.int p5), .val (.int p6), .val (.int (2 : Int32)), .val (.ref b30), .unset, .unset] []))
        refine Run.go (fun _ k => XS.iload X34.here hx rfl (hb hby at_90) rfl  k) ?_
        show Run p e below s 2 6 (Q_rm0 Z p1 p2 p3 p4 p5 p6 h0 n0) (T34.setTop (mkF m 92 #[.val (.int p1), .val (.int p2), .val (.int p3), .val (.int p4), .val (.int p5), .val (.int p6), .val (.int (2 : Int32)), .val (.ref b30), .unset, .unset] [(.int (2 : Int32))]))
        refine Run.go (fun _ k => XS.iconst X34.here hx rfl (hb hby at_92) k) ?_
        show Run p e below s 2 6 (Q_rm0 Z p1 p2 p3 p4 p5 p6 h0 n0) (T34.setTop (mkF m 93 #[.val (.int p1), .val (.int p2), .val (.int p3), .val (.int p4), .val (.int p5), .val (.int p6), .val (.int (2 : Int32)), .val (.ref b30), .unset, .unset] [(.int (4 : Int32)), (.int (2 : Int32))]))
        refine Run.go (fun _ k => XS.icmpYes X34.here hx rfl (pc0 := 93) (pc' := 101) rfl (hb hby at_93) rfl (tlt (by decide)).1 (by decide) (by decide) k) ?_
        show Run p e below s 2 6 (Q_rm0 Z p1 p2 p3 p4 p5 p6 h0 n0) (T34.setTop (mkF m 101 #[.val (.int p1), .val (.int p2), .val (.int p3), .val (.int p4), .val (.int p5), .val (.int p6), .val (.int (2 : Int32)), .val (.ref b30), .unset, .unset] []))
        refine Run.go (fun _ k => XS.iconst X34.here hx rfl (hb hby at_101) k) ?_
        show Run p e below s 2 6 (Q_rm0 Z p1 p2 p3 p4 p5 p6 h0 n0) (T34.setTop (mkF m 102 #[.val (.int p1), .val (.int p2), .val (.int p3), .val (.int p4), .val (.int p5), .val (.int p6), .val (.int (2 : Int32)), .val (.ref b30), .unset, .unset] [(.int (1 : Int32))]))
        refine Run.go (fun _ k => XS.goto X34.here hx rfl (pc0 := 102) (pc' := 106) rfl (hb hby at_102) (by decide) (by decide) k) ?_
        show Run p e below s 2 6 (Q_rm0 Z p1 p2 p3 p4 p5 p6 h0 n0) (T34.setTop (mkF m 106 #[.val (.int p1), .val (.int p2), .val (.int p3), .val (.int p4), .val (.int p5), .val (.int p6), .val (.int (2 : Int32)), .val (.ref b30), .unset, .unset] [(.int (1 : Int32))]))
        exact J36 _ (if_pos ⟨hc45, hc46⟩).symm _ _ X34 e34 N34
  · rw [hk7]
    show Run p e below s 2 6 (Q_rm0 Z p1 p2 p3 p4 p5 p6 h0 n0) (s₁.setTop (mkF m 8 #[.val (.int p1), .val (.int p2), .val (.int p3), .val (.int p4), .val (.int p5), .val (.int p6), .val (.int (3 : Int32)), .unset, .unset, .unset] []))
    refine Run.go (fun _ k => XS.iload X0.here hx rfl (hb hby at_8) rfl  k) ?_
    show Run p e below s 2 6 (Q_rm0 Z p1 p2 p3 p4 p5 p6 h0 n0) (s₁.setTop (mkF m 10 #[.val (.int p1), .val (.int p2), .val (.int p3), .val (.int p4), .val (.int p5), .val (.int p6), .val (.int (3 : Int32)), .unset, .unset, .unset] [(.int (3 : Int32))]))
    obtain ⟨T47, h47, k47, X47, e47, E47, A47, st47⟩ := newP X0 hx hZ (hw _ (List.mem_of_getElem? (i := 0) rfl)) e0 (g := (mkF m 10 #[.val (.int p1), .val (.int p2), .val (.int p3), .val (.int p4), .val (.int p5), .val (.int p6), .val (.int (3 : Int32)), .unset, .unset, .unset] [(.int (3 : Int32))])) rfl (hb hby at_10) rfl (by decide) (cap := 3) (by decide) (by decide) (by decide) (by decide)
    obtain ⟨b47, g47⟩ : ∃ z, z = h0.size := ⟨_, rfl⟩
    rw [← g47] at A47 st47
    have g_b47 : n0 ≤ b47 := Nat.le_trans Z0 (Nat.le_of_eq g47.symm)
    have Z47 : n0 ≤ h47.size := Nat.le_trans Z0 E47.1
    have fx48 : Ary Z h47 b47 .int 3 (fun _ => (.int (0 : Int32))) := Ary.new A47 (by decide)
    refine Run.go st47 ?_
    show Run p e below s 2 6 (Q_rm0 Z p1 p2 p3 p4 p5 p6 h0 n0) (T47.setTop (mkF m 12 #[.val (.int p1), .val (.int p2), .val (.int p3), .val (.int p4), .val (.int p5), .val (.int p6), .val (.int (3 : Int32)), .unset, .unset, .unset] [(.ref b47)]))
    refine Run.go (fun _ k => XS.astore X47.here hx rfl (hb hby at_12) rfl rfl (l' := #[.val (.int p1), .val (.int p2), .val (.int p3), .val (.int p4), .val (.int p5), .val (.int p6), .val (.int (3 : Int32)), .val (.ref b47), .unset, .unset]) rfl k) ?_
    show Run p e below s 2 6 (Q_rm0 Z p1 p2 p3 p4 p5 p6 h0 n0) (T47.setTop (mkF m 14 #[.val (.int p1), .val (.int p2), .val (.int p3), .val (.int p4), .val (.int p5), .val (.int p6), .val (.int (3 : Int32)), .val (.ref b47), .unset, .unset] []))
    refine Run.go (fun _ k => XS.iload X47.here hx rfl (hb hby at_14) rfl  k) ?_
    show Run p e below s 2 6 (Q_rm0 Z p1 p2 p3 p4 p5 p6 h0 n0) (T47.setTop (mkF m 16 #[.val (.int p1), .val (.int p2), .val (.int p3), .val (.int p4), .val (.int p5), .val (.int p6), .val (.int (3 : Int32)), .val (.ref b47), .unset, .unset] [(.int (3 : Int32))]))
    refine Run.go (fun _ k => XS.ifNo X47.here hx rfl (hb hby at_16) rfl ((if0 _ _).trans (tlt (by decide)).2.2.2) k) ?_
    show Run p e below s 2 6 (Q_rm0 Z p1 p2 p3 p4 p5 p6 h0 n0) (T47.setTop (mkF m 19 #[.val (.int p1), .val (.int p2), .val (.int p3), .val (.int p4), .val (.int p5), .val (.int p6), .val (.int (3 : Int32)), .val (.ref b47), .unset, .unset] []))
    refine Run.go (fun _ k => XS.aload X47.here hx rfl (hb hby at_19) rfl rfl k) ?_
    show Run p e below s 2 6 (Q_rm0 Z p1 p2 p3 p4 p5 p6 h0 n0) (T47.setTop (mkF m 21 #[.val (.int p1), .val (.int p2), .val (.int p3), .val (.int p4), .val (.int p5), .val (.int p6), .val (.int (3 : Int32)), .val (.ref b47), .unset, .unset] [(.ref b47)]))
    refine Run.go (fun _ k => XS.iconst X47.here hx rfl (hb hby at_21) k) ?_
    show Run p e below s 2 6 (Q_rm0 Z p1 p2 p3 p4 p5 p6 h0 n0) (T47.setTop (mkF m 22 #[.val (.int p1), .val (.int p2), .val (.int p3), .val (.int p4), .val (.int p5), .val (.int p6), .val (.int (3 : Int32)), .val (.ref b47), .unset, .unset] [(.int (0 : Int32)), (.ref b47)]))
    refine Run.go (fun _ k => XS.iloadN X47.here hx rfl (hb hby at_22) rfl  k) ?_
    show Run p e below s 2 6 (Q_rm0 Z p1 p2 p3 p4 p5 p6 h0 n0) (T47.setTop (mkF m 23 #[.val (.int p1), .val (.int p2), .val (.int p3), .val (.int p4), .val (.int p5), .val (.int p6), .val (.int (3 : Int32)), .val (.ref b47), .unset, .unset] [(.int p3), (.int (0 : Int32)), (.ref b47)]))
    obtain ⟨T49, h49, X49, e49, W49, st49⟩ := ary_iset X47 hx hZ e47 fx48 (by decide) (by decide) (g := (mkF m 23 #[.val (.int p1), .val (.int p2), .val (.int p3), .val (.int p4), .val (.int p5), .val (.int p6), .val (.int (3 : Int32)), .val (.ref b47), .unset, .unset] [(.int p3), (.int (0 : Int32)), (.ref b47)])) rfl rfl (hb hby at_23)
    have N49 := Fr.snoc X49 N0 g_b47
    have Z49 : n0 ≤ h49.size := Nat.le_trans Z47 (Keep.of_wr W49).1
    have fx50 : Ary Z h49 b47 .int 3 (fun i => if i = 0 then (.int p3) else (fun _ => (.int (0 : Int32))) i) := fx48.same W49
    refine Run.go st49 ?_
    show Run p e below s 2 6 (Q_rm0 Z p1 p2 p3 p4 p5 p6 h0 n0) (T49.setTop (mkF m 24 #[.val (.int p1), .val (.int p2), .val (.int p3), .val (.int p4), .val (.int p5), .val (.int p6), .val (.int (3 : Int32)), .val (.ref b47), .unset, .unset] []))
    refine Run.go (fun _ k => XS.iload X49.here hx rfl (hb hby at_24) rfl  k) ?_
    show Run p e below s 2 6 (Q_rm0 Z p1 p2 p3 p4 p5 p6 h0 n0) (T49.setTop (mkF m 26 #[.val (.int p1), .val (.int p2), .val (.int p3), .val (.int p4), .val (.int p5), .val (.int p6), .val (.int (3 : Int32)), .val (.ref b47), .unset, .unset] [(.int (3 : Int32))]))
    refine Run.go (fun _ k => XS.iconst X49.here hx rfl (hb hby at_26) k) ?_
    show Run p e below s 2 6 (Q_rm0 Z p1 p2 p3 p4 p5 p6 h0 n0) (T49.setTop (mkF m 27 #[.val (.int p1), .val (.int p2), .val (.int p3), .val (.int p4), .val (.int p5), .val (.int p6), .val (.int (3 : Int32)), .val (.ref b47), .unset, .unset] [(.int (1 : Int32)), (.int (3 : Int32))]))
    refine Run.go (fun _ k => XS.icmpNo X49.here hx rfl (hb hby at_27) rfl (tlt (by decide)).2.2.2 k) ?_
    show Run p e below s 2 6 (Q_rm0 Z p1 p2 p3 p4 p5 p6 h0 n0) (T49.setTop (mkF m 30 #[.val (.int p1), .val (.int p2), .val (.int p3), .val (.int p4), .val (.int p5), .val (.int p6), .val (.int (3 : Int32)), .val (.ref b47), .unset, .unset] []))
    refine Run.go (fun _ k => XS.aload X49.here hx rfl (hb hby at_30) rfl rfl k) ?_
    show Run p e below s 2 6 (Q_rm0 Z p1 p2 p3 p4 p5 p6 h0 n0) (T49.setTop (mkF m 32 #[.val (.int p1), .val (.int p2), .val (.int p3), .val (.int p4), .val (.int p5), .val (.int p6), .val (.int (3 : Int32)), .val (.ref b47), .unset, .unset] [(.ref b47)]))
    refine Run.go (fun _ k => XS.iconst X49.here hx rfl (hb hby at_32) k) ?_
    show Run p e below s 2 6 (Q_rm0 Z p1 p2 p3 p4 p5 p6 h0 n0) (T49.setTop (mkF m 33 #[.val (.int p1), .val (.int p2), .val (.int p3), .val (.int p4), .val (.int p5), .val (.int p6), .val (.int (3 : Int32)), .val (.ref b47), .unset, .unset] [(.int (1 : Int32)), (.ref b47)]))
    refine Run.go (fun _ k => XS.iloadN X49.here hx rfl (hb hby at_33) rfl  k) ?_
    show Run p e below s 2 6 (Q_rm0 Z p1 p2 p3 p4 p5 p6 h0 n0) (T49.setTop (mkF m 34 #[.val (.int p1), .val (.int p2), .val (.int p3), .val (.int p4), .val (.int p5), .val (.int p6), .val (.int (3 : Int32)), .val (.ref b47), .unset, .unset] [(.int p4), (.int (1 : Int32)), (.ref b47)]))
    obtain ⟨T51, h51, X51, e51, W51, st51⟩ := ary_iset X49 hx hZ e49 fx50 (by decide) (by decide) (g := (mkF m 34 #[.val (.int p1), .val (.int p2), .val (.int p3), .val (.int p4), .val (.int p5), .val (.int p6), .val (.int (3 : Int32)), .val (.ref b47), .unset, .unset] [(.int p4), (.int (1 : Int32)), (.ref b47)])) rfl rfl (hb hby at_34)
    have N51 := Fr.snoc X51 N49 g_b47
    have Z51 : n0 ≤ h51.size := Nat.le_trans Z49 (Keep.of_wr W51).1
    have fx52 : Ary Z h51 b47 .int 3 (fun i => if i = 1 then (.int p4) else (fun i => if i = 0 then (.int p3) else (fun _ => (.int (0 : Int32))) i) i) := fx50.same W51
    refine Run.go st51 ?_
    show Run p e below s 2 6 (Q_rm0 Z p1 p2 p3 p4 p5 p6 h0 n0) (T51.setTop (mkF m 35 #[.val (.int p1), .val (.int p2), .val (.int p3), .val (.int p4), .val (.int p5), .val (.int p6), .val (.int (3 : Int32)), .val (.ref b47), .unset, .unset] []))
    refine Run.go (fun _ k => XS.iload X51.here hx rfl (hb hby at_35) rfl  k) ?_
    show Run p e below s 2 6 (Q_rm0 Z p1 p2 p3 p4 p5 p6 h0 n0) (T51.setTop (mkF m 37 #[.val (.int p1), .val (.int p2), .val (.int p3), .val (.int p4), .val (.int p5), .val (.int p6), .val (.int (3 : Int32)), .val (.ref b47), .unset, .unset] [(.int (3 : Int32))]))
    refine Run.go (fun _ k => XS.iconst X51.here hx rfl (hb hby at_37) k) ?_
    show Run p e below s 2 6 (Q_rm0 Z p1 p2 p3 p4 p5 p6 h0 n0) (T51.setTop (mkF m 38 #[.val (.int p1), .val (.int p2), .val (.int p3), .val (.int p4), .val (.int p5), .val (.int p6), .val (.int (3 : Int32)), .val (.ref b47), .unset, .unset] [(.int (2 : Int32)), (.int (3 : Int32))]))
    refine Run.go (fun _ k => XS.icmpNo X51.here hx rfl (hb hby at_38) rfl (tlt (by decide)).2.2.2 k) ?_
    show Run p e below s 2 6 (Q_rm0 Z p1 p2 p3 p4 p5 p6 h0 n0) (T51.setTop (mkF m 41 #[.val (.int p1), .val (.int p2), .val (.int p3), .val (.int p4), .val (.int p5), .val (.int p6), .val (.int (3 : Int32)), .val (.ref b47), .unset, .unset] []))
    refine Run.go (fun _ k => XS.aload X51.here hx rfl (hb hby at_41) rfl rfl k) ?_
    show Run p e below s 2 6 (Q_rm0 Z p1 p2 p3 p4 p5 p6 h0 n0) (T51.setTop (mkF m 43 #[.val (.int p1), .val (.int p2), .val (.int p3), .val (.int p4), .val (.int p5), .val (.int p6), .val (.int (3 : Int32)), .val (.ref b47), .unset, .unset] [(.ref b47)]))
    refine Run.go (fun _ k => XS.iconst X51.here hx rfl (hb hby at_43) k) ?_
    show Run p e below s 2 6 (Q_rm0 Z p1 p2 p3 p4 p5 p6 h0 n0) (T51.setTop (mkF m 44 #[.val (.int p1), .val (.int p2), .val (.int p3), .val (.int p4), .val (.int p5), .val (.int p6), .val (.int (3 : Int32)), .val (.ref b47), .unset, .unset] [(.int (2 : Int32)), (.ref b47)]))
    refine Run.go (fun _ k => XS.iload X51.here hx rfl (hb hby at_44) rfl  k) ?_
    show Run p e below s 2 6 (Q_rm0 Z p1 p2 p3 p4 p5 p6 h0 n0) (T51.setTop (mkF m 46 #[.val (.int p1), .val (.int p2), .val (.int p3), .val (.int p4), .val (.int p5), .val (.int p6), .val (.int (3 : Int32)), .val (.ref b47), .unset, .unset] [(.int p5), (.int (2 : Int32)), (.ref b47)]))
    obtain ⟨T53, h53, X53, e53, W53, st53⟩ := ary_iset X51 hx hZ e51 fx52 (by decide) (by decide) (g := (mkF m 46 #[.val (.int p1), .val (.int p2), .val (.int p3), .val (.int p4), .val (.int p5), .val (.int p6), .val (.int (3 : Int32)), .val (.ref b47), .unset, .unset] [(.int p5), (.int (2 : Int32)), (.ref b47)])) rfl rfl (hb hby at_46)
    have N53 := Fr.snoc X53 N51 g_b47
    have Z53 : n0 ≤ h53.size := Nat.le_trans Z51 (Keep.of_wr W53).1
    have fx54 : Ary Z h53 b47 .int 3 (fun i => if i = 2 then (.int p5) else (fun i => if i = 1 then (.int p4) else (fun i => if i = 0 then (.int p3) else (fun _ => (.int (0 : Int32))) i) i) i) := fx52.same W53
    refine Run.go st53 ?_
    show Run p e below s 2 6 (Q_rm0 Z p1 p2 p3 p4 p5 p6 h0 n0) (T53.setTop (mkF m 47 #[.val (.int p1), .val (.int p2), .val (.int p3), .val (.int p4), .val (.int p5), .val (.int p6), .val (.int (3 : Int32)), .val (.ref b47), .unset, .unset] []))
    refine Run.go (fun _ k => XS.iload X53.here hx rfl (hb hby at_47) rfl  k) ?_
    show Run p e below s 2 6 (Q_rm0 Z p1 p2 p3 p4 p5 p6 h0 n0) (T53.setTop (mkF m 49 #[.val (.int p1), .val (.int p2), .val (.int p3), .val (.int p4), .val (.int p5), .val (.int p6), .val (.int (3 : Int32)), .val (.ref b47), .unset, .unset] [(.int (3 : Int32))]))
    refine Run.go (fun _ k => XS.iconst X53.here hx rfl (hb hby at_49) k) ?_
    show Run p e below s 2 6 (Q_rm0 Z p1 p2 p3 p4 p5 p6 h0 n0) (T53.setTop (mkF m 50 #[.val (.int p1), .val (.int p2), .val (.int p3), .val (.int p4), .val (.int p5), .val (.int p6), .val (.int (3 : Int32)), .val (.ref b47), .unset, .unset] [(.int (3 : Int32)), (.int (3 : Int32))]))
    refine Run.go (fun _ k => XS.icmpYes X53.here hx rfl (pc0 := 50) (pc' := 59) rfl (hb hby at_50) rfl (flt (by decide)).2.2.2 (by decide) (by decide) k) ?_
    show Run p e below s 2 6 (Q_rm0 Z p1 p2 p3 p4 p5 p6 h0 n0) (T53.setTop (mkF m 59 #[.val (.int p1), .val (.int p2), .val (.int p3), .val (.int p4), .val (.int p5), .val (.int p6), .val (.int (3 : Int32)), .val (.ref b47), .unset, .unset] []))
    refine Run.go (fun _ k => XS.iload X53.here hx rfl (hb hby at_59) rfl  k) ?_
    show Run p e below s 2 6 (Q_rm0 Z p1 p2 p3 p4 p5 p6 h0 n0) (T53.setTop (mkF m 61 #[.val (.int p1), .val (.int p2), .val (.int p3), .val (.int p4), .val (.int p5), .val (.int p6), .val (.int (3 : Int32)), .val (.ref b47), .unset, .unset] [(.int (3 : Int32))]))
    refine Run.go (fun _ k => XS.iconst X53.here hx rfl (hb hby at_61) k) ?_
    show Run p e below s 2 6 (Q_rm0 Z p1 p2 p3 p4 p5 p6 h0 n0) (T53.setTop (mkF m 62 #[.val (.int p1), .val (.int p2), .val (.int p3), .val (.int p4), .val (.int p5), .val (.int p6), .val (.int (3 : Int32)), .val (.ref b47), .unset, .unset] [(.int (1 : Int32)), (.int (3 : Int32))]))
    refine Run.go (fun _ k => XS.icmpNo X53.here hx rfl (hb hby at_62) rfl (flt (by decide)).1 k) ?_
    show Run p e below s 2 6 (Q_rm0 Z p1 p2 p3 p4 p5 p6 h0 n0) (T53.setTop (mkF m 65 #[.val (.int p1), .val (.int p2), .val (.int p3), .val (.int p4), .val (.int p5), .val (.int p6), .val (.int (3 : Int32)), .val (.ref b47), .unset, .unset] []))
    refine Run.go (fun _ k => XS.iloadN X53.here hx rfl (hb hby at_65) rfl  k) ?_
    show Run p e below s 2 6 (Q_rm0 Z p1 p2 p3 p4 p5 p6 h0 n0) (T53.setTop (mkF m 66 #[.val (.int p1), .val (.int p2), .val (.int p3), .val (.int p4), .val (.int p5), .val (.int p6), .val (.int (3 : Int32)), .val (.ref b47), .unset, .unset] [(.int p3)]))
    have J55 : ∀ (w56 : Int32) (hw56 : w56 = (if ((¬ (p3 < (0 : Int32))) ∧ ((¬ (p4 < (0 : Int32))) ∧ (¬ (p5 < (0 : Int32))))) then (1 : Int32) else 0)) (T57 : State) (L57 : List Loc) (X57 : Stand p l e room_1 s m #[(.int p1), (.int p2), (.int p3), (.int p4), (.int p5), (.int p6)] below meth c T57 L57 1 3) (e57 : T57.heap = h53) (N57 : Fr n0 L57), Run p e below s 2 6 (Q_rm0 Z p1 p2 p3 p4 p5 p6 h0 n0) (T57.setTop (mkF m 106 #[.val (.int p1), .val (.int p2), .val (.int p3), .val (.int p4), .val (.int p5), .val (.int p6), .val (.int (3 : Int32)), .val (.ref b47), .unset, .unset] [(.int w56)])) := by
      intro w56 hw56 T57 L57 X57 e57 N57
      show Run p e below s 2 6 (Q_rm0 Z p1 p2 p3 p4 p5 p6 h0 n0) (T57.setTop (mkF m 106 #[.val (.int p1), .val (.int p2), .val (.int p3), .val (.int p4), .val (.int p5), .val (.int p6), .val (.int (3 : Int32)), .val (.ref b47), .unset, .unset] [(.int w56)]))
      refine Run.go (fun _ k => XS.istore X57.here hx rfl (hb hby at_106) rfl (l' := #[.val (.int p1), .val (.int p2), .val (.int p3), .val (.int p4), .val (.int p5), .val (.int p6), .val (.int (3 : Int32)), .val (.ref b47), .val (.int w56), .unset]) rfl k) ?_
      show Run p e below s 2 6 (Q_rm0 Z p1 p2 p3 p4 p5 p6 h0 n0) (T57.setTop (mkF m 108 #[.val (.int p1), .val (.int p2), .val (.int p3), .val (.int p4), .val (.int p5), .val (.int p6), .val (.int (3 : Int32)), .val (.ref b47), .val (.int w56), .unset] []))
      obtain ⟨T58, h58, X58, e58, E58, A58, D58, -, st58⟩ := newO X57 hx hZ hown (hw _ (List.mem_of_getElem? (i := 1) rfl)) (hw _ (List.mem_of_getElem? (i := 2) rfl)) (hw _ (List.mem_of_getElem? (i := 3) rfl)) e57 (g := (mkF m 108 #[.val (.int p1), .val (.int p2), .val (.int p3), .val (.int p4), .val (.int p5), .val (.int p6), .val (.int (3 : Int32)), .val (.ref b47), .val (.int w56), .unset] [])) rfl (hb hby at_108) (by decide) (by decide)
      obtain ⟨b58, g58⟩ : ∃ z, z = h53.size := ⟨_, rfl⟩
      rw [← g58] at A58 D58 st58
      have g_b58 : n0 ≤ b58 := Nat.le_trans Z53 (Nat.le_of_eq g58.symm)
      have Z58 : n0 ≤ h58.size := Nat.le_trans Z53 E58.1
      have ne_b47_b58 : b47 ≠ b58 := Nat.ne_of_lt (Nat.lt_of_lt_of_le fx54.lt (Nat.le_of_eq g58.symm))
      have fx59 : Fld Z h58 b58 "com/example/nestor/nestor/reasoning/Pattern" "predicate" "I" (.int (0 : Int32)) := D58 (Or.inr (hw _ (List.mem_of_getElem? (i := 11) rfl))) (ty := .int) (by decide)
      have fx60 : Fld Z h58 b58 "com/example/nestor/nestor/reasoning/Pattern" "terms" "[I" .null := D58 (Or.inr (hw _ (List.mem_of_getElem? (i := 13) rfl))) (ty := (.array .int)) (by decide)
      refine Run.go st58 ?_
      show Run p e below s 2 6 (Q_rm0 Z p1 p2 p3 p4 p5 p6 h0 n0) (T58.setTop (mkF m 111 #[.val (.int p1), .val (.int p2), .val (.int p3), .val (.int p4), .val (.int p5), .val (.int p6), .val (.int (3 : Int32)), .val (.ref b47), .val (.int w56), .unset] [(.ref b58)]))
      refine Run.go (fun _ k => XS.dup X58.here hx rfl (hb hby at_111) rfl rfl k) ?_
      show Run p e below s 2 6 (Q_rm0 Z p1 p2 p3 p4 p5 p6 h0 n0) (T58.setTop (mkF m 112 #[.val (.int p1), .val (.int p2), .val (.int p3), .val (.int p4), .val (.int p5), .val (.int p6), .val (.int (3 : Int32)), .val (.ref b47), .val (.int w56), .unset] [(.ref b58), (.ref b58)]))
      refine Run.go (fun _ k => XS.iloadN X58.here hx rfl (hb hby at_112) rfl  k) ?_
      show Run p e below s 2 6 (Q_rm0 Z p1 p2 p3 p4 p5 p6 h0 n0) (T58.setTop (mkF m 113 #[.val (.int p1), .val (.int p2), .val (.int p3), .val (.int p4), .val (.int p5), .val (.int p6), .val (.int (3 : Int32)), .val (.ref b47), .val (.int w56), .unset] [(.int p1), (.ref b58), (.ref b58)]))
      refine Run.go (fun _ k => XS.aload X58.here hx rfl (hb hby at_113) rfl rfl k) ?_
      show Run p e below s 2 6 (Q_rm0 Z p1 p2 p3 p4 p5 p6 h0 n0) (T58.setTop (mkF m 115 #[.val (.int p1), .val (.int p2), .val (.int p3), .val (.int p4), .val (.int p5), .val (.int p6), .val (.int (3 : Int32)), .val (.ref b47), .val (.int w56), .unset] [(.ref b47), (.int p1), (.ref b58), (.ref b58)]))
      obtain ⟨_, _, ⟨T61, L61, k61, n61⟩, -, X61, ⟨Lc61, hQ61, l61, y61, z61⟩, st61⟩ := X58.specialBack hx (y := (⟨"com/example/nestor/nestor/reasoning/Pattern", "<init>", "(I[I)V"⟩ : MethodName)) rfl hown (mvT hZ (hw _ (List.mem_of_getElem? (i := 4) rfl))) (mvT hZ (hw _ (List.mem_of_getElem? (i := 5) rfl))) (mvT hZ (hw _ (List.mem_of_getElem? (i := 6) rfl))) (by decide) (backOf (W := 1) (rm1 l Z a0 hw [] b58 p1 b47 (.int (0 : Int32)) .null h58 n0 Z58 A58 fx59 g_b58 fx60) hZ (hw _ (List.mem_of_getElem? (i := 6) rfl)) (hw _ (List.mem_of_getElem? (i := 3) rfl)) (by decide) (by decide)) (g := (mkF m 115 #[.val (.int p1), .val (.int p2), .val (.int p3), .val (.int p4), .val (.int p5), .val (.int p6), .val (.int (3 : Int32)), .val (.ref b47), .val (.int w56), .unset] [(.ref b47), (.int p1), (.ref b58), (.ref b58)])) rfl (by rw [hml]; rfl) (Steps.refl _) (a := b58) (argsL := [(.int p1), (.ref b47)]) (rest := [(.ref b58)]) (lenOf pd_0 rfl) rfl (by show 2 * 0 + _ ≤ _; exact Nat.le_of_eq rfl) (hb hby at_115) (fun _ _ => ⟨rfl, e58, (by decide : 2 + 0 ≤ _), (by decide : 5 + 0 ≤ _)⟩)
      dsimp only [Pt.U, Pt.locs, Pt.cells, Pt.slots] at X61 l61 y61 z61 st61 hQ61
      subst l61 y61 z61
      obtain ⟨rfl, N61q, K61q, fq61_0, fq61_1, fq61_2⟩ := hQ61
      have N61 := Fr.app N57 N61q
      have Z61 : n0 ≤ T61.heap.size := Nat.le_trans Z58 K61q.1
      refine Run.tr st61 ?_
      show Run p e below s 2 6 (Q_rm0 Z p1 p2 p3 p4 p5 p6 h0 n0) (T61.setTop (mkF m 118 #[.val (.int p1), .val (.int p2), .val (.int p3), .val (.int p4), .val (.int p5), .val (.int p6), .val (.int (3 : Int32)), .val (.ref b47), .val (.int w56), .unset] [(.ref b58)]))
      refine Run.go (fun _ k => XS.astore X61.here hx rfl (hb hby at_118) rfl rfl (l' := #[.val (.int p1), .val (.int p2), .val (.int p3), .val (.int p4), .val (.int p5), .val (.int p6), .val (.int (3 : Int32)), .val (.ref b47), .val (.int w56), .val (.ref b58)]) rfl k) ?_
      show Run p e below s 2 6 (Q_rm0 Z p1 p2 p3 p4 p5 p6 h0 n0) (T61.setTop (mkF m 120 #[.val (.int p1), .val (.int p2), .val (.int p3), .val (.int p4), .val (.int p5), .val (.int p6), .val (.int (3 : Int32)), .val (.ref b47), .val (.int w56), .val (.ref b58)] []))
      refine Run.go (fun _ k => XS.aload X61.here hx rfl (hb hby at_120) rfl rfl k) ?_
      show Run p e below s 2 6 (Q_rm0 Z p1 p2 p3 p4 p5 p6 h0 n0) (T61.setTop (mkF m 122 #[.val (.int p1), .val (.int p2), .val (.int p3), .val (.int p4), .val (.int p5), .val (.int p6), .val (.int (3 : Int32)), .val (.ref b47), .val (.int w56), .val (.ref b58)] [(.ref b58)]))
      have fx63 := ((fx54.ext E58).keep K61q (ninS ne_b47_b58 nin0))
      obtain ⟨cq62, kq62, q62a, q62b, q62c⟩ := isOf hZ rfl fq61_0
      obtain ⟨_, _, ⟨T62, L62, k62, n62⟩, -, X62, ⟨Lc62, hQ62, l62, y62, z62⟩, st62⟩ := X61.virtualBack hx (y := (⟨"com/example/nestor/nestor/reasoning/Pattern", "isGround", "()Z"⟩ : MethodName)) (z := (⟨"com/example/nestor/nestor/reasoning/Pattern", "isGround", "()Z"⟩ : MethodName)) hown (mvT hZ (hw _ (List.mem_of_getElem? (i := 14) rfl))) (mvT hZ (hw _ (List.mem_of_getElem? (i := 15) rfl))) (notFace_of_selects (args := #[]) (mvT hZ (hw _ (List.mem_of_getElem? (i := 17) rfl)))) (mvT hZ (hw _ (List.mem_of_getElem? (i := 17) rfl))) (mvT hZ (hw _ (List.mem_of_getElem? (i := 16) rfl))) (by decide) (backOf (W := 0) (rm3_3 l Z a0 hw [] b58 b47 (fun i => if i = 2 then (.int p5) else (fun i => if i = 1 then (.int p4) else (fun i => if i = 0 then (.int p3) else (fun _ => (.int (0 : Int32))) i) i) i) p3 p4 p5 T61.heap n0 Z61 fq61_2 fx63 rfl rfl rfl) hZ (hw _ (List.mem_of_getElem? (i := 18) rfl)) (hw _ (List.mem_of_getElem? (i := 3) rfl)) (by decide) (by decide)) q62a q62c (g := (mkF m 122 #[.val (.int p1), .val (.int p2), .val (.int p3), .val (.int p4), .val (.int p5), .val (.int p6), .val (.int (3 : Int32)), .val (.ref b47), .val (.int w56), .val (.ref b58)] [(.ref b58)])) rfl (by rw [hml]; rfl) (Steps.refl _) (argsL := []) (rest := []) (lenOf pd_1 rfl) rfl (by show 2 * 0 + _ ≤ _; exact Nat.le_of_eq rfl) (hb hby at_122) (fun _ _ => ⟨rfl, rfl, (by decide : 2 + 0 ≤ _), (by decide : 5 + 0 ≤ _)⟩)
      dsimp only [Pt.U, Pt.locs, Pt.cells, Pt.slots] at X62 l62 y62 z62 st62 hQ62
      subst l62 y62 z62
      obtain ⟨rfl, N62q, e62q⟩ := hQ62
      have N62 := Fr.app N61 N62q
      refine Run.tr st62 ?_
      show Run p e below s 2 6 (Q_rm0 Z p1 p2 p3 p4 p5 p6 h0 n0) (T62.setTop (mkF m 125 #[.val (.int p1), .val (.int p2), .val (.int p3), .val (.int p4), .val (.int p5), .val (.int p6), .val (.int (3 : Int32)), .val (.ref b47), .val (.int w56), .val (.ref b58)] [(.int (F_rm3_3 p3 p4 p5))]))
      refine Run.go (fun _ k => XS.iload X62.here hx rfl (hb hby at_125) rfl  k) ?_
      show Run p e below s 2 6 (Q_rm0 Z p1 p2 p3 p4 p5 p6 h0 n0) (T62.setTop (mkF m 127 #[.val (.int p1), .val (.int p2), .val (.int p3), .val (.int p4), .val (.int p5), .val (.int p6), .val (.int (3 : Int32)), .val (.ref b47), .val (.int w56), .val (.ref b58)] [(.int w56), (.int (F_rm3_3 p3 p4 p5))]))
      refine Run.go (fun _ k => XS.icmpNo X62.here hx rfl (hb hby at_127) rfl (teq (by rw [hw56]; unfold F_rm3_3; (repeat' split) <;> simp_all)).2 k) ?_
      show Run p e below s 2 6 (Q_rm0 Z p1 p2 p3 p4 p5 p6 h0 n0) (T62.setTop (mkF m 130 #[.val (.int p1), .val (.int p2), .val (.int p3), .val (.int p4), .val (.int p5), .val (.int p6), .val (.int (3 : Int32)), .val (.ref b47), .val (.int w56), .val (.ref b58)] []))
      refine Run.go (fun _ k => XS.iconst X62.here hx rfl (hb hby at_130) k) ?_
      show Run p e below s 2 6 (Q_rm0 Z p1 p2 p3 p4 p5 p6 h0 n0) (T62.setTop (mkF m 131 #[.val (.int p1), .val (.int p2), .val (.int p3), .val (.int p4), .val (.int p5), .val (.int p6), .val (.int (3 : Int32)), .val (.ref b47), .val (.int w56), .val (.ref b58)] [(.int (1 : Int32))]))
      refine Run.go (fun _ k => XS.goto X62.here hx rfl (pc0 := 131) (pc' := 135) rfl (hb hby at_131) (by decide) (by decide) k) ?_
      show Run p e below s 2 6 (Q_rm0 Z p1 p2 p3 p4 p5 p6 h0 n0) (T62.setTop (mkF m 135 #[.val (.int p1), .val (.int p2), .val (.int p3), .val (.int p4), .val (.int p5), .val (.int p6), .val (.int (3 : Int32)), .val (.ref b47), .val (.int w56), .val (.ref b58)] [(.int (1 : Int32))]))
      exact Run.retN (y := 1) X62 hx (t := .boolean) Bd.returns (by simp) rfl Bd.notSynchronized (hb hby at_135) (by decide) (by decide) ⟨rfl, N62⟩
    by_cases hc64 : (p3 < (0 : Int32))
    · refine Run.go (fun _ k => XS.ifYes X53.here hx rfl (pc0 := 66) (pc' := 105) rfl (hb hby at_66) rfl ((if0 _ _).trans (tlt hc64).1) (by decide) (by decide) k) ?_
      show Run p e below s 2 6 (Q_rm0 Z p1 p2 p3 p4 p5 p6 h0 n0) (T53.setTop (mkF m 105 #[.val (.int p1), .val (.int p2), .val (.int p3), .val (.int p4), .val (.int p5), .val (.int p6), .val (.int (3 : Int32)), .val (.ref b47), .unset, .unset] []))
      refine Run.go (fun _ k => XS.iconst X53.here hx rfl (hb hby at_105) k) ?_
      show Run p e below s 2 6 (Q_rm0 Z p1 p2 p3 p4 p5 p6 h0 n0) (T53.setTop (mkF m 106 #[.val (.int p1), .val (.int p2), .val (.int p3), .val (.int p4), .val (.int p5), .val (.int p6), .val (.int (3 : Int32)), .val (.ref b47), .unset, .unset] [(.int (0 : Int32))]))
      exact J55 _ (if_neg (fun q => (fun q => q hc64) q.1)).symm _ _ X53 e53 N53
    · refine Run.go (fun _ k => XS.ifNo X53.here hx rfl (hb hby at_66) rfl ((if0 _ _).trans (flt hc64).1) k) ?_
      show Run p e below s 2 6 (Q_rm0 Z p1 p2 p3 p4 p5 p6 h0 n0) (T53.setTop (mkF m 69 #[.val (.int p1), .val (.int p2), .val (.int p3), .val (.int p4), .val (.int p5), .val (.int p6), .val (.int (3 : Int32)), .val (.ref b47), .unset, .unset] []))
      refine Run.go (fun _ k => XS.iload X53.here hx rfl (hb hby at_69) rfl  k) ?_
      show Run p e below s 2 6 (Q_rm0 Z p1 p2 p3 p4 p5 p6 h0 n0) (T53.setTop (mkF m 71 #[.val (.int p1), .val (.int p2), .val (.int p3), .val (.int p4), .val (.int p5), .val (.int p6), .val (.int (3 : Int32)), .val (.ref b47), .unset, .unset] [(.int (3 : Int32))]))
      refine Run.go (fun _ k => XS.iconst X53.here hx rfl (hb hby at_71) k) ?_
      show Run p e below s 2 6 (Q_rm0 Z p1 p2 p3 p4 p5 p6 h0 n0) (T53.setTop (mkF m 72 #[.val (.int p1), .val (.int p2), .val (.int p3), .val (.int p4), .val (.int p5), .val (.int p6), .val (.int (3 : Int32)), .val (.ref b47), .unset, .unset] [(.int (2 : Int32)), (.int (3 : Int32))]))
      refine Run.go (fun _ k => XS.icmpNo X53.here hx rfl (hb hby at_72) rfl (flt (by decide)).1 k) ?_
      show Run p e below s 2 6 (Q_rm0 Z p1 p2 p3 p4 p5 p6 h0 n0) (T53.setTop (mkF m 75 #[.val (.int p1), .val (.int p2), .val (.int p3), .val (.int p4), .val (.int p5), .val (.int p6), .val (.int (3 : Int32)), .val (.ref b47), .unset, .unset] []))
      refine Run.go (fun _ k => XS.iloadN X53.here hx rfl (hb hby at_75) rfl  k) ?_
      show Run p e below s 2 6 (Q_rm0 Z p1 p2 p3 p4 p5 p6 h0 n0) (T53.setTop (mkF m 76 #[.val (.int p1), .val (.int p2), .val (.int p3), .val (.int p4), .val (.int p5), .val (.int p6), .val (.int (3 : Int32)), .val (.ref b47), .unset, .unset] [(.int p4)]))
      by_cases hc65 : (p4 < (0 : Int32))
      · refine Run.go (fun _ k => XS.ifYes X53.here hx rfl (pc0 := 76) (pc' := 105) rfl (hb hby at_76) rfl ((if0 _ _).trans (tlt hc65).1) (by decide) (by decide) k) ?_
        show Run p e below s 2 6 (Q_rm0 Z p1 p2 p3 p4 p5 p6 h0 n0) (T53.setTop (mkF m 105 #[.val (.int p1), .val (.int p2), .val (.int p3), .val (.int p4), .val (.int p5), .val (.int p6), .val (.int (3 : Int32)), .val (.ref b47), .unset, .unset] []))
        refine Run.go (fun _ k => XS.iconst X53.here hx rfl (hb hby at_105) k) ?_
        show Run p e below s 2 6 (Q_rm0 Z p1 p2 p3 p4 p5 p6 h0 n0) (T53.setTop (mkF m 106 #[.val (.int p1), .val (.int p2), .val (.int p3), .val (.int p4), .val (.int p5), .val (.int p6), .val (.int (3 : Int32)), .val (.ref b47), .unset, .unset] [(.int (0 : Int32))]))
        exact J55 _ (if_neg (fun q => (fun q => (fun q => q hc65) q.1) q.2)).symm _ _ X53 e53 N53
      · refine Run.go (fun _ k => XS.ifNo X53.here hx rfl (hb hby at_76) rfl ((if0 _ _).trans (flt hc65).1) k) ?_
        show Run p e below s 2 6 (Q_rm0 Z p1 p2 p3 p4 p5 p6 h0 n0) (T53.setTop (mkF m 79 #[.val (.int p1), .val (.int p2), .val (.int p3), .val (.int p4), .val (.int p5), .val (.int p6), .val (.int (3 : Int32)), .val (.ref b47), .unset, .unset] []))
        refine Run.go (fun _ k => XS.iload X53.here hx rfl (hb hby at_79) rfl  k) ?_
        show Run p e below s 2 6 (Q_rm0 Z p1 p2 p3 p4 p5 p6 h0 n0) (T53.setTop (mkF m 81 #[.val (.int p1), .val (.int p2), .val (.int p3), .val (.int p4), .val (.int p5), .val (.int p6), .val (.int (3 : Int32)), .val (.ref b47), .unset, .unset] [(.int (3 : Int32))]))
        refine Run.go (fun _ k => XS.iconst X53.here hx rfl (hb hby at_81) k) ?_
        show Run p e below s 2 6 (Q_rm0 Z p1 p2 p3 p4 p5 p6 h0 n0) (T53.setTop (mkF m 82 #[.val (.int p1), .val (.int p2), .val (.int p3), .val (.int p4), .val (.int p5), .val (.int p6), .val (.int (3 : Int32)), .val (.ref b47), .unset, .unset] [(.int (3 : Int32)), (.int (3 : Int32))]))
        refine Run.go (fun _ k => XS.icmpNo X53.here hx rfl (hb hby at_82) rfl (flt (by decide)).1 k) ?_
        show Run p e below s 2 6 (Q_rm0 Z p1 p2 p3 p4 p5 p6 h0 n0) (T53.setTop (mkF m 85 #[.val (.int p1), .val (.int p2), .val (.int p3), .val (.int p4), .val (.int p5), .val (.int p6), .val (.int (3 : Int32)), .val (.ref b47), .unset, .unset] []))
        refine Run.go (fun _ k => XS.iload X53.here hx rfl (hb hby at_85) rfl  k) ?_
        show Run p e below s 2 6 (Q_rm0 Z p1 p2 p3 p4 p5 p6 h0 n0) (T53.setTop (mkF m 87 #[.val (.int p1), .val (.int p2), .val (.int p3), .val (.int p4), .val (.int p5), .val (.int p6), .val (.int (3 : Int32)), .val (.ref b47), .unset, .unset] [(.int p5)]))
        by_cases hc66 : (p5 < (0 : Int32))
        · refine Run.go (fun _ k => XS.ifYes X53.here hx rfl (pc0 := 87) (pc' := 105) rfl (hb hby at_87) rfl ((if0 _ _).trans (tlt hc66).1) (by decide) (by decide) k) ?_
          show Run p e below s 2 6 (Q_rm0 Z p1 p2 p3 p4 p5 p6 h0 n0) (T53.setTop (mkF m 105 #[.val (.int p1), .val (.int p2), .val (.int p3), .val (.int p4), .val (.int p5), .val (.int p6), .val (.int (3 : Int32)), .val (.ref b47), .unset, .unset] []))
          refine Run.go (fun _ k => XS.iconst X53.here hx rfl (hb hby at_105) k) ?_
          show Run p e below s 2 6 (Q_rm0 Z p1 p2 p3 p4 p5 p6 h0 n0) (T53.setTop (mkF m 106 #[.val (.int p1), .val (.int p2), .val (.int p3), .val (.int p4), .val (.int p5), .val (.int p6), .val (.int (3 : Int32)), .val (.ref b47), .unset, .unset] [(.int (0 : Int32))]))
          exact J55 _ (if_neg (fun q => (fun q => (fun q => q hc66) q.2) q.2)).symm _ _ X53 e53 N53
        · refine Run.go (fun _ k => XS.ifNo X53.here hx rfl (hb hby at_87) rfl ((if0 _ _).trans (flt hc66).1) k) ?_
          show Run p e below s 2 6 (Q_rm0 Z p1 p2 p3 p4 p5 p6 h0 n0) (T53.setTop (mkF m 90 #[.val (.int p1), .val (.int p2), .val (.int p3), .val (.int p4), .val (.int p5), .val (.int p6), .val (.int (3 : Int32)), .val (.ref b47), .unset, .unset] []))
          refine Run.go (fun _ k => XS.iload X53.here hx rfl (hb hby at_90) rfl  k) ?_
          show Run p e below s 2 6 (Q_rm0 Z p1 p2 p3 p4 p5 p6 h0 n0) (T53.setTop (mkF m 92 #[.val (.int p1), .val (.int p2), .val (.int p3), .val (.int p4), .val (.int p5), .val (.int p6), .val (.int (3 : Int32)), .val (.ref b47), .unset, .unset] [(.int (3 : Int32))]))
          refine Run.go (fun _ k => XS.iconst X53.here hx rfl (hb hby at_92) k) ?_
          show Run p e below s 2 6 (Q_rm0 Z p1 p2 p3 p4 p5 p6 h0 n0) (T53.setTop (mkF m 93 #[.val (.int p1), .val (.int p2), .val (.int p3), .val (.int p4), .val (.int p5), .val (.int p6), .val (.int (3 : Int32)), .val (.ref b47), .unset, .unset] [(.int (4 : Int32)), (.int (3 : Int32))]))
          refine Run.go (fun _ k => XS.icmpYes X53.here hx rfl (pc0 := 93) (pc' := 101) rfl (hb hby at_93) rfl (tlt (by decide)).1 (by decide) (by decide) k) ?_
          show Run p e below s 2 6 (Q_rm0 Z p1 p2 p3 p4 p5 p6 h0 n0) (T53.setTop (mkF m 101 #[.val (.int p1), .val (.int p2), .val (.int p3), .val (.int p4), .val (.int p5), .val (.int p6), .val (.int (3 : Int32)), .val (.ref b47), .unset, .unset] []))
          refine Run.go (fun _ k => XS.iconst X53.here hx rfl (hb hby at_101) k) ?_
          show Run p e below s 2 6 (Q_rm0 Z p1 p2 p3 p4 p5 p6 h0 n0) (T53.setTop (mkF m 102 #[.val (.int p1), .val (.int p2), .val (.int p3), .val (.int p4), .val (.int p5), .val (.int p6), .val (.int (3 : Int32)), .val (.ref b47), .unset, .unset] [(.int (1 : Int32))]))
          refine Run.go (fun _ k => XS.goto X53.here hx rfl (pc0 := 102) (pc' := 106) rfl (hb hby at_102) (by decide) (by decide) k) ?_
          show Run p e below s 2 6 (Q_rm0 Z p1 p2 p3 p4 p5 p6 h0 n0) (T53.setTop (mkF m 106 #[.val (.int p1), .val (.int p2), .val (.int p3), .val (.int p4), .val (.int p5), .val (.int p6), .val (.int (3 : Int32)), .val (.ref b47), .unset, .unset] [(.int (1 : Int32))]))
          exact J55 _ (if_pos ⟨hc64, ⟨hc65, hc66⟩⟩).symm _ _ X53 e53 N53
  · rw [hk7]
    show Run p e below s 2 6 (Q_rm0 Z p1 p2 p3 p4 p5 p6 h0 n0) (s₁.setTop (mkF m 8 #[.val (.int p1), .val (.int p2), .val (.int p3), .val (.int p4), .val (.int p5), .val (.int p6), .val (.int (4 : Int32)), .unset, .unset, .unset] []))
    refine Run.go (fun _ k => XS.iload X0.here hx rfl (hb hby at_8) rfl  k) ?_
    show Run p e below s 2 6 (Q_rm0 Z p1 p2 p3 p4 p5 p6 h0 n0) (s₁.setTop (mkF m 10 #[.val (.int p1), .val (.int p2), .val (.int p3), .val (.int p4), .val (.int p5), .val (.int p6), .val (.int (4 : Int32)), .unset, .unset, .unset] [(.int (4 : Int32))]))
    obtain ⟨T67, h67, k67, X67, e67, E67, A67, st67⟩ := newP X0 hx hZ (hw _ (List.mem_of_getElem? (i := 0) rfl)) e0 (g := (mkF m 10 #[.val (.int p1), .val (.int p2), .val (.int p3), .val (.int p4), .val (.int p5), .val (.int p6), .val (.int (4 : Int32)), .unset, .unset, .unset] [(.int (4 : Int32))])) rfl (hb hby at_10) rfl (by decide) (cap := 4) (by decide) (by decide) (by decide) (by decide)
    obtain ⟨b67, g67⟩ : ∃ z, z = h0.size := ⟨_, rfl⟩
    rw [← g67] at A67 st67
    have g_b67 : n0 ≤ b67 := Nat.le_trans Z0 (Nat.le_of_eq g67.symm)
    have Z67 : n0 ≤ h67.size := Nat.le_trans Z0 E67.1
    have fx68 : Ary Z h67 b67 .int 4 (fun _ => (.int (0 : Int32))) := Ary.new A67 (by decide)
    refine Run.go st67 ?_
    show Run p e below s 2 6 (Q_rm0 Z p1 p2 p3 p4 p5 p6 h0 n0) (T67.setTop (mkF m 12 #[.val (.int p1), .val (.int p2), .val (.int p3), .val (.int p4), .val (.int p5), .val (.int p6), .val (.int (4 : Int32)), .unset, .unset, .unset] [(.ref b67)]))
    refine Run.go (fun _ k => XS.astore X67.here hx rfl (hb hby at_12) rfl rfl (l' := #[.val (.int p1), .val (.int p2), .val (.int p3), .val (.int p4), .val (.int p5), .val (.int p6), .val (.int (4 : Int32)), .val (.ref b67), .unset, .unset]) rfl k) ?_
    show Run p e below s 2 6 (Q_rm0 Z p1 p2 p3 p4 p5 p6 h0 n0) (T67.setTop (mkF m 14 #[.val (.int p1), .val (.int p2), .val (.int p3), .val (.int p4), .val (.int p5), .val (.int p6), .val (.int (4 : Int32)), .val (.ref b67), .unset, .unset] []))
    refine Run.go (fun _ k => XS.iload X67.here hx rfl (hb hby at_14) rfl  k) ?_
    show Run p e below s 2 6 (Q_rm0 Z p1 p2 p3 p4 p5 p6 h0 n0) (T67.setTop (mkF m 16 #[.val (.int p1), .val (.int p2), .val (.int p3), .val (.int p4), .val (.int p5), .val (.int p6), .val (.int (4 : Int32)), .val (.ref b67), .unset, .unset] [(.int (4 : Int32))]))
    refine Run.go (fun _ k => XS.ifNo X67.here hx rfl (hb hby at_16) rfl ((if0 _ _).trans (tlt (by decide)).2.2.2) k) ?_
    show Run p e below s 2 6 (Q_rm0 Z p1 p2 p3 p4 p5 p6 h0 n0) (T67.setTop (mkF m 19 #[.val (.int p1), .val (.int p2), .val (.int p3), .val (.int p4), .val (.int p5), .val (.int p6), .val (.int (4 : Int32)), .val (.ref b67), .unset, .unset] []))
    refine Run.go (fun _ k => XS.aload X67.here hx rfl (hb hby at_19) rfl rfl k) ?_
    show Run p e below s 2 6 (Q_rm0 Z p1 p2 p3 p4 p5 p6 h0 n0) (T67.setTop (mkF m 21 #[.val (.int p1), .val (.int p2), .val (.int p3), .val (.int p4), .val (.int p5), .val (.int p6), .val (.int (4 : Int32)), .val (.ref b67), .unset, .unset] [(.ref b67)]))
    refine Run.go (fun _ k => XS.iconst X67.here hx rfl (hb hby at_21) k) ?_
    show Run p e below s 2 6 (Q_rm0 Z p1 p2 p3 p4 p5 p6 h0 n0) (T67.setTop (mkF m 22 #[.val (.int p1), .val (.int p2), .val (.int p3), .val (.int p4), .val (.int p5), .val (.int p6), .val (.int (4 : Int32)), .val (.ref b67), .unset, .unset] [(.int (0 : Int32)), (.ref b67)]))
    refine Run.go (fun _ k => XS.iloadN X67.here hx rfl (hb hby at_22) rfl  k) ?_
    show Run p e below s 2 6 (Q_rm0 Z p1 p2 p3 p4 p5 p6 h0 n0) (T67.setTop (mkF m 23 #[.val (.int p1), .val (.int p2), .val (.int p3), .val (.int p4), .val (.int p5), .val (.int p6), .val (.int (4 : Int32)), .val (.ref b67), .unset, .unset] [(.int p3), (.int (0 : Int32)), (.ref b67)]))
    obtain ⟨T69, h69, X69, e69, W69, st69⟩ := ary_iset X67 hx hZ e67 fx68 (by decide) (by decide) (g := (mkF m 23 #[.val (.int p1), .val (.int p2), .val (.int p3), .val (.int p4), .val (.int p5), .val (.int p6), .val (.int (4 : Int32)), .val (.ref b67), .unset, .unset] [(.int p3), (.int (0 : Int32)), (.ref b67)])) rfl rfl (hb hby at_23)
    have N69 := Fr.snoc X69 N0 g_b67
    have Z69 : n0 ≤ h69.size := Nat.le_trans Z67 (Keep.of_wr W69).1
    have fx70 : Ary Z h69 b67 .int 4 (fun i => if i = 0 then (.int p3) else (fun _ => (.int (0 : Int32))) i) := fx68.same W69
    refine Run.go st69 ?_
    show Run p e below s 2 6 (Q_rm0 Z p1 p2 p3 p4 p5 p6 h0 n0) (T69.setTop (mkF m 24 #[.val (.int p1), .val (.int p2), .val (.int p3), .val (.int p4), .val (.int p5), .val (.int p6), .val (.int (4 : Int32)), .val (.ref b67), .unset, .unset] []))
    refine Run.go (fun _ k => XS.iload X69.here hx rfl (hb hby at_24) rfl  k) ?_
    show Run p e below s 2 6 (Q_rm0 Z p1 p2 p3 p4 p5 p6 h0 n0) (T69.setTop (mkF m 26 #[.val (.int p1), .val (.int p2), .val (.int p3), .val (.int p4), .val (.int p5), .val (.int p6), .val (.int (4 : Int32)), .val (.ref b67), .unset, .unset] [(.int (4 : Int32))]))
    refine Run.go (fun _ k => XS.iconst X69.here hx rfl (hb hby at_26) k) ?_
    show Run p e below s 2 6 (Q_rm0 Z p1 p2 p3 p4 p5 p6 h0 n0) (T69.setTop (mkF m 27 #[.val (.int p1), .val (.int p2), .val (.int p3), .val (.int p4), .val (.int p5), .val (.int p6), .val (.int (4 : Int32)), .val (.ref b67), .unset, .unset] [(.int (1 : Int32)), (.int (4 : Int32))]))
    refine Run.go (fun _ k => XS.icmpNo X69.here hx rfl (hb hby at_27) rfl (tlt (by decide)).2.2.2 k) ?_
    show Run p e below s 2 6 (Q_rm0 Z p1 p2 p3 p4 p5 p6 h0 n0) (T69.setTop (mkF m 30 #[.val (.int p1), .val (.int p2), .val (.int p3), .val (.int p4), .val (.int p5), .val (.int p6), .val (.int (4 : Int32)), .val (.ref b67), .unset, .unset] []))
    refine Run.go (fun _ k => XS.aload X69.here hx rfl (hb hby at_30) rfl rfl k) ?_
    show Run p e below s 2 6 (Q_rm0 Z p1 p2 p3 p4 p5 p6 h0 n0) (T69.setTop (mkF m 32 #[.val (.int p1), .val (.int p2), .val (.int p3), .val (.int p4), .val (.int p5), .val (.int p6), .val (.int (4 : Int32)), .val (.ref b67), .unset, .unset] [(.ref b67)]))
    refine Run.go (fun _ k => XS.iconst X69.here hx rfl (hb hby at_32) k) ?_
    show Run p e below s 2 6 (Q_rm0 Z p1 p2 p3 p4 p5 p6 h0 n0) (T69.setTop (mkF m 33 #[.val (.int p1), .val (.int p2), .val (.int p3), .val (.int p4), .val (.int p5), .val (.int p6), .val (.int (4 : Int32)), .val (.ref b67), .unset, .unset] [(.int (1 : Int32)), (.ref b67)]))
    refine Run.go (fun _ k => XS.iloadN X69.here hx rfl (hb hby at_33) rfl  k) ?_
    show Run p e below s 2 6 (Q_rm0 Z p1 p2 p3 p4 p5 p6 h0 n0) (T69.setTop (mkF m 34 #[.val (.int p1), .val (.int p2), .val (.int p3), .val (.int p4), .val (.int p5), .val (.int p6), .val (.int (4 : Int32)), .val (.ref b67), .unset, .unset] [(.int p4), (.int (1 : Int32)), (.ref b67)]))
    obtain ⟨T71, h71, X71, e71, W71, st71⟩ := ary_iset X69 hx hZ e69 fx70 (by decide) (by decide) (g := (mkF m 34 #[.val (.int p1), .val (.int p2), .val (.int p3), .val (.int p4), .val (.int p5), .val (.int p6), .val (.int (4 : Int32)), .val (.ref b67), .unset, .unset] [(.int p4), (.int (1 : Int32)), (.ref b67)])) rfl rfl (hb hby at_34)
    have N71 := Fr.snoc X71 N69 g_b67
    have Z71 : n0 ≤ h71.size := Nat.le_trans Z69 (Keep.of_wr W71).1
    have fx72 : Ary Z h71 b67 .int 4 (fun i => if i = 1 then (.int p4) else (fun i => if i = 0 then (.int p3) else (fun _ => (.int (0 : Int32))) i) i) := fx70.same W71
    refine Run.go st71 ?_
    show Run p e below s 2 6 (Q_rm0 Z p1 p2 p3 p4 p5 p6 h0 n0) (T71.setTop (mkF m 35 #[.val (.int p1), .val (.int p2), .val (.int p3), .val (.int p4), .val (.int p5), .val (.int p6), .val (.int (4 : Int32)), .val (.ref b67), .unset, .unset] []))
    refine Run.go (fun _ k => XS.iload X71.here hx rfl (hb hby at_35) rfl  k) ?_
    show Run p e below s 2 6 (Q_rm0 Z p1 p2 p3 p4 p5 p6 h0 n0) (T71.setTop (mkF m 37 #[.val (.int p1), .val (.int p2), .val (.int p3), .val (.int p4), .val (.int p5), .val (.int p6), .val (.int (4 : Int32)), .val (.ref b67), .unset, .unset] [(.int (4 : Int32))]))
    refine Run.go (fun _ k => XS.iconst X71.here hx rfl (hb hby at_37) k) ?_
    show Run p e below s 2 6 (Q_rm0 Z p1 p2 p3 p4 p5 p6 h0 n0) (T71.setTop (mkF m 38 #[.val (.int p1), .val (.int p2), .val (.int p3), .val (.int p4), .val (.int p5), .val (.int p6), .val (.int (4 : Int32)), .val (.ref b67), .unset, .unset] [(.int (2 : Int32)), (.int (4 : Int32))]))
    refine Run.go (fun _ k => XS.icmpNo X71.here hx rfl (hb hby at_38) rfl (tlt (by decide)).2.2.2 k) ?_
    show Run p e below s 2 6 (Q_rm0 Z p1 p2 p3 p4 p5 p6 h0 n0) (T71.setTop (mkF m 41 #[.val (.int p1), .val (.int p2), .val (.int p3), .val (.int p4), .val (.int p5), .val (.int p6), .val (.int (4 : Int32)), .val (.ref b67), .unset, .unset] []))
    refine Run.go (fun _ k => XS.aload X71.here hx rfl (hb hby at_41) rfl rfl k) ?_
    show Run p e below s 2 6 (Q_rm0 Z p1 p2 p3 p4 p5 p6 h0 n0) (T71.setTop (mkF m 43 #[.val (.int p1), .val (.int p2), .val (.int p3), .val (.int p4), .val (.int p5), .val (.int p6), .val (.int (4 : Int32)), .val (.ref b67), .unset, .unset] [(.ref b67)]))
    refine Run.go (fun _ k => XS.iconst X71.here hx rfl (hb hby at_43) k) ?_
    show Run p e below s 2 6 (Q_rm0 Z p1 p2 p3 p4 p5 p6 h0 n0) (T71.setTop (mkF m 44 #[.val (.int p1), .val (.int p2), .val (.int p3), .val (.int p4), .val (.int p5), .val (.int p6), .val (.int (4 : Int32)), .val (.ref b67), .unset, .unset] [(.int (2 : Int32)), (.ref b67)]))
    refine Run.go (fun _ k => XS.iload X71.here hx rfl (hb hby at_44) rfl  k) ?_
    show Run p e below s 2 6 (Q_rm0 Z p1 p2 p3 p4 p5 p6 h0 n0) (T71.setTop (mkF m 46 #[.val (.int p1), .val (.int p2), .val (.int p3), .val (.int p4), .val (.int p5), .val (.int p6), .val (.int (4 : Int32)), .val (.ref b67), .unset, .unset] [(.int p5), (.int (2 : Int32)), (.ref b67)]))
    obtain ⟨T73, h73, X73, e73, W73, st73⟩ := ary_iset X71 hx hZ e71 fx72 (by decide) (by decide) (g := (mkF m 46 #[.val (.int p1), .val (.int p2), .val (.int p3), .val (.int p4), .val (.int p5), .val (.int p6), .val (.int (4 : Int32)), .val (.ref b67), .unset, .unset] [(.int p5), (.int (2 : Int32)), (.ref b67)])) rfl rfl (hb hby at_46)
    have N73 := Fr.snoc X73 N71 g_b67
    have Z73 : n0 ≤ h73.size := Nat.le_trans Z71 (Keep.of_wr W73).1
    have fx74 : Ary Z h73 b67 .int 4 (fun i => if i = 2 then (.int p5) else (fun i => if i = 1 then (.int p4) else (fun i => if i = 0 then (.int p3) else (fun _ => (.int (0 : Int32))) i) i) i) := fx72.same W73
    refine Run.go st73 ?_
    show Run p e below s 2 6 (Q_rm0 Z p1 p2 p3 p4 p5 p6 h0 n0) (T73.setTop (mkF m 47 #[.val (.int p1), .val (.int p2), .val (.int p3), .val (.int p4), .val (.int p5), .val (.int p6), .val (.int (4 : Int32)), .val (.ref b67), .unset, .unset] []))
    refine Run.go (fun _ k => XS.iload X73.here hx rfl (hb hby at_47) rfl  k) ?_
    show Run p e below s 2 6 (Q_rm0 Z p1 p2 p3 p4 p5 p6 h0 n0) (T73.setTop (mkF m 49 #[.val (.int p1), .val (.int p2), .val (.int p3), .val (.int p4), .val (.int p5), .val (.int p6), .val (.int (4 : Int32)), .val (.ref b67), .unset, .unset] [(.int (4 : Int32))]))
    refine Run.go (fun _ k => XS.iconst X73.here hx rfl (hb hby at_49) k) ?_
    show Run p e below s 2 6 (Q_rm0 Z p1 p2 p3 p4 p5 p6 h0 n0) (T73.setTop (mkF m 50 #[.val (.int p1), .val (.int p2), .val (.int p3), .val (.int p4), .val (.int p5), .val (.int p6), .val (.int (4 : Int32)), .val (.ref b67), .unset, .unset] [(.int (3 : Int32)), (.int (4 : Int32))]))
    refine Run.go (fun _ k => XS.icmpNo X73.here hx rfl (hb hby at_50) rfl (tlt (by decide)).2.2.2 k) ?_
    show Run p e below s 2 6 (Q_rm0 Z p1 p2 p3 p4 p5 p6 h0 n0) (T73.setTop (mkF m 53 #[.val (.int p1), .val (.int p2), .val (.int p3), .val (.int p4), .val (.int p5), .val (.int p6), .val (.int (4 : Int32)), .val (.ref b67), .unset, .unset] []))
    refine Run.go (fun _ k => XS.aload X73.here hx rfl (hb hby at_53) rfl rfl k) ?_
    show Run p e below s 2 6 (Q_rm0 Z p1 p2 p3 p4 p5 p6 h0 n0) (T73.setTop (mkF m 55 #[.val (.int p1), .val (.int p2), .val (.int p3), .val (.int p4), .val (.int p5), .val (.int p6), .val (.int (4 : Int32)), .val (.ref b67), .unset, .unset] [(.ref b67)]))
    refine Run.go (fun _ k => XS.iconst X73.here hx rfl (hb hby at_55) k) ?_
    show Run p e below s 2 6 (Q_rm0 Z p1 p2 p3 p4 p5 p6 h0 n0) (T73.setTop (mkF m 56 #[.val (.int p1), .val (.int p2), .val (.int p3), .val (.int p4), .val (.int p5), .val (.int p6), .val (.int (4 : Int32)), .val (.ref b67), .unset, .unset] [(.int (3 : Int32)), (.ref b67)]))
    refine Run.go (fun _ k => XS.iload X73.here hx rfl (hb hby at_56) rfl  k) ?_
    show Run p e below s 2 6 (Q_rm0 Z p1 p2 p3 p4 p5 p6 h0 n0) (T73.setTop (mkF m 58 #[.val (.int p1), .val (.int p2), .val (.int p3), .val (.int p4), .val (.int p5), .val (.int p6), .val (.int (4 : Int32)), .val (.ref b67), .unset, .unset] [(.int p6), (.int (3 : Int32)), (.ref b67)]))
    obtain ⟨T75, h75, X75, e75, W75, st75⟩ := ary_iset X73 hx hZ e73 fx74 (by decide) (by decide) (g := (mkF m 58 #[.val (.int p1), .val (.int p2), .val (.int p3), .val (.int p4), .val (.int p5), .val (.int p6), .val (.int (4 : Int32)), .val (.ref b67), .unset, .unset] [(.int p6), (.int (3 : Int32)), (.ref b67)])) rfl rfl (hb hby at_58)
    have N75 := Fr.snoc X75 N73 g_b67
    have Z75 : n0 ≤ h75.size := Nat.le_trans Z73 (Keep.of_wr W75).1
    have fx76 : Ary Z h75 b67 .int 4 (fun i => if i = 3 then (.int p6) else (fun i => if i = 2 then (.int p5) else (fun i => if i = 1 then (.int p4) else (fun i => if i = 0 then (.int p3) else (fun _ => (.int (0 : Int32))) i) i) i) i) := fx74.same W75
    refine Run.go st75 ?_
    show Run p e below s 2 6 (Q_rm0 Z p1 p2 p3 p4 p5 p6 h0 n0) (T75.setTop (mkF m 59 #[.val (.int p1), .val (.int p2), .val (.int p3), .val (.int p4), .val (.int p5), .val (.int p6), .val (.int (4 : Int32)), .val (.ref b67), .unset, .unset] []))
    refine Run.go (fun _ k => XS.iload X75.here hx rfl (hb hby at_59) rfl  k) ?_
    show Run p e below s 2 6 (Q_rm0 Z p1 p2 p3 p4 p5 p6 h0 n0) (T75.setTop (mkF m 61 #[.val (.int p1), .val (.int p2), .val (.int p3), .val (.int p4), .val (.int p5), .val (.int p6), .val (.int (4 : Int32)), .val (.ref b67), .unset, .unset] [(.int (4 : Int32))]))
    refine Run.go (fun _ k => XS.iconst X75.here hx rfl (hb hby at_61) k) ?_
    show Run p e below s 2 6 (Q_rm0 Z p1 p2 p3 p4 p5 p6 h0 n0) (T75.setTop (mkF m 62 #[.val (.int p1), .val (.int p2), .val (.int p3), .val (.int p4), .val (.int p5), .val (.int p6), .val (.int (4 : Int32)), .val (.ref b67), .unset, .unset] [(.int (1 : Int32)), (.int (4 : Int32))]))
    refine Run.go (fun _ k => XS.icmpNo X75.here hx rfl (hb hby at_62) rfl (flt (by decide)).1 k) ?_
    show Run p e below s 2 6 (Q_rm0 Z p1 p2 p3 p4 p5 p6 h0 n0) (T75.setTop (mkF m 65 #[.val (.int p1), .val (.int p2), .val (.int p3), .val (.int p4), .val (.int p5), .val (.int p6), .val (.int (4 : Int32)), .val (.ref b67), .unset, .unset] []))
    refine Run.go (fun _ k => XS.iloadN X75.here hx rfl (hb hby at_65) rfl  k) ?_
    show Run p e below s 2 6 (Q_rm0 Z p1 p2 p3 p4 p5 p6 h0 n0) (T75.setTop (mkF m 66 #[.val (.int p1), .val (.int p2), .val (.int p3), .val (.int p4), .val (.int p5), .val (.int p6), .val (.int (4 : Int32)), .val (.ref b67), .unset, .unset] [(.int p3)]))
    have J77 : ∀ (w78 : Int32) (hw78 : w78 = (if ((¬ (p3 < (0 : Int32))) ∧ ((¬ (p4 < (0 : Int32))) ∧ ((¬ (p5 < (0 : Int32))) ∧ (¬ (p6 < (0 : Int32)))))) then (1 : Int32) else 0)) (T79 : State) (L79 : List Loc) (X79 : Stand p l e room_1 s m #[(.int p1), (.int p2), (.int p3), (.int p4), (.int p5), (.int p6)] below meth c T79 L79 1 4) (e79 : T79.heap = h75) (N79 : Fr n0 L79), Run p e below s 2 6 (Q_rm0 Z p1 p2 p3 p4 p5 p6 h0 n0) (T79.setTop (mkF m 106 #[.val (.int p1), .val (.int p2), .val (.int p3), .val (.int p4), .val (.int p5), .val (.int p6), .val (.int (4 : Int32)), .val (.ref b67), .unset, .unset] [(.int w78)])) := by
      intro w78 hw78 T79 L79 X79 e79 N79
      show Run p e below s 2 6 (Q_rm0 Z p1 p2 p3 p4 p5 p6 h0 n0) (T79.setTop (mkF m 106 #[.val (.int p1), .val (.int p2), .val (.int p3), .val (.int p4), .val (.int p5), .val (.int p6), .val (.int (4 : Int32)), .val (.ref b67), .unset, .unset] [(.int w78)]))
      refine Run.go (fun _ k => XS.istore X79.here hx rfl (hb hby at_106) rfl (l' := #[.val (.int p1), .val (.int p2), .val (.int p3), .val (.int p4), .val (.int p5), .val (.int p6), .val (.int (4 : Int32)), .val (.ref b67), .val (.int w78), .unset]) rfl k) ?_
      show Run p e below s 2 6 (Q_rm0 Z p1 p2 p3 p4 p5 p6 h0 n0) (T79.setTop (mkF m 108 #[.val (.int p1), .val (.int p2), .val (.int p3), .val (.int p4), .val (.int p5), .val (.int p6), .val (.int (4 : Int32)), .val (.ref b67), .val (.int w78), .unset] []))
      obtain ⟨T80, h80, X80, e80, E80, A80, D80, -, st80⟩ := newO X79 hx hZ hown (hw _ (List.mem_of_getElem? (i := 1) rfl)) (hw _ (List.mem_of_getElem? (i := 2) rfl)) (hw _ (List.mem_of_getElem? (i := 3) rfl)) e79 (g := (mkF m 108 #[.val (.int p1), .val (.int p2), .val (.int p3), .val (.int p4), .val (.int p5), .val (.int p6), .val (.int (4 : Int32)), .val (.ref b67), .val (.int w78), .unset] [])) rfl (hb hby at_108) (by decide) (by decide)
      obtain ⟨b80, g80⟩ : ∃ z, z = h75.size := ⟨_, rfl⟩
      rw [← g80] at A80 D80 st80
      have g_b80 : n0 ≤ b80 := Nat.le_trans Z75 (Nat.le_of_eq g80.symm)
      have Z80 : n0 ≤ h80.size := Nat.le_trans Z75 E80.1
      have ne_b67_b80 : b67 ≠ b80 := Nat.ne_of_lt (Nat.lt_of_lt_of_le fx76.lt (Nat.le_of_eq g80.symm))
      have fx81 : Fld Z h80 b80 "com/example/nestor/nestor/reasoning/Pattern" "predicate" "I" (.int (0 : Int32)) := D80 (Or.inr (hw _ (List.mem_of_getElem? (i := 11) rfl))) (ty := .int) (by decide)
      have fx82 : Fld Z h80 b80 "com/example/nestor/nestor/reasoning/Pattern" "terms" "[I" .null := D80 (Or.inr (hw _ (List.mem_of_getElem? (i := 13) rfl))) (ty := (.array .int)) (by decide)
      refine Run.go st80 ?_
      show Run p e below s 2 6 (Q_rm0 Z p1 p2 p3 p4 p5 p6 h0 n0) (T80.setTop (mkF m 111 #[.val (.int p1), .val (.int p2), .val (.int p3), .val (.int p4), .val (.int p5), .val (.int p6), .val (.int (4 : Int32)), .val (.ref b67), .val (.int w78), .unset] [(.ref b80)]))
      refine Run.go (fun _ k => XS.dup X80.here hx rfl (hb hby at_111) rfl rfl k) ?_
      show Run p e below s 2 6 (Q_rm0 Z p1 p2 p3 p4 p5 p6 h0 n0) (T80.setTop (mkF m 112 #[.val (.int p1), .val (.int p2), .val (.int p3), .val (.int p4), .val (.int p5), .val (.int p6), .val (.int (4 : Int32)), .val (.ref b67), .val (.int w78), .unset] [(.ref b80), (.ref b80)]))
      refine Run.go (fun _ k => XS.iloadN X80.here hx rfl (hb hby at_112) rfl  k) ?_
      show Run p e below s 2 6 (Q_rm0 Z p1 p2 p3 p4 p5 p6 h0 n0) (T80.setTop (mkF m 113 #[.val (.int p1), .val (.int p2), .val (.int p3), .val (.int p4), .val (.int p5), .val (.int p6), .val (.int (4 : Int32)), .val (.ref b67), .val (.int w78), .unset] [(.int p1), (.ref b80), (.ref b80)]))
      refine Run.go (fun _ k => XS.aload X80.here hx rfl (hb hby at_113) rfl rfl k) ?_
      show Run p e below s 2 6 (Q_rm0 Z p1 p2 p3 p4 p5 p6 h0 n0) (T80.setTop (mkF m 115 #[.val (.int p1), .val (.int p2), .val (.int p3), .val (.int p4), .val (.int p5), .val (.int p6), .val (.int (4 : Int32)), .val (.ref b67), .val (.int w78), .unset] [(.ref b67), (.int p1), (.ref b80), (.ref b80)]))
      obtain ⟨_, _, ⟨T83, L83, k83, n83⟩, -, X83, ⟨Lc83, hQ83, l83, y83, z83⟩, st83⟩ := X80.specialBack hx (y := (⟨"com/example/nestor/nestor/reasoning/Pattern", "<init>", "(I[I)V"⟩ : MethodName)) rfl hown (mvT hZ (hw _ (List.mem_of_getElem? (i := 4) rfl))) (mvT hZ (hw _ (List.mem_of_getElem? (i := 5) rfl))) (mvT hZ (hw _ (List.mem_of_getElem? (i := 6) rfl))) (by decide) (backOf (W := 1) (rm1 l Z a0 hw [] b80 p1 b67 (.int (0 : Int32)) .null h80 n0 Z80 A80 fx81 g_b80 fx82) hZ (hw _ (List.mem_of_getElem? (i := 6) rfl)) (hw _ (List.mem_of_getElem? (i := 3) rfl)) (by decide) (by decide)) (g := (mkF m 115 #[.val (.int p1), .val (.int p2), .val (.int p3), .val (.int p4), .val (.int p5), .val (.int p6), .val (.int (4 : Int32)), .val (.ref b67), .val (.int w78), .unset] [(.ref b67), (.int p1), (.ref b80), (.ref b80)])) rfl (by rw [hml]; rfl) (Steps.refl _) (a := b80) (argsL := [(.int p1), (.ref b67)]) (rest := [(.ref b80)]) (lenOf pd_0 rfl) rfl (by show 2 * 0 + _ ≤ _; exact Nat.le_of_eq rfl) (hb hby at_115) (fun _ _ => ⟨rfl, e80, (by decide : 2 + 0 ≤ _), (by decide : 6 + 0 ≤ _)⟩)
      dsimp only [Pt.U, Pt.locs, Pt.cells, Pt.slots] at X83 l83 y83 z83 st83 hQ83
      subst l83 y83 z83
      obtain ⟨rfl, N83q, K83q, fq83_0, fq83_1, fq83_2⟩ := hQ83
      have N83 := Fr.app N79 N83q
      have Z83 : n0 ≤ T83.heap.size := Nat.le_trans Z80 K83q.1
      refine Run.tr st83 ?_
      show Run p e below s 2 6 (Q_rm0 Z p1 p2 p3 p4 p5 p6 h0 n0) (T83.setTop (mkF m 118 #[.val (.int p1), .val (.int p2), .val (.int p3), .val (.int p4), .val (.int p5), .val (.int p6), .val (.int (4 : Int32)), .val (.ref b67), .val (.int w78), .unset] [(.ref b80)]))
      refine Run.go (fun _ k => XS.astore X83.here hx rfl (hb hby at_118) rfl rfl (l' := #[.val (.int p1), .val (.int p2), .val (.int p3), .val (.int p4), .val (.int p5), .val (.int p6), .val (.int (4 : Int32)), .val (.ref b67), .val (.int w78), .val (.ref b80)]) rfl k) ?_
      show Run p e below s 2 6 (Q_rm0 Z p1 p2 p3 p4 p5 p6 h0 n0) (T83.setTop (mkF m 120 #[.val (.int p1), .val (.int p2), .val (.int p3), .val (.int p4), .val (.int p5), .val (.int p6), .val (.int (4 : Int32)), .val (.ref b67), .val (.int w78), .val (.ref b80)] []))
      refine Run.go (fun _ k => XS.aload X83.here hx rfl (hb hby at_120) rfl rfl k) ?_
      show Run p e below s 2 6 (Q_rm0 Z p1 p2 p3 p4 p5 p6 h0 n0) (T83.setTop (mkF m 122 #[.val (.int p1), .val (.int p2), .val (.int p3), .val (.int p4), .val (.int p5), .val (.int p6), .val (.int (4 : Int32)), .val (.ref b67), .val (.int w78), .val (.ref b80)] [(.ref b80)]))
      have fx85 := ((fx76.ext E80).keep K83q (ninS ne_b67_b80 nin0))
      obtain ⟨cq84, kq84, q84a, q84b, q84c⟩ := isOf hZ rfl fq83_0
      obtain ⟨_, _, ⟨T84, L84, k84, n84⟩, -, X84, ⟨Lc84, hQ84, l84, y84, z84⟩, st84⟩ := X83.virtualBack hx (y := (⟨"com/example/nestor/nestor/reasoning/Pattern", "isGround", "()Z"⟩ : MethodName)) (z := (⟨"com/example/nestor/nestor/reasoning/Pattern", "isGround", "()Z"⟩ : MethodName)) hown (mvT hZ (hw _ (List.mem_of_getElem? (i := 14) rfl))) (mvT hZ (hw _ (List.mem_of_getElem? (i := 15) rfl))) (notFace_of_selects (args := #[]) (mvT hZ (hw _ (List.mem_of_getElem? (i := 17) rfl)))) (mvT hZ (hw _ (List.mem_of_getElem? (i := 17) rfl))) (mvT hZ (hw _ (List.mem_of_getElem? (i := 16) rfl))) (by decide) (backOf (W := 0) (rm3_4 l Z a0 hw [] b80 b67 (fun i => if i = 3 then (.int p6) else (fun i => if i = 2 then (.int p5) else (fun i => if i = 1 then (.int p4) else (fun i => if i = 0 then (.int p3) else (fun _ => (.int (0 : Int32))) i) i) i) i) p3 p4 p5 p6 T83.heap n0 Z83 fq83_2 fx85 rfl rfl rfl rfl) hZ (hw _ (List.mem_of_getElem? (i := 18) rfl)) (hw _ (List.mem_of_getElem? (i := 3) rfl)) (by decide) (by decide)) q84a q84c (g := (mkF m 122 #[.val (.int p1), .val (.int p2), .val (.int p3), .val (.int p4), .val (.int p5), .val (.int p6), .val (.int (4 : Int32)), .val (.ref b67), .val (.int w78), .val (.ref b80)] [(.ref b80)])) rfl (by rw [hml]; rfl) (Steps.refl _) (argsL := []) (rest := []) (lenOf pd_1 rfl) rfl (by show 2 * 0 + _ ≤ _; exact Nat.le_of_eq rfl) (hb hby at_122) (fun _ _ => ⟨rfl, rfl, (by decide : 2 + 0 ≤ _), (by decide : 6 + 0 ≤ _)⟩)
      dsimp only [Pt.U, Pt.locs, Pt.cells, Pt.slots] at X84 l84 y84 z84 st84 hQ84
      subst l84 y84 z84
      obtain ⟨rfl, N84q, e84q⟩ := hQ84
      have N84 := Fr.app N83 N84q
      refine Run.tr st84 ?_
      show Run p e below s 2 6 (Q_rm0 Z p1 p2 p3 p4 p5 p6 h0 n0) (T84.setTop (mkF m 125 #[.val (.int p1), .val (.int p2), .val (.int p3), .val (.int p4), .val (.int p5), .val (.int p6), .val (.int (4 : Int32)), .val (.ref b67), .val (.int w78), .val (.ref b80)] [(.int (F_rm3_4 p3 p4 p5 p6))]))
      refine Run.go (fun _ k => XS.iload X84.here hx rfl (hb hby at_125) rfl  k) ?_
      show Run p e below s 2 6 (Q_rm0 Z p1 p2 p3 p4 p5 p6 h0 n0) (T84.setTop (mkF m 127 #[.val (.int p1), .val (.int p2), .val (.int p3), .val (.int p4), .val (.int p5), .val (.int p6), .val (.int (4 : Int32)), .val (.ref b67), .val (.int w78), .val (.ref b80)] [(.int w78), (.int (F_rm3_4 p3 p4 p5 p6))]))
      refine Run.go (fun _ k => XS.icmpNo X84.here hx rfl (hb hby at_127) rfl (teq (by rw [hw78]; unfold F_rm3_4; (repeat' split) <;> simp_all)).2 k) ?_
      show Run p e below s 2 6 (Q_rm0 Z p1 p2 p3 p4 p5 p6 h0 n0) (T84.setTop (mkF m 130 #[.val (.int p1), .val (.int p2), .val (.int p3), .val (.int p4), .val (.int p5), .val (.int p6), .val (.int (4 : Int32)), .val (.ref b67), .val (.int w78), .val (.ref b80)] []))
      refine Run.go (fun _ k => XS.iconst X84.here hx rfl (hb hby at_130) k) ?_
      show Run p e below s 2 6 (Q_rm0 Z p1 p2 p3 p4 p5 p6 h0 n0) (T84.setTop (mkF m 131 #[.val (.int p1), .val (.int p2), .val (.int p3), .val (.int p4), .val (.int p5), .val (.int p6), .val (.int (4 : Int32)), .val (.ref b67), .val (.int w78), .val (.ref b80)] [(.int (1 : Int32))]))
      refine Run.go (fun _ k => XS.goto X84.here hx rfl (pc0 := 131) (pc' := 135) rfl (hb hby at_131) (by decide) (by decide) k) ?_
      show Run p e below s 2 6 (Q_rm0 Z p1 p2 p3 p4 p5 p6 h0 n0) (T84.setTop (mkF m 135 #[.val (.int p1), .val (.int p2), .val (.int p3), .val (.int p4), .val (.int p5), .val (.int p6), .val (.int (4 : Int32)), .val (.ref b67), .val (.int w78), .val (.ref b80)] [(.int (1 : Int32))]))
      exact Run.retN (y := 1) X84 hx (t := .boolean) Bd.returns (by simp) rfl Bd.notSynchronized (hb hby at_135) (by decide) (by decide) ⟨rfl, N84⟩
    by_cases hc86 : (p3 < (0 : Int32))
    · refine Run.go (fun _ k => XS.ifYes X75.here hx rfl (pc0 := 66) (pc' := 105) rfl (hb hby at_66) rfl ((if0 _ _).trans (tlt hc86).1) (by decide) (by decide) k) ?_
      show Run p e below s 2 6 (Q_rm0 Z p1 p2 p3 p4 p5 p6 h0 n0) (T75.setTop (mkF m 105 #[.val (.int p1), .val (.int p2), .val (.int p3), .val (.int p4), .val (.int p5), .val (.int p6), .val (.int (4 : Int32)), .val (.ref b67), .unset, .unset] []))
      refine Run.go (fun _ k => XS.iconst X75.here hx rfl (hb hby at_105) k) ?_
      show Run p e below s 2 6 (Q_rm0 Z p1 p2 p3 p4 p5 p6 h0 n0) (T75.setTop (mkF m 106 #[.val (.int p1), .val (.int p2), .val (.int p3), .val (.int p4), .val (.int p5), .val (.int p6), .val (.int (4 : Int32)), .val (.ref b67), .unset, .unset] [(.int (0 : Int32))]))
      exact J77 _ (if_neg (fun q => (fun q => q hc86) q.1)).symm _ _ X75 e75 N75
    · refine Run.go (fun _ k => XS.ifNo X75.here hx rfl (hb hby at_66) rfl ((if0 _ _).trans (flt hc86).1) k) ?_
      show Run p e below s 2 6 (Q_rm0 Z p1 p2 p3 p4 p5 p6 h0 n0) (T75.setTop (mkF m 69 #[.val (.int p1), .val (.int p2), .val (.int p3), .val (.int p4), .val (.int p5), .val (.int p6), .val (.int (4 : Int32)), .val (.ref b67), .unset, .unset] []))
      refine Run.go (fun _ k => XS.iload X75.here hx rfl (hb hby at_69) rfl  k) ?_
      show Run p e below s 2 6 (Q_rm0 Z p1 p2 p3 p4 p5 p6 h0 n0) (T75.setTop (mkF m 71 #[.val (.int p1), .val (.int p2), .val (.int p3), .val (.int p4), .val (.int p5), .val (.int p6), .val (.int (4 : Int32)), .val (.ref b67), .unset, .unset] [(.int (4 : Int32))]))
      refine Run.go (fun _ k => XS.iconst X75.here hx rfl (hb hby at_71) k) ?_
      show Run p e below s 2 6 (Q_rm0 Z p1 p2 p3 p4 p5 p6 h0 n0) (T75.setTop (mkF m 72 #[.val (.int p1), .val (.int p2), .val (.int p3), .val (.int p4), .val (.int p5), .val (.int p6), .val (.int (4 : Int32)), .val (.ref b67), .unset, .unset] [(.int (2 : Int32)), (.int (4 : Int32))]))
      refine Run.go (fun _ k => XS.icmpNo X75.here hx rfl (hb hby at_72) rfl (flt (by decide)).1 k) ?_
      show Run p e below s 2 6 (Q_rm0 Z p1 p2 p3 p4 p5 p6 h0 n0) (T75.setTop (mkF m 75 #[.val (.int p1), .val (.int p2), .val (.int p3), .val (.int p4), .val (.int p5), .val (.int p6), .val (.int (4 : Int32)), .val (.ref b67), .unset, .unset] []))
      refine Run.go (fun _ k => XS.iloadN X75.here hx rfl (hb hby at_75) rfl  k) ?_
      show Run p e below s 2 6 (Q_rm0 Z p1 p2 p3 p4 p5 p6 h0 n0) (T75.setTop (mkF m 76 #[.val (.int p1), .val (.int p2), .val (.int p3), .val (.int p4), .val (.int p5), .val (.int p6), .val (.int (4 : Int32)), .val (.ref b67), .unset, .unset] [(.int p4)]))
      by_cases hc87 : (p4 < (0 : Int32))
      · refine Run.go (fun _ k => XS.ifYes X75.here hx rfl (pc0 := 76) (pc' := 105) rfl (hb hby at_76) rfl ((if0 _ _).trans (tlt hc87).1) (by decide) (by decide) k) ?_
        show Run p e below s 2 6 (Q_rm0 Z p1 p2 p3 p4 p5 p6 h0 n0) (T75.setTop (mkF m 105 #[.val (.int p1), .val (.int p2), .val (.int p3), .val (.int p4), .val (.int p5), .val (.int p6), .val (.int (4 : Int32)), .val (.ref b67), .unset, .unset] []))
        refine Run.go (fun _ k => XS.iconst X75.here hx rfl (hb hby at_105) k) ?_
        show Run p e below s 2 6 (Q_rm0 Z p1 p2 p3 p4 p5 p6 h0 n0) (T75.setTop (mkF m 106 #[.val (.int p1), .val (.int p2), .val (.int p3), .val (.int p4), .val (.int p5), .val (.int p6), .val (.int (4 : Int32)), .val (.ref b67), .unset, .unset] [(.int (0 : Int32))]))
        exact J77 _ (if_neg (fun q => (fun q => (fun q => q hc87) q.1) q.2)).symm _ _ X75 e75 N75
      · refine Run.go (fun _ k => XS.ifNo X75.here hx rfl (hb hby at_76) rfl ((if0 _ _).trans (flt hc87).1) k) ?_
        show Run p e below s 2 6 (Q_rm0 Z p1 p2 p3 p4 p5 p6 h0 n0) (T75.setTop (mkF m 79 #[.val (.int p1), .val (.int p2), .val (.int p3), .val (.int p4), .val (.int p5), .val (.int p6), .val (.int (4 : Int32)), .val (.ref b67), .unset, .unset] []))
        refine Run.go (fun _ k => XS.iload X75.here hx rfl (hb hby at_79) rfl  k) ?_
        show Run p e below s 2 6 (Q_rm0 Z p1 p2 p3 p4 p5 p6 h0 n0) (T75.setTop (mkF m 81 #[.val (.int p1), .val (.int p2), .val (.int p3), .val (.int p4), .val (.int p5), .val (.int p6), .val (.int (4 : Int32)), .val (.ref b67), .unset, .unset] [(.int (4 : Int32))]))
        refine Run.go (fun _ k => XS.iconst X75.here hx rfl (hb hby at_81) k) ?_
        show Run p e below s 2 6 (Q_rm0 Z p1 p2 p3 p4 p5 p6 h0 n0) (T75.setTop (mkF m 82 #[.val (.int p1), .val (.int p2), .val (.int p3), .val (.int p4), .val (.int p5), .val (.int p6), .val (.int (4 : Int32)), .val (.ref b67), .unset, .unset] [(.int (3 : Int32)), (.int (4 : Int32))]))
        refine Run.go (fun _ k => XS.icmpNo X75.here hx rfl (hb hby at_82) rfl (flt (by decide)).1 k) ?_
        show Run p e below s 2 6 (Q_rm0 Z p1 p2 p3 p4 p5 p6 h0 n0) (T75.setTop (mkF m 85 #[.val (.int p1), .val (.int p2), .val (.int p3), .val (.int p4), .val (.int p5), .val (.int p6), .val (.int (4 : Int32)), .val (.ref b67), .unset, .unset] []))
        refine Run.go (fun _ k => XS.iload X75.here hx rfl (hb hby at_85) rfl  k) ?_
        show Run p e below s 2 6 (Q_rm0 Z p1 p2 p3 p4 p5 p6 h0 n0) (T75.setTop (mkF m 87 #[.val (.int p1), .val (.int p2), .val (.int p3), .val (.int p4), .val (.int p5), .val (.int p6), .val (.int (4 : Int32)), .val (.ref b67), .unset, .unset] [(.int p5)]))
        by_cases hc88 : (p5 < (0 : Int32))
        · refine Run.go (fun _ k => XS.ifYes X75.here hx rfl (pc0 := 87) (pc' := 105) rfl (hb hby at_87) rfl ((if0 _ _).trans (tlt hc88).1) (by decide) (by decide) k) ?_
          show Run p e below s 2 6 (Q_rm0 Z p1 p2 p3 p4 p5 p6 h0 n0) (T75.setTop (mkF m 105 #[.val (.int p1), .val (.int p2), .val (.int p3), .val (.int p4), .val (.int p5), .val (.int p6), .val (.int (4 : Int32)), .val (.ref b67), .unset, .unset] []))
          refine Run.go (fun _ k => XS.iconst X75.here hx rfl (hb hby at_105) k) ?_
          show Run p e below s 2 6 (Q_rm0 Z p1 p2 p3 p4 p5 p6 h0 n0) (T75.setTop (mkF m 106 #[.val (.int p1), .val (.int p2), .val (.int p3), .val (.int p4), .val (.int p5), .val (.int p6), .val (.int (4 : Int32)), .val (.ref b67), .unset, .unset] [(.int (0 : Int32))]))
          exact J77 _ (if_neg (fun q => (fun q => (fun q => (fun q => q hc88) q.1) q.2) q.2)).symm _ _ X75 e75 N75
        · refine Run.go (fun _ k => XS.ifNo X75.here hx rfl (hb hby at_87) rfl ((if0 _ _).trans (flt hc88).1) k) ?_
          show Run p e below s 2 6 (Q_rm0 Z p1 p2 p3 p4 p5 p6 h0 n0) (T75.setTop (mkF m 90 #[.val (.int p1), .val (.int p2), .val (.int p3), .val (.int p4), .val (.int p5), .val (.int p6), .val (.int (4 : Int32)), .val (.ref b67), .unset, .unset] []))
          refine Run.go (fun _ k => XS.iload X75.here hx rfl (hb hby at_90) rfl  k) ?_
          show Run p e below s 2 6 (Q_rm0 Z p1 p2 p3 p4 p5 p6 h0 n0) (T75.setTop (mkF m 92 #[.val (.int p1), .val (.int p2), .val (.int p3), .val (.int p4), .val (.int p5), .val (.int p6), .val (.int (4 : Int32)), .val (.ref b67), .unset, .unset] [(.int (4 : Int32))]))
          refine Run.go (fun _ k => XS.iconst X75.here hx rfl (hb hby at_92) k) ?_
          show Run p e below s 2 6 (Q_rm0 Z p1 p2 p3 p4 p5 p6 h0 n0) (T75.setTop (mkF m 93 #[.val (.int p1), .val (.int p2), .val (.int p3), .val (.int p4), .val (.int p5), .val (.int p6), .val (.int (4 : Int32)), .val (.ref b67), .unset, .unset] [(.int (4 : Int32)), (.int (4 : Int32))]))
          refine Run.go (fun _ k => XS.icmpNo X75.here hx rfl (hb hby at_93) rfl (flt (by decide)).1 k) ?_
          show Run p e below s 2 6 (Q_rm0 Z p1 p2 p3 p4 p5 p6 h0 n0) (T75.setTop (mkF m 96 #[.val (.int p1), .val (.int p2), .val (.int p3), .val (.int p4), .val (.int p5), .val (.int p6), .val (.int (4 : Int32)), .val (.ref b67), .unset, .unset] []))
          refine Run.go (fun _ k => XS.iload X75.here hx rfl (hb hby at_96) rfl  k) ?_
          show Run p e below s 2 6 (Q_rm0 Z p1 p2 p3 p4 p5 p6 h0 n0) (T75.setTop (mkF m 98 #[.val (.int p1), .val (.int p2), .val (.int p3), .val (.int p4), .val (.int p5), .val (.int p6), .val (.int (4 : Int32)), .val (.ref b67), .unset, .unset] [(.int p6)]))
          by_cases hc89 : (p6 < (0 : Int32))
          · refine Run.go (fun _ k => XS.ifYes X75.here hx rfl (pc0 := 98) (pc' := 105) rfl (hb hby at_98) rfl ((if0 _ _).trans (tlt hc89).1) (by decide) (by decide) k) ?_
            show Run p e below s 2 6 (Q_rm0 Z p1 p2 p3 p4 p5 p6 h0 n0) (T75.setTop (mkF m 105 #[.val (.int p1), .val (.int p2), .val (.int p3), .val (.int p4), .val (.int p5), .val (.int p6), .val (.int (4 : Int32)), .val (.ref b67), .unset, .unset] []))
            refine Run.go (fun _ k => XS.iconst X75.here hx rfl (hb hby at_105) k) ?_
            show Run p e below s 2 6 (Q_rm0 Z p1 p2 p3 p4 p5 p6 h0 n0) (T75.setTop (mkF m 106 #[.val (.int p1), .val (.int p2), .val (.int p3), .val (.int p4), .val (.int p5), .val (.int p6), .val (.int (4 : Int32)), .val (.ref b67), .unset, .unset] [(.int (0 : Int32))]))
            exact J77 _ (if_neg (fun q => (fun q => (fun q => (fun q => q hc89) q.2) q.2) q.2)).symm _ _ X75 e75 N75
          · refine Run.go (fun _ k => XS.ifNo X75.here hx rfl (hb hby at_98) rfl ((if0 _ _).trans (flt hc89).1) k) ?_
            show Run p e below s 2 6 (Q_rm0 Z p1 p2 p3 p4 p5 p6 h0 n0) (T75.setTop (mkF m 101 #[.val (.int p1), .val (.int p2), .val (.int p3), .val (.int p4), .val (.int p5), .val (.int p6), .val (.int (4 : Int32)), .val (.ref b67), .unset, .unset] []))
            refine Run.go (fun _ k => XS.iconst X75.here hx rfl (hb hby at_101) k) ?_
            show Run p e below s 2 6 (Q_rm0 Z p1 p2 p3 p4 p5 p6 h0 n0) (T75.setTop (mkF m 102 #[.val (.int p1), .val (.int p2), .val (.int p3), .val (.int p4), .val (.int p5), .val (.int p6), .val (.int (4 : Int32)), .val (.ref b67), .unset, .unset] [(.int (1 : Int32))]))
            refine Run.go (fun _ k => XS.goto X75.here hx rfl (pc0 := 102) (pc' := 106) rfl (hb hby at_102) (by decide) (by decide) k) ?_
            show Run p e below s 2 6 (Q_rm0 Z p1 p2 p3 p4 p5 p6 h0 n0) (T75.setTop (mkF m 106 #[.val (.int p1), .val (.int p2), .val (.int p3), .val (.int p4), .val (.int p5), .val (.int p6), .val (.int (4 : Int32)), .val (.ref b67), .unset, .unset] [(.int (1 : Int32))]))
            exact J77 _ (if_pos ⟨hc86, ⟨hc87, ⟨hc88, hc89⟩⟩⟩).symm _ _ X75 e75 N75
set_option maxRecDepth 65536 in
set_option maxHeartbeats 40000000 in
theorem comes_1 {Post : Tables → Env → Array Value → State → Outcome → State → Prop} (hpost : ∀ tb e args s v u, (limb_1_1.after args s (.returned v) u = true ∧ limb_1_2.after args s (.returned v) u = true ∧ True) → FrameEnd s (.returned v) u (Jvm.fieldLocs frame_1_writes args s ++ Jvm.arrayLocs frame_1_arrays args s ++ Jvm.staticLocs frame_1_statics s) 16 128 → Post tb e args s (.returned v) u) :
    ArmFor flags0 classFile x code maxLocals ret World_1 tables_1 room_1 Calls_1 rest_1 Pre_1 Post := by
  intro l hfl _ _ p e ha hc hk s m args below hf hA hF happ hP
  obtain ⟨hcalls, hrest, hpre⟩ := hP
  obtain ⟨-, -, -, hnamed, -, -, -, hat⟩ := (Spec.applies_iff hf).mp happ
  obtain ⟨hg, hn⟩ := and_e (Cond.before_iff.mp (show (Jvm.Cond.and given_1 narrow_1).before args s = true from hpre))
  obtain ⟨g1, g2⟩ := and_e hg
  obtain ⟨g3, g4⟩ := and_e g2
  obtain ⟨g5, g6⟩ := and_e g4
  obtain ⟨g7, g8⟩ := and_e g6
  obtain ⟨g9, g10⟩ := and_e g8
  obtain ⟨g11, g12⟩ := and_e g10
  obtain ⟨w0, w1, w2, w3, w4, w5, rfl⟩ : ∃ w0 w1 w2 w3 w4 w5 : Value, args = #[w0, w1, w2, w3, w4, w5] := by
    have hs : args.size = 6 := by simpa [Cond.value, given_1] using g1
    obtain ⟨L⟩ := args
    match L, hs with
    | [w0, w1, w2, w3, w4, w5], _ => exact ⟨w0, w1, w2, w3, w4, w5, rfl⟩
  have hw := fun d (hd : d ∈ tables_1) => atoms_spec (ws := Jvm.Cond.code x code maxLocals ret :: tables_1) hat d (List.mem_cons_of_mem _ hd)
  have hfit : Fit s := fun {y c} hc i hi => by
    obtain ⟨ha, rfl⟩ := Array.getElem?_eq_some_iff.mp hc
    have q := List.all_eq_true.mp ((Array.all_eq_true_iff_forall_mem.mp hF) _ (Array.getElem_mem ha)) i (List.mem_range.mpr hi)
    simpa [Array.getElem?_eq_getElem hi] using q
  obtain ⟨i0, ei0⟩ := is_v g3
  obtain rfl : w0 = (.int i0) := Option.some.inj ei0
  obtain ⟨i1, ei1⟩ := is_v g5
  obtain rfl : w1 = (.int i1) := Option.some.inj ei1
  obtain ⟨i2, ei2⟩ := is_v g7
  obtain rfl : w2 = (.int i2) := Option.some.inj ei2
  obtain ⟨i3, ei3⟩ := is_v g9
  obtain rfl : w3 = (.int i3) := Option.some.inj ei3
  obtain ⟨i4, ei4⟩ := is_v g11
  obtain rfl : w4 = (.int i4) := Option.some.inj ei4
  obtain ⟨i5, ei5⟩ := is_v g12
  obtain rfl : w5 = (.int i5) := Option.some.inj ei5
  obtain ⟨n, o, h1, h2, h3, _, L, rfl, ⟨rfl, N⟩, hq⟩ := rm0 l s _ hw tables_1 i0 i1 i2 i3 i4 i5 s.heap s.heap.size (Nat.le_refl _)  p e ha hc hk s m _ below hf ((Spec.applies_iff_loose hf).mp happ).1 ⟨rfl, State.Warmed39.refl s, rfl⟩ trivial
  refine ⟨n, _, h1, h2, h3, hpost _ _ _ _ _ _ ⟨Cond.after_iff.mpr rfl, Cond.after_iff.mpr (eq_i res_at (Term.int_eval (1)) rfl), trivial⟩ ⟨hq.1, hq.2.1, (hq.2.2.sift fun y hy => Or.inr (N y hy)).mono (by decide) (by decide)⟩⟩
theorem main_1_1 : Claimed_1_1 := comes_1 fun _ _ _ _ _ _ h hF => ⟨h.1, hF⟩
theorem main_1_2 : Claimed_1_2 := comes_1 fun _ _ _ _ _ _ h hF => ⟨h.2.1, hF⟩
end Jvm.Pilot.@@N@@
namespace Jvm.Pilot.@@N@@
open Jvm Jvm.ClassFile Sem Op Lib Jvm.Free Jvm.Stand Jvm.Pilot.@@N@@.Jvm.D
/-! MADE BY PROGRAM (witnessworld.py) out of the Statement's table words and the real class files: 9 classes; the members and pool entries that the words name. The judged class is class 1, her method 1. -/
namespace start1
open Jvm.ClassFile
def u (s : String) : CpInfo := .utf8 (stringToUtf16 s)
/-- a pool by its gaps: so many unusable entries, then the entry; so many at the end -/
def gap : Nat → List CpInfo → List CpInfo
  | 0, r => r
  | n + 1, r => .unusable :: gap n r
def poolList (es : List (Nat × CpInfo)) (last : Nat) : List CpInfo := es.foldr (fun e r => gap e.1 (e.2 :: r)) (gap last [])
def pool (es : List (Nat × CpInfo)) (last : Nat) : Array CpInfo := ⟨poolList es last⟩
def fileOf (pool : Array CpInfo) (this : Nat) (attrs : Array Attribute := #[]) (ms : Array MethodInfo := #[]) (fl : Nat := 33) (sup : Nat := 0) (ifs : Array Nat := #[]) (fds : Array FieldInfo := #[]) : ClassFile where
  minorVersion := 0
  majorVersion := 65
  constantPool := pool
  accessFlags := fl
  thisClass := this
  superClass := sup
  interfaces := ifs
  fields := fds
  methods := ms
  attributes := attrs
def plain (name : String) (sup : Option ClassId) : Class where
  name := name
  kind := .ordinary
  loader := none
  accessFlags := 33
  super := sup
  interfaces := #[]
  cf := none
  fields := #[]
  methods := #[]
  instanceTypes := #[]
  staticTypes := #[]
  resolved := #[]
  callSites := []
  init := .initialized
  statics := none
  mirror := none

def pool0 : Array CpInfo := pool [(5, u "<init>"), (0, u "()V"), (1, .class_ 10), (1, u "java/lang/Object")] 113

def k0c0 : Code := { maxStack := 0, maxLocals := 1, code := object_method_1_code, exceptionTable := #[], attributes := #[] }
def k0m0 : Method := { name := "<init>", desc := "()V", sig := { parameters := [], returnType := none }, accessFlags := 1, code := some k0c0 }
/-- java/lang/Object -/
def k0 : Class := { plain "java/lang/Object" none with
  accessFlags := 33
  interfaces := #[]
  cf := some (fileOf pool0 8 #[] #[{ accessFlags := 1, nameIndex := 5, descriptorIndex := 6, attributes := #[] }] 33 0 #[] #[])
  fields := #[]
  methods := #[k0m0]
  instanceTypes := #[]
  staticTypes := #[]
  resolved := Array.replicate 124 none
  statics := none }

def pool1 : Array CpInfo := pool [(2, .class_ 4), (1, u "java/lang/Object"), (0, u "<init>"), (0, u "()V"), (0, .class_ 8), (0, u "com/example/nestor/nestor/reasoning/Pattern"), (0, .methodref 7 10), (0, .nameAndType 5 11), (0, u "(I[I)V"), (0, .methodref 7 13), (0, .nameAndType 14 15), (0, u "isGround"), (0, u "()Z"), (0, .class_ 17), (0, u "com/example/nestor/nestor/reasoning/PatternIsGroundPinLaw"), (2, u "law"), (0, u "(IIIIII)Z")] 5

def k1m0 : Method := { name := "<init>", desc := "()V", sig := { parameters := [], returnType := none }, accessFlags := 1, code := none }
def k1c1 : Code := { maxStack := 4, maxLocals := 10, code := code, exceptionTable := #[], attributes := #[] }
def k1m1 : Method := { name := "law", desc := "(IIIIII)Z", sig := { parameters := [.int, .int, .int, .int, .int, .int], returnType := some .boolean }, accessFlags := 9, code := some k1c1 }
/-- com/example/nestor/nestor/reasoning/PatternIsGroundPinLaw -/
def k1 : Class := { plain "com/example/nestor/nestor/reasoning/PatternIsGroundPinLaw" (some 0) with
  accessFlags := 49
  interfaces := #[]
  cf := some (fileOf pool1 16 #[] #[{ accessFlags := 1, nameIndex := 5, descriptorIndex := 6, attributes := #[] }, { accessFlags := 9, nameIndex := 20, descriptorIndex := 21, attributes := #[] }] 49 2 #[] #[])
  fields := #[]
  methods := #[k1m0, k1m1]
  instanceTypes := #[]
  staticTypes := #[]
  resolved := Array.replicate 27 none
  statics := none }

def pool2 : Array CpInfo := pool [(1, .methodref 2 3), (0, .class_ 4), (0, .nameAndType 5 6), (0, u "java/lang/Object"), (0, u "<init>"), (0, u "()V"), (0, .fieldref 8 9), (0, .class_ 10), (0, .nameAndType 11 12), (0, u "com/example/nestor/nestor/reasoning/Pattern"), (0, u "predicate"), (0, u "I"), (0, .fieldref 8 14), (0, .nameAndType 15 16), (0, u "terms"), (0, u "[I"), (8, u "(I[I)V"), (4, u "isGround"), (0, u "()Z")] 8

def k2c0 : Code := { maxStack := 2, maxLocals := 3, code := prog_43_method_1_code, exceptionTable := #[], attributes := #[] }
def k2m0 : Method := { name := "<init>", desc := "(I[I)V", sig := { parameters := [.int, (.array .int)], returnType := none }, accessFlags := 0, code := some k2c0 }
def k2c1 : Code := { maxStack := 2, maxLocals := 5, code := prog_43_method_4_code, exceptionTable := #[], attributes := #[] }
def k2m1 : Method := { name := "isGround", desc := "()Z", sig := { parameters := [], returnType := some .boolean }, accessFlags := 0, code := some k2c1 }
/-- com/example/nestor/nestor/reasoning/Pattern -/
def k2 : Class := { plain "com/example/nestor/nestor/reasoning/Pattern" (some 0) with
  accessFlags := 48
  interfaces := #[]
  cf := some (fileOf pool2 8 #[] #[{ accessFlags := 0, nameIndex := 5, descriptorIndex := 25, attributes := #[] }, { accessFlags := 0, nameIndex := 30, descriptorIndex := 31, attributes := #[] }] 48 2 #[] #[{ accessFlags := 18, nameIndex := 11, descriptorIndex := 12, attributes := #[] }, { accessFlags := 18, nameIndex := 15, descriptorIndex := 16, attributes := #[] }])
  fields := #[{ name := "predicate", type := .int, accessFlags := 18, slot := 0, constantValue := 0 }, { name := "terms", type := (.array .int), accessFlags := 18, slot := 1, constantValue := 0 }]
  methods := #[k2m0, k2m1]
  instanceTypes := #[.int, (.array .int)]
  staticTypes := #[]
  resolved := Array.replicate 40 none
  statics := none }

def pool3 : Array CpInfo := pool [(1, u "java/lang/Cloneable"), (0, .class_ 1), (0, u "java/lang/Object"), (0, .class_ 3)] 3

/-- java/lang/Cloneable -/
def k3 : Class := { plain "java/lang/Cloneable" (some 0) with
  accessFlags := 1537
  interfaces := #[]
  cf := some (fileOf pool3 2 #[] #[] 1537 4 #[] #[])
  fields := #[]
  methods := #[]
  instanceTypes := #[]
  staticTypes := #[]
  resolved := Array.replicate 8 none
  statics := none }

def pool4 : Array CpInfo := pool [(1, u "java/io/Serializable"), (0, .class_ 1), (0, u "java/lang/Object"), (0, .class_ 3)] 3

/-- java/io/Serializable -/
def k4 : Class := { plain "java/io/Serializable" (some 0) with
  accessFlags := 1537
  interfaces := #[]
  cf := some (fileOf pool4 2 #[] #[] 1537 4 #[] #[])
  fields := #[]
  methods := #[]
  instanceTypes := #[]
  staticTypes := #[]
  resolved := Array.replicate 8 none
  statics := none }

/-- the primitive byte -/
def k5 : Class := { plain "byte" none with kind := .primitive 'B', accessFlags := 0x411 }
/-- [B -/
def k6 : Class := { plain "[B" (some 0) with kind := .array 5 .byte, interfaces := #[3, 4], accessFlags := 1041 }

/-- the primitive int -/
def k7 : Class := { plain "int" none with kind := .primitive 'I', accessFlags := 0x411 }
/-- [I -/
def k8 : Class := { plain "[I" (some 0) with kind := .array 7 .int, interfaces := #[3, 4], accessFlags := 1041 }

def heap : Heap := #[]
def classes : Array Class := #[k0, k1, k2, k3, k4, k5, k6, k7, k8]
def interned : List (Array UInt16 × Addr) := []
def slotsUsed : Nat := 0
def theMethod : MethodId := ⟨1, 1⟩
def args0 : Array Value := #[.int 3, .int 2, .int 3, .int 2, .int 3, .int 2]
def aboutOver (below : List Frame) : State where
  vm := { classes := classes, interned := interned.toArray }
  heap := heap
  slotsUsed := slotsUsed
  threads := #[{ frames := .invoking theMethod args0 :: below }]
def below0 : List Frame := [.native { method := ⟨0, 0⟩, args := #[] }]
def about1 : State := aboutOver below0
def p0 : Program := .bare "" "" ""
def e0 : Env := launch0.env 0 0 0
theorem w_frames : about1.frames = Frame.invoking theMethod args0 :: below0 := rfl
set_option maxRecDepth 65536 in
theorem w_args : argsFit about1.vm theMethod args0 = true := by decide +kernel
set_option maxRecDepth 65536 in
theorem w_heap : heapFits about1 = true := by decide +kernel
set_option maxRecDepth 65536 in
theorem w_runnable : about1.curStatus? = some .runnable := by decide +kernel
set_option maxRecDepth 65536 in
theorem w_alone : about1.alone = true := by decide +kernel
set_option maxRecDepth 65536 in
theorem w_named : about1.methodNamed? x = some theMethod := by decide +kernel
set_option maxRecDepth 65536 in
theorem w_hears : about1.hears theMethod below0 = true := by decide +kernel
set_option maxRecDepth 65536 in
theorem w_ripe : about1.ripe theMethod args0 below0 = true := by decide +kernel
theorem w_running : about1.status = .running := rfl
set_option maxRecDepth 65536 in
theorem w_room : about1.hasRoom e0.platform room_1 = true :=
  launch0.hasRoom_least _ room_1 (by decide +kernel) (by decide +kernel) (by decide +kernel) (by decide +kernel) (by decide +kernel) (by decide +kernel)
theorem allAtoms_all (ts : List Jvm.Cond) (a : Array Jvm.Value) (st : Jvm.State) : (allAtoms ts).before a st = ts.all (fun c => c.before a st) := by
  induction ts with
  | nil => rfl
  | cons c t ih =>
    show (Jvm.Cond.and c (allAtoms t)).before a st = _
    rw [Jvm.Cond.before_and, ih, List.all_cons]
def words1 : List Jvm.Cond := Jvm.Cond.code x code maxLocals ret :: tables_1
/-- a 'code' word, met by the world's own term for the bytes: nothing is compared byte by byte -/
theorem code_word {y : MethodName} {bytes : ByteArray} {mx : Nat} {rt : Option FieldType} {a : Array Value} {s : State} {m : MethodId} {meth : Method} {c : Code} (h1 : s.methodNamed? y = some m) (h2 : s.vm.method? m = some meth) (h3 : meth.code = some c) (h4 : c.code = bytes)
    (h5 : (c.maxLocals == mx && c.exceptionTable.isEmpty && decide (c.maxStack ≤ mostOperands) && decide (meth.sig.returnType = rt) && !meth.locks && decide (parseMethodDescriptor y.desc = some meth.sig)) = true) : (Jvm.Cond.code y bytes mx rt).before a s = true := by
  simp only [Bool.and_eq_true, beq_iff_eq, Bool.not_eq_true', decide_eq_true_eq] at h5
  obtain ⟨⟨⟨⟨⟨g1, g2⟩, g3⟩, g4⟩, g5⟩, g6⟩ := h5
  simp [Cond.before, Cond.holds, Cond.value, h1, h2, h3, h4, g1, g2, g3, g4, g5, g6]
def isCode : Jvm.Cond → Bool
  | .code _ _ _ _ => true
  | _ => false
theorem all_split {L : List Jvm.Cond} {P : Jvm.Cond → Bool} (h1 : L.all (fun c => isCode c || P c) = true) (h2 : ∀ c ∈ L.filter isCode, P c = true) : L.all P = true := by
  refine List.all_eq_true.mpr fun c hc => ?_
  have h := List.all_eq_true.mp h1 c hc
  rcases Bool.eq_false_or_eq_true (isCode c) with hi | hi
  · exact h2 c (List.mem_filter.mpr ⟨hc, hi⟩)
  · simpa [hi] using h
set_option maxRecDepth 65536 in
theorem w_c0 : (Jvm.Cond.code x code maxLocals ret).before args0 about1 = true := code_word (m := ⟨1, 1⟩) (meth := k1m1) (c := k1c1) (by decide +kernel) rfl rfl rfl (by decide +kernel)
set_option maxRecDepth 65536 in
theorem w_c1 : (Jvm.Cond.code ({ cls := "com/example/nestor/nestor/reasoning/Pattern", name := "<init>", desc := "(I[I)V" } : Jvm.MethodName) prog_43_method_1_code (3 : Nat) (Option.none : Option Jvm.ClassFile.FieldType)).before args0 about1 = true := code_word (m := ⟨2, 0⟩) (meth := k2m0) (c := k2c0) (by decide +kernel) rfl rfl rfl (by decide +kernel)
set_option maxRecDepth 65536 in
theorem w_c2 : (Jvm.Cond.code ({ cls := "java/lang/Object", name := "<init>", desc := "()V" } : Jvm.MethodName) object_method_1_code (1 : Nat) (Option.none : Option Jvm.ClassFile.FieldType)).before args0 about1 = true := code_word (m := ⟨0, 0⟩) (meth := k0m0) (c := k0c0) (by decide +kernel) rfl rfl rfl (by decide +kernel)
set_option maxRecDepth 65536 in
theorem w_c3 : (Jvm.Cond.code ({ cls := "com/example/nestor/nestor/reasoning/Pattern", name := "isGround", desc := "()Z" } : Jvm.MethodName) prog_43_method_4_code (5 : Nat) (Option.some Jvm.ClassFile.FieldType.boolean)).before args0 about1 = true := code_word (m := ⟨2, 1⟩) (meth := k2m1) (c := k2c1) (by decide +kernel) rfl rfl rfl (by decide +kernel)
def codes1 : List Jvm.Cond := [Jvm.Cond.code x code maxLocals ret, Jvm.Cond.code ({ cls := "com/example/nestor/nestor/reasoning/Pattern", name := "<init>", desc := "(I[I)V" } : Jvm.MethodName) prog_43_method_1_code (3 : Nat) (Option.none : Option Jvm.ClassFile.FieldType), Jvm.Cond.code ({ cls := "java/lang/Object", name := "<init>", desc := "()V" } : Jvm.MethodName) object_method_1_code (1 : Nat) (Option.none : Option Jvm.ClassFile.FieldType), Jvm.Cond.code ({ cls := "com/example/nestor/nestor/reasoning/Pattern", name := "isGround", desc := "()Z" } : Jvm.MethodName) prog_43_method_4_code (5 : Nat) (Option.some Jvm.ClassFile.FieldType.boolean)]
set_option maxRecDepth 65536 in
theorem codes_eq : words1.filter isCode = codes1 := rfl
theorem w_codes : ∀ c ∈ words1.filter isCode, c.before args0 about1 = true := by
  rw [codes_eq]
  intro c hc
  simp only [codes1, List.mem_cons, List.not_mem_nil, or_false] at hc
  rcases hc with rfl | rfl | rfl | rfl
  · exact w_c0
  · exact w_c1
  · exact w_c2
  · exact w_c3
set_option maxRecDepth 65536 in
theorem w_t1 : words1.all (fun c => isCode c || c.before args0 about1) = true := by decide +kernel
theorem w_tables : (allAtoms (Jvm.Cond.code x code maxLocals ret :: tables_1)).before args0 about1 = true := by
  rw [allAtoms_all]
  show words1.all (fun c => c.before args0 about1) = true
  refine all_split ?_ w_codes
  rw [w_t1]
set_option maxRecDepth 65536 in
theorem w_case : (Jvm.Cond.and given_1 narrow_1).before args0 about1 = true := by decide +kernel
theorem w_applies : (headSpec (Jvm.Cond.code x code maxLocals ret :: tables_1) room_1).applies x e0.platform about1 = true :=
  (Spec.applies_iff w_frames).mpr ⟨w_running, w_runnable, w_alone, w_named, w_hears, w_ripe, w_room, w_tables⟩
theorem atStart : AtStart classFile x code maxLocals ret World_1 tables_1 room_1 Calls_1 rest_1 Pre_1 launch0 p0 e0 about1 theMethod args0 below0 :=
  ⟨lists_1, trivial, launch0.admits_env _ _ _, launch0.least_env, fairChoices_fair.cas, fairChoices_fair.clock, w_frames, w_args, w_heap, w_applies, trivial, trivial, w_case⟩
end start1
theorem witness_1 : WitnessClaimed_1 := ⟨start1.p0, start1.e0, start1.about1, start1.theMethod, start1.args0, start1.below0, start1.atStart⟩
end Jvm.Pilot.@@N@@
