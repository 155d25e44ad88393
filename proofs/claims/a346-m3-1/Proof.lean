import JvmDerived
import JvmDerived.Pilot.@@N@@Statement
import JvmDerived.Pilot.@@N@@Code
set_option linter.unusedVariables false
set_option linter.unusedSimpArgs false
namespace Jvm.Pilot.@@N@@
open Jvm Jvm.ClassFile Sem Op Lib Jvm.Free Jvm.Stand Jvm.LawKit Jvm.RoadKit Bundle Jvm.Pilot.@@N@@.Jvm.D
section Own
variable {p : Program} {l : Launch} {e : Env} {R : Room} {s : State} {m : MethodId} {args : Array Value} {below : List Frame} {meth : Method} {c : Code} {T : State} {locs : List Loc} {cells slots : Nat} {Z : State} {h h' : Heap}
def Run (p : Program) (e : Env) (below : List Frame) (s : State) (C N : Nat) (Q : Option Value → Heap → List Loc → Prop) (S : State) : Prop :=
  ∃ s₂ o, Steps p.tables e below S s₂ ∧ s₂.status = .running ∧ Ended s₂ below o ∧ ∃ v L, o = .returned v ∧ Q v s₂.heap L ∧ FrameEnd s o s₂ L C N
variable {C N : Nat} {Q : Option Value → Heap → List Loc → Prop} {S S' : State}
theorem Run.go (k : ∀ t, Steps p.tables e below S' t → Steps p.tables e below S t) (r : Run p e below s C N Q S') : Run p e below s C N Q S := by
  obtain ⟨s₂, o, h1, r⟩ := r
  exact ⟨s₂, o, k _ h1, r⟩
theorem Run.tr (k : Steps p.tables e below S S') (r : Run p e below s C N Q S') : Run p e below s C N Q S := by
  obtain ⟨s₂, o, h1, r⟩ := r
  exact ⟨s₂, o, k.trans h1, r⟩
theorem Run.retI (X : Stand p l e R s m args below meth c T locs cells slots) (hx : p.tables.exec = Jvm.exec) {pc : Nat} {Ls : Array Slot} {z : Int32} {rest : List Value} (hret : meth.sig.returnType = some .int) (hlk : meth.locks = false) (hd : decode c.code pc = .ok (.ireturn, 1)) (hc : cells ≤ C) (hn : slots ≤ N)
    (hQ : Q (some (.int z)) T.heap locs) : Run p e below s C N Q (T.setTop (mkF m pc Ls (.int z :: rest))) := by
  obtain ⟨fs, hr, hrun, hended, hW, hsame⟩ := X.leave (v := some (.int z)) (fun q => by rw [hret] at q; cases q)
  refine ⟨_, _, ?_, hrun, hended, _, _, rfl, hQ, ⟨_, rfl⟩, hW, hsame.mono hc hn⟩
  have hm' : T.vm.method? m = some meth := X.method'
  have hn : narrow .int (.int z) = .int z := rfl
  show Steps p.tables e below (T.setTop { method := m, pc := pc, locals := Ls, stack := _ :: rest, locked := none }) _
  jvm_step X.here [X.here.top, hx, hd, hm', hret, hn]
  first | (intro acts; rw [hr _ acts rfl rfl rfl]) | rw [hr _ _ rfl rfl rfl]
  exact Steps.refl _
theorem Run.retN (X : Stand p l e R s m args below meth c T locs cells slots) (hx : p.tables.exec = Jvm.exec) {pc : Nat} {Ls : Array Slot} {z y : Int32} {t : FieldType} {rest : List Value} (hret : meth.sig.returnType = some t) (ht : t = .boolean ∨ t = .byte ∨ t = .char ∨ t = .short) (hy : nar t z = y) (hlk : meth.locks = false) (hd : decode c.code pc = .ok (.ireturn, 1)) (hc : cells ≤ C) (hn : slots ≤ N)
    (hQ : Q (some (.int y)) T.heap locs) : Run p e below s C N Q (T.setTop (mkF m pc Ls (.int z :: rest))) := by
  subst hy
  obtain ⟨fs, hr, hrun, hended, hW, hsame⟩ := X.leave (v := some (.int (nar t z))) (fun q => by rw [hret] at q; cases q)
  exact ⟨_, _, Jvm.RoadKit.retN X hx hret ht hd hr, hrun, hended, _, _, rfl, hQ, ⟨_, rfl⟩, hW, hsame.mono hc hn⟩
theorem Run.retJ (X : Stand p l e R s m args below meth c T locs cells slots) (hx : p.tables.exec = Jvm.exec) {pc : Nat} {Ls : Array Slot} {z : Int64} {rest : List Value} (hret : meth.sig.returnType = some .long) (hlk : meth.locks = false) (hd : decode c.code pc = .ok (.lreturn, 1)) (hc : cells ≤ C) (hn : slots ≤ N)
    (hQ : Q (some (.long z)) T.heap locs) : Run p e below s C N Q (T.setTop (mkF m pc Ls (.long z :: rest))) := by
  obtain ⟨fs, hr, hrun, hended, hW, hsame⟩ := X.leave (v := some (.long z)) (fun q => by rw [hret] at q; cases q)
  refine ⟨_, _, ?_, hrun, hended, _, _, rfl, hQ, ⟨_, rfl⟩, hW, hsame.mono hc hn⟩
  have hm' : T.vm.method? m = some meth := X.method'
  show Steps p.tables e below (T.setTop { method := m, pc := pc, locals := Ls, stack := _ :: rest, locked := none }) _
  jvm_step X.here [X.here.top, hx, hd, hm', hret, narrow]
  first | (intro acts; rw [hr _ acts rfl rfl rfl]) | rw [hr _ _ rfl rfl rfl]
  exact Steps.refl _
theorem Run.retA (X : Stand p l e R s m args below meth c T locs cells slots) (hx : p.tables.exec = Jvm.exec) {pc : Nat} {Ls : Array Slot} {w : Value} {t : FieldType} {rest : List Value} (hw : w.isRef = true) (hret : meth.sig.returnType = some t) (ht : t.isReference = true) (hlk : meth.locks = false) (hd : decode c.code pc = .ok (.areturn, 1)) (hc : cells ≤ C) (hn : slots ≤ N)
    (hQ : Q (some w) T.heap locs) : Run p e below s C N Q (T.setTop (mkF m pc Ls (w :: rest))) := by
  obtain ⟨fs, hr, hrun, hended, hW, hsame⟩ := X.leave (v := some w) (fun q => by rw [hret] at q; cases q)
  refine ⟨_, _, ?_, hrun, hended, _, _, rfl, hQ, ⟨_, rfl⟩, hW, hsame.mono hc hn⟩
  have hm' : T.vm.method? m = some meth := X.method'
  show Steps p.tables e below (T.setTop { method := m, pc := pc, locals := Ls, stack := _ :: rest, locked := none }) _
  rcases ref_cases hw with rfl | ⟨a, rfl⟩
  all_goals
    jvm_step X.here [X.here.top, hx, hd, hm', hret, Value.isRef, ht]
    first | (intro acts; rw [hr _ acts rfl rfl rfl]) | rw [hr _ _ rfl rfl rfl]
    exact Steps.refl _
theorem Run.ret0 (X : Stand p l e R s m args below meth c T locs cells slots) (hx : p.tables.exec = Jvm.exec) {pc : Nat} {Ls : Array Slot} (hret : meth.sig.returnType = none) (hlk : meth.locks = false) (hd : decode c.code pc = .ok (.return_, 1)) (hc : cells ≤ C) (hn : slots ≤ N)
    (hQ : Q none T.heap locs) : Run p e below s C N Q (T.setTop (mkF m pc Ls [])) := by
  obtain ⟨fs, hr, hrun, hended, hW, hsame⟩ := X.leave (v := none) (fun _ => rfl)
  exact ⟨_, _, X.returnOut hx hret hd hr, hrun, hended, _, _, rfl, hQ, ⟨_, rfl⟩, hW, hsame.mono hc hn⟩
theorem Sta.keep {C n d : String} {w : Value} {ws : List Addr} (F : Sta Z h C n d w) (K : Keep h h' ws) (q : ∀ x ∈ ws, ∀ c : Cell, h[x]? = some c → c.vm.isStatics = false) : Sta Z h' C n d w := by
  obtain ⟨cf, i, k, f, st, cell, h1, h2, h3, h4, h5, h6, h7⟩ := F
  refine ⟨cf, i, k, f, st, cell, h1, h2, h3, h4, K.2.1 st cell h5 (fun hm => ?_), h6, h7⟩
  rw [q st hm cell h5] at h6; cases h6
theorem Exa.nst {a : Addr} {C : String} (F : Exa Z h a C) : ∀ c : Cell, h[a]? = some c → c.vm.isStatics = false := fun c q => by
  obtain ⟨cell, k, h1, -, -, h4, -⟩ := F
  cases h1.symm.trans q; exact h4
/-- an array of n elements, the i-th is f i -/
def Ary (Z : State) (h : Heap) (a : Addr) (ty : FieldType) (n : Nat) (f : Nat → Value) : Prop := ∃ c : Cell, Arr Z h a c ty ∧ c.slots.size = n ∧ ∀ i, i < n → c.slots[i]? = some (f i)
variable {a b : Addr} {ty : FieldType} {n sl : Nat} {f : Nat → Value} {v : Value} {ws : List Addr}
theorem Ary.lt (F : Ary Z h a ty n f) : a < h.size := by obtain ⟨c, A, -⟩ := F; exact A.lt
theorem Ary.ext (F : Ary Z h a ty n f) (E : Ext h h') : Ary Z h' a ty n f := by obtain ⟨c, A, r⟩ := F; exact ⟨c, A.ext E, r⟩
theorem Ary.other (F : Ary Z h b ty n f) (W : Wr h h' a sl v) (q : b ≠ a) : Ary Z h' b ty n f := by obtain ⟨c, A, r⟩ := F; exact ⟨c, A.other W q, r⟩
theorem Ary.keep (F : Ary Z h a ty n f) (K : Keep h h' ws) (q : a ∉ ws) : Ary Z h' a ty n f := by obtain ⟨c, A, r⟩ := F; exact ⟨c, ⟨K.2.1 a c A.1 q, A.2⟩, r⟩
theorem Ary.ne {C : String} {a0 : Array Value} {k : Nat} (F : Ary Z h a ty n f) (G : Exa Z h b C) (wi : (Jvm.Cond.instantiable C k).before a0 Z = true) : a ≠ b := by
  obtain ⟨c, A, r⟩ := F; exact (ne_arr G wi A).symm
theorem Ary.same (F : Ary Z h a ty n f) (W : Wr h h' a sl v) : Ary Z h' a ty n (fun i => if i = sl then v else f i) := by
  obtain ⟨c, A, hs, hf⟩ := F
  obtain ⟨c1, q1, q2, q3, q4⟩ := W
  obtain rfl := Option.some.inj (q1.symm.trans A.1)
  refine ⟨c1.setSlot sl v, A.same ⟨c1, q1, q2, q3, q4⟩, by simp [Cell.setSlot, hs], fun i hi => ?_⟩
  by_cases e : i = sl
  · subst e; simp [Cell.setSlot, q3]
  · simp only [if_neg e]; rw [← hf i hi]; exact Array.getElem?_setIfInBounds_ne (Ne.symm e)
theorem Ary.nst (F : Ary Z h a ty n f) : ∀ c : Cell, h[a]? = some c → c.vm.isStatics = false := fun c q => by
  obtain ⟨cl, A, -⟩ := F
  cases A.1.symm.trans q; exact A.plain
theorem Ary.congr {g : Nat → Value} (F : Ary Z h a ty n f) (q : ∀ i, i < n → f i = g i) : Ary Z h a ty n g := by
  obtain ⟨c, A, hs, hf⟩ := F; exact ⟨c, A, hs, fun i hi => by rw [hf i hi, q i hi]⟩
theorem Ary.new {k : ClassId} {z : Int32} (A : Arr Z h a (newA k ty z) ty) (q : z.toNatClampNeg = n) : Ary Z h a ty n (fun _ => defaultValue ty) := by
  subst q
  exact ⟨_, A, sz_new _ _ _, fun i hi => by simp [newA, hi]⟩
theorem out_of {j : Int32} {c : Cell} (hs : c.slots.size = n) (h0 : ¬ j < 0) (hj : j.toNatClampNeg < n) : ¬ (j < 0 ∨ c.slots.size ≤ j.toNatClampNeg) := by
  rw [hs]; exact fun q => q.elim h0 (fun q => absurd hj (Nat.not_lt.mpr q))
/-- an array of references: besides, its class is that of arrays over C -/
def ArR (Z : State) (h : Heap) (a : Addr) (C : String) (n : Nat) (f : Nat → Value) : Prop := ∃ c : Cell, Arr Z h a c (.object C) ∧ Ovr Z c.cls C ∧ c.slots.size = n ∧ ∀ i, i < n → c.slots[i]? = some (f i)
variable {K : String}
theorem ArR.lt (F : ArR Z h a K n f) : a < h.size := by obtain ⟨c, A, -⟩ := F; exact A.lt
theorem ArR.ext (F : ArR Z h a K n f) (E : Ext h h') : ArR Z h' a K n f := by obtain ⟨c, A, r⟩ := F; exact ⟨c, A.ext E, r⟩
theorem ArR.other (F : ArR Z h b K n f) (W : Wr h h' a sl v) (q : b ≠ a) : ArR Z h' b K n f := by obtain ⟨c, A, r⟩ := F; exact ⟨c, A.other W q, r⟩
theorem ArR.keep (F : ArR Z h a K n f) (k : Keep h h' ws) (q : a ∉ ws) : ArR Z h' a K n f := by obtain ⟨c, A, r⟩ := F; exact ⟨c, ⟨k.2.1 a c A.1 q, A.2⟩, r⟩
theorem ArR.ary (F : ArR Z h a K n f) : Ary Z h a (.object K) n f := by obtain ⟨c, A, -, r⟩ := F; exact ⟨c, A, r⟩
theorem ArR.same (F : ArR Z h a K n f) (W : Wr h h' a sl v) : ArR Z h' a K n (fun i => if i = sl then v else f i) := by
  obtain ⟨c, A, o, hs, hf⟩ := F
  obtain ⟨c1, q1, q2, q3, q4⟩ := W
  obtain rfl := Option.some.inj (q1.symm.trans A.1)
  refine ⟨c1.setSlot sl v, A.same ⟨c1, q1, q2, q3, q4⟩, o, by simp [Cell.setSlot, hs], fun i hi => ?_⟩
  by_cases e : i = sl
  · subst e; simp [Cell.setSlot, q3]
  · simp only [if_neg e]; rw [← hf i hi]; exact Array.getElem?_setIfInBounds_ne (Ne.symm e)
theorem ArR.new {k : ClassId} {z : Int32} (A : Arr Z h a (newA k (.object K) z) (.object K)) (O : Ovr Z k K) (q : z.toNatClampNeg = n) : ArR Z h a K n (fun _ => .null) := by
  subst q
  exact ⟨_, A, O, sz_new _ _ _, fun i hi => by simp [newA, hi]; rfl⟩
section Arrays
theorem ary_iget (X : Stand p l e R s m args below meth c T locs cells slots) (hx : p.tables.exec = Jvm.exec) (hZ : Z.Warmed39 s.vm) (eT : T.heap = h) (A : Ary Z h a .int n f) {j : Int32} (h0 : ¬ j < 0) (hj : j.toNatClampNeg < n) {g : JFrame} (hg : g.method = m) {rest : List Value} (hs : g.stack = .int j :: .ref a :: rest) (hd : decode c.code g.pc = .ok (.iaload, 1)) {v : Value} (hv : f j.toNatClampNeg = v) (target : State)
    (k : Steps p.tables e below (T.setTop { g with pc := g.pc + 1, stack := v :: rest }) target) : Steps p.tables e below (T.setTop g) target := by
  subst hv; obtain ⟨cl, A, q, F⟩ := A
  exact X.iaload hx (by rw [eT]; exact A.1) (State.isArrayOf_alike hZ.alike A.2.1) A.2.2 (out_of q h0 hj) (F _ hj) hg hs hd target k
theorem ary_lget (X : Stand p l e R s m args below meth c T locs cells slots) (hx : p.tables.exec = Jvm.exec) (hZ : Z.Warmed39 s.vm) (eT : T.heap = h) (A : Ary Z h a .long n f) {j : Int32} (h0 : ¬ j < 0) (hj : j.toNatClampNeg < n) {g : JFrame} (hg : g.method = m) {rest : List Value} (hs : g.stack = .int j :: .ref a :: rest) (hd : decode c.code g.pc = .ok (.laload, 1)) {v : Value} (hv : f j.toNatClampNeg = v) (target : State)
    (k : Steps p.tables e below (T.setTop { g with pc := g.pc + 1, stack := v :: rest }) target) : Steps p.tables e below (T.setTop g) target := by
  subst hv; obtain ⟨cl, A, q, F⟩ := A
  exact X.laload hx (by rw [eT]; exact A.1) (State.isArrayOf_alike hZ.alike A.2.1) A.2.2 (out_of q h0 hj) (F _ hj) hg hs hd target k
theorem ary_bget (X : Stand p l e R s m args below meth c T locs cells slots) (hx : p.tables.exec = Jvm.exec) (hZ : Z.Warmed39 s.vm) (eT : T.heap = h) (A : Ary Z h a .byte n f) {j : Int32} (h0 : ¬ j < 0) (hj : j.toNatClampNeg < n) {g : JFrame} (hg : g.method = m) {rest : List Value} (hs : g.stack = .int j :: .ref a :: rest) (hd : decode c.code g.pc = .ok (.baload, 1)) {v : Value} (hv : f j.toNatClampNeg = v) (target : State)
    (k : Steps p.tables e below (T.setTop { g with pc := g.pc + 1, stack := v :: rest }) target) : Steps p.tables e below (T.setTop g) target := by
  subst hv; obtain ⟨cl, A, q, F⟩ := A
  exact X.baloadBytes hx (by rw [eT]; exact A.1) (State.isArrayOf_alike hZ.alike A.2.1) A.2.2 (out_of q h0 hj) (F _ hj) hg hs hd target k
theorem ary_cget (X : Stand p l e R s m args below meth c T locs cells slots) (hx : p.tables.exec = Jvm.exec) (hZ : Z.Warmed39 s.vm) (eT : T.heap = h) (A : Ary Z h a .char n f) {j : Int32} (h0 : ¬ j < 0) (hj : j.toNatClampNeg < n) {g : JFrame} (hg : g.method = m) {rest : List Value} (hs : g.stack = .int j :: .ref a :: rest) (hd : decode c.code g.pc = .ok (.caload, 1)) {v : Value} (hv : f j.toNatClampNeg = v) (target : State)
    (k : Steps p.tables e below (T.setTop { g with pc := g.pc + 1, stack := v :: rest }) target) : Steps p.tables e below (T.setTop g) target := by
  subst hv; obtain ⟨cl, A, q, F⟩ := A
  exact X.caload hx (by rw [eT]; exact A.1) (State.isArrayOf_alike hZ.alike A.2.1) A.2.2 (out_of q h0 hj) (F _ hj) hg hs hd target k
theorem ary_aget (X : Stand p l e R s m args below meth c T locs cells slots) (hx : p.tables.exec = Jvm.exec) (hZ : Z.Warmed39 s.vm) (eT : T.heap = h) (A : Ary Z h a ty n f) (hr : ty.isReference = true) {j : Int32} (h0 : ¬ j < 0) (hj : j.toNatClampNeg < n) {g : JFrame} (hg : g.method = m) {rest : List Value} (hs : g.stack = .int j :: .ref a :: rest) (hd : decode c.code g.pc = .ok (.aaload, 1)) {v : Value} (hv : f j.toNatClampNeg = v) (target : State)
    (k : Steps p.tables e below (T.setTop { g with pc := g.pc + 1, stack := v :: rest }) target) : Steps p.tables e below (T.setTop g) target := by
  subst hv; obtain ⟨cl, A, q, F⟩ := A
  exact X.aaload hx (by rw [eT]; exact A.1) (State.isArrayOf_alike hZ.alike A.2.1) hr A.2.2 (out_of q h0 hj) (F _ hj) hg hs hd target k
theorem ary_len (X : Stand p l e R s m args below meth c T locs cells slots) (hx : p.tables.exec = Jvm.exec) (hZ : Z.Warmed39 s.vm) (eT : T.heap = h) (A : Ary Z h a ty n f) {g : JFrame} (hg : g.method = m) {rest : List Value} (hs : g.stack = .ref a :: rest) (hd : decode c.code g.pc = .ok (.arraylength, 1)) {z : Int32} (hv : n.toInt32 = z) (target : State)
    (k : Steps p.tables e below (T.setTop { g with pc := g.pc + 1, stack := .int z :: rest }) target) : Steps p.tables e below (T.setTop g) target := by
  subst hv; obtain ⟨cl, A, q, F⟩ := A
  subst q
  exact X.arraylength hx (by rw [eT]; exact A.1) (State.isArrayOf_alike hZ.alike A.2.1) hg hs hd target k
theorem ary_iset (X : Stand p l e R s m args below meth c T locs cells slots) (hx : p.tables.exec = Jvm.exec) (hZ : Z.Warmed39 s.vm) (eT : T.heap = h) (A : Ary Z h a .int n f) {j x : Int32} (h0 : ¬ j < 0) (hj : j.toNatClampNeg < n) {g : JFrame} (hg : g.method = m) {rest : List Value} (hs : g.stack = .int x :: .int j :: .ref a :: rest) (hd : decode c.code g.pc = .ok (.iastore, 1)) :
    ∃ T' h', Stand p l e R s m args below meth c T' (locs ++ [⟨a, j.toNatClampNeg⟩]) cells slots ∧ T'.heap = h' ∧ Wr h h' a j.toNatClampNeg (.int x) ∧ ∀ target, Steps p.tables e below (T'.setTop { g with pc := g.pc + 1, stack := rest }) target → Steps p.tables e below (T.setTop g) target := by
  obtain ⟨cl, A, q, F⟩ := A
  exact stI X hx hZ eT A (out_of q h0 hj) hg hs hd
theorem ary_lset (X : Stand p l e R s m args below meth c T locs cells slots) (hx : p.tables.exec = Jvm.exec) (hZ : Z.Warmed39 s.vm) (eT : T.heap = h) (A : Ary Z h a .long n f) {j : Int32} {x : Int64} (h0 : ¬ j < 0) (hj : j.toNatClampNeg < n) {g : JFrame} (hg : g.method = m) {rest : List Value} (hs : g.stack = .long x :: .int j :: .ref a :: rest) (hd : decode c.code g.pc = .ok (.lastore, 1)) :
    ∃ T' h', Stand p l e R s m args below meth c T' (locs ++ [⟨a, j.toNatClampNeg⟩]) cells slots ∧ T'.heap = h' ∧ Wr h h' a j.toNatClampNeg (.long x) ∧ ∀ target, Steps p.tables e below (T'.setTop { g with pc := g.pc + 1, stack := rest }) target → Steps p.tables e below (T.setTop g) target := by
  obtain ⟨cl, A, q, F⟩ := A
  exact stJ X hx hZ eT A (out_of q h0 hj) hg hs hd
theorem ary_bset (X : Stand p l e R s m args below meth c T locs cells slots) (hx : p.tables.exec = Jvm.exec) (hZ : Z.Warmed39 s.vm) (eT : T.heap = h) (A : Ary Z h a .byte n f) {j x y : Int32} (h0 : ¬ j < 0) (hj : j.toNatClampNeg < n) {g : JFrame} (hg : g.method = m) {rest : List Value} (hs : g.stack = .int x :: .int j :: .ref a :: rest) (hd : decode c.code g.pc = .ok (.bastore, 1)) (hy : x.toInt8.toInt32 = y) :
    ∃ T' h', Stand p l e R s m args below meth c T' (locs ++ [⟨a, j.toNatClampNeg⟩]) cells slots ∧ T'.heap = h' ∧ Wr h h' a j.toNatClampNeg (.int y) ∧ ∀ target, Steps p.tables e below (T'.setTop { g with pc := g.pc + 1, stack := rest }) target → Steps p.tables e below (T.setTop g) target := by
  subst hy; obtain ⟨cl, A, q, F⟩ := A
  exact stB X hx hZ eT A (out_of q h0 hj) hg hs hd
theorem ary_cset (X : Stand p l e R s m args below meth c T locs cells slots) (hx : p.tables.exec = Jvm.exec) (hZ : Z.Warmed39 s.vm) (eT : T.heap = h) (A : Ary Z h a .char n f) {j x y : Int32} (h0 : ¬ j < 0) (hj : j.toNatClampNeg < n) {g : JFrame} (hg : g.method = m) {rest : List Value} (hs : g.stack = .int x :: .int j :: .ref a :: rest) (hd : decode c.code g.pc = .ok (.castore, 1)) (hy : nar .char x = y) :
    ∃ T' h', Stand p l e R s m args below meth c T' (locs ++ [⟨a, j.toNatClampNeg⟩]) cells slots ∧ T'.heap = h' ∧ Wr h h' a j.toNatClampNeg (.int y) ∧ ∀ target, Steps p.tables e below (T'.setTop { g with pc := g.pc + 1, stack := rest }) target → Steps p.tables e below (T.setTop g) target := by
  subst hy; obtain ⟨cl, A, q, F⟩ := A
  exact stC X hx hZ eT A (out_of q h0 hj) hg hs hd
theorem arr_set (X : Stand p l e R s m args below meth c T locs cells slots) (hx : p.tables.exec = Jvm.exec) (hZ : Z.Warmed39 s.vm) (eT : T.heap = h) (A : ArR Z h a K n f) {j : Int32} {y : Addr} (I : Ins Z h y K true) (h0 : ¬ j < 0) (hj : j.toNatClampNeg < n) {g : JFrame} (hg : g.method = m) {rest : List Value} (hs : g.stack = .ref y :: .int j :: .ref a :: rest) (hd : decode c.code g.pc = .ok (.aastore, 1)) :
    ∃ T' h', Stand p l e R s m args below meth c T' (locs ++ [⟨a, j.toNatClampNeg⟩]) cells slots ∧ T'.heap = h' ∧ Wr h h' a j.toNatClampNeg (.ref y) ∧ ∀ target, Steps p.tables e below (T'.setTop { g with pc := g.pc + 1, stack := rest }) target → Steps p.tables e below (T.setTop g) target := by
  obtain ⟨cl, A, O, q, F⟩ := A
  exact stR X hx hZ eT A (out_of q h0 hj) rfl (Sto.of A O I) hg hs hd
end Arrays
theorem nar_ite (P : Prop) [Decidable P] : nar .boolean (if P then (1 : Int32) else 0) = if P then 1 else 0 := by by_cases q : P <;> simp [q] <;> rfl
theorem b_idem (x : Int32) : x.toInt8.toInt32.toInt8.toInt32 = x.toInt8.toInt32 := by rw [Int8.toInt8_toInt32]
theorem isI_c (x : Int32) : ∀ n : Nat, ∃ y, (fun _ => Value.int x) n = Value.int y := fun _ => ⟨x, rfl⟩
theorem isI_s {f : Nat → Value} (q : ∀ n, ∃ y, f n = Value.int y) (k : Nat) (x : Int32) : ∀ n, ∃ y, (fun i => if i = k then Value.int x else f i) n = Value.int y := fun n => by
  by_cases e : n = k
  · exact ⟨x, if_pos e⟩
  · obtain ⟨y, hy⟩ := q n
    exact ⟨y, (if_neg e).trans hy⟩
end Own
theorem d1_0 : decode prog_5_method_1_code 0 = .ok (.aload_n 0, 1) := by decide +kernel
theorem d1_1 : decode prog_5_method_1_code 1 = .ok (.invokespecial 1, 3) := by decide +kernel
theorem d1_4 : decode prog_5_method_1_code 4 = .ok (.aload_n 0, 1) := by decide +kernel
theorem d1_5 : decode prog_5_method_1_code 5 = .ok (.bipush 8, 2) := by decide +kernel
theorem d1_7 : decode prog_5_method_1_code 7 = .ok (.newarray .int, 2) := by decide +kernel
theorem d1_9 : decode prog_5_method_1_code 9 = .ok (.putfield 7, 3) := by decide +kernel
theorem d1_12 : decode prog_5_method_1_code 12 = .ok (.aload_n 0, 1) := by decide +kernel
theorem d1_13 : decode prog_5_method_1_code 13 = .ok (.aconst_null, 1) := by decide +kernel
theorem d1_14 : decode prog_5_method_1_code 14 = .ok (.putfield 13, 3) := by decide +kernel
theorem d1_17 : decode prog_5_method_1_code 17 = .ok (.aload_n 0, 1) := by decide +kernel
theorem d1_18 : decode prog_5_method_1_code 18 = .ok (.iconst 0, 1) := by decide +kernel
theorem d1_19 : decode prog_5_method_1_code 19 = .ok (.putfield 17, 3) := by decide +kernel
theorem d1_22 : decode prog_5_method_1_code 22 = .ok (.return_, 1) := by decide +kernel
def Q_rm1 (Z : State) (a1 : Addr) (u_own_a1 : Value) (u_base_a1 : Value) (u_baseSize_a1 : Value) (u_ownSize_a1 : Value) (h0 : Heap) (n0 : Nat) (v : Option Value) (h : Heap) (L : List Loc) : Prop := ∃ (b3 : Addr), v = none ∧ Fr n0 L ∧ Keep h0 h [a1] ∧ h0.size ≤ b3 ∧ Exa Z h a1 "com/example/nestor/nestor/IntOverlay" ∧ Fld Z h a1 "com/example/nestor/nestor/IntOverlay" "own" "[I" (.ref b3) ∧ Fld Z h a1 "com/example/nestor/nestor/IntOverlay" "base" "Lcom/example/nestor/nestor/IntOverlay;" .null ∧ Fld Z h a1 "com/example/nestor/nestor/IntOverlay" "baseSize" "I" (.int (0 : Int32)) ∧ Fld Z h a1 "com/example/nestor/nestor/IntOverlay" "ownSize" "I" u_ownSize_a1 ∧ Ary Z h b3 .int 8 (fun _ => (.int (0 : Int32)))
theorem ef_rm1 (m : MethodId) (x0 : Addr) : entryFrame m #[(.ref x0)] 1 = mkF m 0 #[.val (.ref x0)] [] := by first | (simp [entryFrame, mkF, argsToLocals, Value.category]; done) | rfl
theorem pn_0 : plainName "com/example/nestor/nestor/IntOverlay" = true := by first | (simp [plainName, overriddenIn]; done) | decide +kernel
set_option maxRecDepth 65536 in
set_option maxHeartbeats 40000000 in
theorem rm1 (l : Launch) (Z : State) (a0 : Array Value) (hw : ∀ d ∈ tables_1, d.before a0 Z = true) (ws : List Jvm.Cond) (a1 : Addr) (u_own_a1 : Value) (u_base_a1 : Value) (u_baseSize_a1 : Value) (u_ownSize_a1 : Value) (h0 : Heap) (n0 : Nat) (Z0 : n0 ≤ h0.size) (E_a1 : Exa Z h0 a1 "com/example/nestor/nestor/IntOverlay") (F_own_a1 : Fld Z h0 a1 "com/example/nestor/nestor/IntOverlay" "own" "[I" u_own_a1) (g_a1 : n0 ≤ a1) (F_base_a1 : Fld Z h0 a1 "com/example/nestor/nestor/IntOverlay" "base" "Lcom/example/nestor/nestor/IntOverlay;" u_base_a1) (F_baseSize_a1 : Fld Z h0 a1 "com/example/nestor/nestor/IntOverlay" "baseSize" "I" u_baseSize_a1) (F_ownSize_a1 : Fld Z h0 a1 "com/example/nestor/nestor/IntOverlay" "ownSize" "I" u_ownSize_a1) :
    MetFree l (⟨"com/example/nestor/nestor/IntOverlay", "<init>", "()V"⟩ : MethodName) (head1 (Jvm.Cond.code (⟨"com/example/nestor/nestor/IntOverlay", "<init>", "()V"⟩ : MethodName) prog_5_method_1_code 1 none :: ws) ({ frames := 1, cells := 1, slots := 8, locals := 12 } : Room)) (fun a U => a = #[(.ref a1)] ∧ Z.Warmed39 U.vm ∧ U.heap = h0) (fun _ _ _ _ _ => True) (fun _ U o U' => ∃ v L, o = .returned v ∧ Q_rm1 Z a1 u_own_a1 u_base_a1 u_baseSize_a1 u_ownSize_a1 h0 n0 v U'.heap L ∧ FrameEnd U o U' L ({ frames := 1, cells := 1, slots := 8, locals := 12 } : Room).cells ({ frames := 1, cells := 1, slots := 8, locals := 12 } : Room).slots) := by
  refine MetFree.of_bodySF (plainFor_of_name pn_0) hisR ?_
  intro p e s m args below meth c s₁ Bd hml0 hP hK
  obtain ⟨rfl, hZ, hh⟩ := hP
  have hx := Bd.exec
  have hby := Bd.bytes
  have hml : c.maxLocals = 1 := hml0
  have hown : s.vm.findClass "com/example/nestor/nestor/IntOverlay" = some m.cls := findClass_of_methodNamed Bd.named
  have hnm := (name_of_methodNamed Bd.named Bd.method).1
  have X0 : Stand p l e ({ frames := 1, cells := 1, slots := 8, locals := 12 } : Room) s m #[(.ref a1)] below meth c s₁ [] 0 0 := Stand.of_body Bd
  have e0 : s₁.heap = h0 := by rw [← hh, Bd.state]; rfl
  have N0 := Fr.nil n0
  show Run p e below s 1 8 (Q_rm1 Z a1 u_own_a1 u_base_a1 u_baseSize_a1 u_ownSize_a1 h0 n0) (s₁.setTop (entryFrame m #[(.ref a1)] 1))
  refine Run.go (fun _ k => castTop (ef_rm1 m a1) k) ?_
  show Run p e below s 1 8 (Q_rm1 Z a1 u_own_a1 u_base_a1 u_baseSize_a1 u_ownSize_a1 h0 n0) (s₁.setTop (mkF m 0 #[.val (.ref a1)] []))
  refine Run.go (fun _ k => XS.aloadN X0.here hx rfl (hb hby d1_0) rfl rfl k) ?_
  show Run p e below s 1 8 (Q_rm1 Z a1 u_own_a1 u_base_a1 u_baseSize_a1 u_ownSize_a1 h0 n0) (s₁.setTop (mkF m 1 #[.val (.ref a1)] [(.ref a1)]))
  obtain ⟨T2, X2, e2, st2⟩ := initO X0 hx hZ hown (hw _ (List.mem_of_getElem? (i := 7) rfl)) (hw _ (List.mem_of_getElem? (i := 8) rfl)) (hw _ (List.mem_of_getElem? (i := 9) rfl)) e0 (g := (mkF m 1 #[.val (.ref a1)] [(.ref a1)])) rfl (by rw [hml]; rfl) rfl (hb hby d1_1) (by decide) (W := 0) (by show 2 * 0 + _ ≤ _; exact Nat.le_of_eq rfl) (by decide)
  refine Run.go st2 ?_
  show Run p e below s 1 8 (Q_rm1 Z a1 u_own_a1 u_base_a1 u_baseSize_a1 u_ownSize_a1 h0 n0) (T2.setTop (mkF m 4 #[.val (.ref a1)] []))
  refine Run.go (fun _ k => XS.aloadN X2.here hx rfl (hb hby d1_4) rfl rfl k) ?_
  show Run p e below s 1 8 (Q_rm1 Z a1 u_own_a1 u_base_a1 u_baseSize_a1 u_ownSize_a1 h0 n0) (T2.setTop (mkF m 5 #[.val (.ref a1)] [(.ref a1)]))
  refine Run.go (fun _ k => XS.bipush X2.here hx rfl (hb hby d1_5) k) ?_
  show Run p e below s 1 8 (Q_rm1 Z a1 u_own_a1 u_base_a1 u_baseSize_a1 u_ownSize_a1 h0 n0) (T2.setTop (mkF m 7 #[.val (.ref a1)] [(.int (8 : Int32)), (.ref a1)]))
  obtain ⟨T3, h3, k3, X3, e3, E3, A3, st3⟩ := newP X2 hx hZ (hw _ (List.mem_of_getElem? (i := 10) rfl)) e2 (g := (mkF m 7 #[.val (.ref a1)] [(.int (8 : Int32)), (.ref a1)])) rfl (hb hby d1_7) rfl (by decide) (cap := 8) (by decide) (by decide) (by decide) (by decide)
  obtain ⟨b3, g3⟩ : ∃ z, z = h0.size := ⟨_, rfl⟩
  rw [← g3] at A3 st3
  have g_b3 : n0 ≤ b3 := Nat.le_trans Z0 (Nat.le_of_eq g3.symm)
  have sz_b3 : h0.size ≤ b3 := Nat.le_trans (Keep.refl h0 [a1]).1 (Nat.le_of_eq g3.symm)
  have Z3 : n0 ≤ h3.size := Nat.le_trans Z0 E3.1
  have K3 : Keep h0 h3 [a1] := (Keep.refl h0 [a1]).ext E3
  have fx4 : Ary Z h3 b3 .int 8 (fun _ => (.int (0 : Int32))) := Ary.new A3 (by decide)
  refine Run.go st3 ?_
  show Run p e below s 1 8 (Q_rm1 Z a1 u_own_a1 u_base_a1 u_baseSize_a1 u_ownSize_a1 h0 n0) (T3.setTop (mkF m 9 #[.val (.ref a1)] [(.ref b3), (.ref a1)]))
  have fx5 := (E_a1.ext E3)
  have fx6 := (F_own_a1.ext E3)
  obtain ⟨T7, h7, X7, e7, W7, st7⟩ := putF X3 hx hZ hown (host := "") (Or.inl (hw _ (List.mem_of_getElem? (i := 11) rfl))) Via.refl e3 fx6 fx5 (Or.inl (hw _ (List.mem_of_getElem? (i := 12) rfl))) (hw _ (List.mem_of_getElem? (i := 2) rfl)) (ty := (.array .int)) (by decide) rfl rfl (g := (mkF m 9 #[.val (.ref a1)] [(.ref b3), (.ref a1)])) rfl rfl (hb hby d1_9)
  have N7 := Fr.snoc X7 N0 g_a1
  have Z7 : n0 ≤ h7.size := Nat.le_trans Z3 (Keep.of_wr W7).1
  have K7 : Keep h0 h7 [a1] := K3.wr W7 (Or.inl (List.mem_of_getElem? (i := 0) rfl))
  have fx8 := fx6.same W7
  refine Run.go st7 ?_
  show Run p e below s 1 8 (Q_rm1 Z a1 u_own_a1 u_base_a1 u_baseSize_a1 u_ownSize_a1 h0 n0) (T7.setTop (mkF m 12 #[.val (.ref a1)] []))
  refine Run.go (fun _ k => XS.aloadN X7.here hx rfl (hb hby d1_12) rfl rfl k) ?_
  show Run p e below s 1 8 (Q_rm1 Z a1 u_own_a1 u_base_a1 u_baseSize_a1 u_ownSize_a1 h0 n0) (T7.setTop (mkF m 13 #[.val (.ref a1)] [(.ref a1)]))
  refine Run.go (fun _ k => XS.aconstNull X7.here hx rfl (hb hby d1_13) k) ?_
  show Run p e below s 1 8 (Q_rm1 Z a1 u_own_a1 u_base_a1 u_baseSize_a1 u_ownSize_a1 h0 n0) (T7.setTop (mkF m 14 #[.val (.ref a1)] [.null, (.ref a1)]))
  have fx9 := (fx5.wr W7)
  have fx10 := ((F_base_a1.ext E3).other W7 (Or.inr (slot_ne (Or.inr (hw _ (List.mem_of_getElem? (i := 14) rfl))) (Or.inl (hw _ (List.mem_of_getElem? (i := 12) rfl))) (by decide) (t := (.object "com/example/nestor/nestor/IntOverlay")) (t' := (.array .int)) (by decide) (by decide))))
  obtain ⟨T11, h11, X11, e11, W11, st11⟩ := putF X7 hx hZ hown (host := "") (Or.inl (hw _ (List.mem_of_getElem? (i := 13) rfl))) Via.refl e7 fx10 fx9 (Or.inr ⟨(hw _ (List.mem_of_getElem? (i := 14) rfl)), rfl, hnm⟩) (hw _ (List.mem_of_getElem? (i := 2) rfl)) (ty := (.object "com/example/nestor/nestor/IntOverlay")) (by decide) rfl rfl (g := (mkF m 14 #[.val (.ref a1)] [.null, (.ref a1)])) rfl rfl (hb hby d1_14)
  have N11 := Fr.snoc X11 N7 g_a1
  have Z11 : n0 ≤ h11.size := Nat.le_trans Z7 (Keep.of_wr W11).1
  have K11 : Keep h0 h11 [a1] := K7.wr W11 (Or.inl (List.mem_of_getElem? (i := 0) rfl))
  have fx12 := fx10.same W11
  refine Run.go st11 ?_
  show Run p e below s 1 8 (Q_rm1 Z a1 u_own_a1 u_base_a1 u_baseSize_a1 u_ownSize_a1 h0 n0) (T11.setTop (mkF m 17 #[.val (.ref a1)] []))
  refine Run.go (fun _ k => XS.aloadN X11.here hx rfl (hb hby d1_17) rfl rfl k) ?_
  show Run p e below s 1 8 (Q_rm1 Z a1 u_own_a1 u_base_a1 u_baseSize_a1 u_ownSize_a1 h0 n0) (T11.setTop (mkF m 18 #[.val (.ref a1)] [(.ref a1)]))
  refine Run.go (fun _ k => XS.iconst X11.here hx rfl (hb hby d1_18) k) ?_
  show Run p e below s 1 8 (Q_rm1 Z a1 u_own_a1 u_base_a1 u_baseSize_a1 u_ownSize_a1 h0 n0) (T11.setTop (mkF m 19 #[.val (.ref a1)] [(.int (0 : Int32)), (.ref a1)]))
  have fx13 := (fx9.wr W11)
  have fx14 := (((F_baseSize_a1.ext E3).other W7 (Or.inr (slot_ne (Or.inr (hw _ (List.mem_of_getElem? (i := 16) rfl))) (Or.inl (hw _ (List.mem_of_getElem? (i := 12) rfl))) (by decide) (t := .int) (t' := (.array .int)) (by decide) (by decide)))).other W11 (Or.inr (slot_ne (Or.inr (hw _ (List.mem_of_getElem? (i := 16) rfl))) (Or.inr (hw _ (List.mem_of_getElem? (i := 14) rfl))) (by decide) (t := .int) (t' := (.object "com/example/nestor/nestor/IntOverlay")) (by decide) (by decide))))
  obtain ⟨T15, h15, X15, e15, W15, st15⟩ := putF X11 hx hZ hown (host := "") (Or.inl (hw _ (List.mem_of_getElem? (i := 15) rfl))) Via.refl e11 fx14 fx13 (Or.inr ⟨(hw _ (List.mem_of_getElem? (i := 16) rfl)), rfl, hnm⟩) (hw _ (List.mem_of_getElem? (i := 2) rfl)) (ty := .int) (by decide) rfl rfl (g := (mkF m 19 #[.val (.ref a1)] [(.int (0 : Int32)), (.ref a1)])) rfl rfl (hb hby d1_19)
  have N15 := Fr.snoc X15 N11 g_a1
  have Z15 : n0 ≤ h15.size := Nat.le_trans Z11 (Keep.of_wr W15).1
  have K15 : Keep h0 h15 [a1] := K11.wr W15 (Or.inl (List.mem_of_getElem? (i := 0) rfl))
  have fx16 := fx14.same W15
  refine Run.go st15 ?_
  show Run p e below s 1 8 (Q_rm1 Z a1 u_own_a1 u_base_a1 u_baseSize_a1 u_ownSize_a1 h0 n0) (T15.setTop (mkF m 22 #[.val (.ref a1)] []))
  refine Run.ret0 X15 hx Bd.returns Bd.notSynchronized (hb hby d1_22) (by decide) (by decide) ?_
  show Q_rm1 Z a1 u_own_a1 u_base_a1 u_baseSize_a1 u_ownSize_a1 h0 n0 _ T15.heap _
  have fx17 := (fx13.wr W15)
  have fx18 := ((fx8.other W11 (Or.inr (slot_ne (Or.inl (hw _ (List.mem_of_getElem? (i := 12) rfl))) (Or.inr (hw _ (List.mem_of_getElem? (i := 14) rfl))) (by decide) (t := (.array .int)) (t' := (.object "com/example/nestor/nestor/IntOverlay")) (by decide) (by decide)))).other W15 (Or.inr (slot_ne (Or.inl (hw _ (List.mem_of_getElem? (i := 12) rfl))) (Or.inr (hw _ (List.mem_of_getElem? (i := 16) rfl))) (by decide) (t := (.array .int)) (t' := .int) (by decide) (by decide))))
  have fx19 := (fx12.other W15 (Or.inr (slot_ne (Or.inr (hw _ (List.mem_of_getElem? (i := 14) rfl))) (Or.inr (hw _ (List.mem_of_getElem? (i := 16) rfl))) (by decide) (t := (.object "com/example/nestor/nestor/IntOverlay")) (t' := .int) (by decide) (by decide))))
  have fx20 := ((((F_ownSize_a1.ext E3).other W7 (Or.inr (slot_ne (Or.inl (hw _ (List.mem_of_getElem? (i := 23) rfl))) (Or.inl (hw _ (List.mem_of_getElem? (i := 12) rfl))) (by decide) (t := .int) (t' := (.array .int)) (by decide) (by decide)))).other W11 (Or.inr (slot_ne (Or.inl (hw _ (List.mem_of_getElem? (i := 23) rfl))) (Or.inr (hw _ (List.mem_of_getElem? (i := 14) rfl))) (by decide) (t := .int) (t' := (.object "com/example/nestor/nestor/IntOverlay")) (by decide) (by decide)))).other W15 (Or.inr (slot_ne (Or.inl (hw _ (List.mem_of_getElem? (i := 23) rfl))) (Or.inr (hw _ (List.mem_of_getElem? (i := 16) rfl))) (by decide) (t := .int) (t' := .int) (by decide) (by decide))))
  have fx21 := (((fx4.other W7 (Ne.symm (Nat.ne_of_lt (Nat.lt_of_lt_of_le E_a1.lt sz_b3)))).other W11 (Ne.symm (Nat.ne_of_lt (Nat.lt_of_lt_of_le E_a1.lt sz_b3)))).other W15 (Ne.symm (Nat.ne_of_lt (Nat.lt_of_lt_of_le E_a1.lt sz_b3))))
  rw [e15]
  exact ⟨b3, rfl, N15, K15, sz_b3, fx17, fx18, fx19, fx16, fx20, fx21⟩
theorem d5_0 : decode prog_5_method_7_code 0 = .ok (.aload_n 0, 1) := by decide +kernel
theorem d5_1 : decode prog_5_method_7_code 1 = .ok (.getfield 17, 3) := by decide +kernel
theorem d5_4 : decode prog_5_method_7_code 4 = .ok (.aload_n 0, 1) := by decide +kernel
theorem d5_5 : decode prog_5_method_7_code 5 = .ok (.getfield 25, 3) := by decide +kernel
theorem d5_8 : decode prog_5_method_7_code 8 = .ok (.iadd, 1) := by decide +kernel
theorem d5_9 : decode prog_5_method_7_code 9 = .ok (.ireturn, 1) := by decide +kernel
def Q_rm5 (Z : State) (a1 : Addr) (w2 : Int32) (w4 : Int32) (h0 : Heap) (n0 : Nat) (v : Option Value) (h : Heap) (L : List Loc) : Prop := v = some (.int (w2 + w4)) ∧ Fr n0 L ∧ h = h0
theorem ef_rm5 (m : MethodId) (x0 : Addr) : entryFrame m #[(.ref x0)] 1 = mkF m 0 #[.val (.ref x0)] [] := by first | (simp [entryFrame, mkF, argsToLocals, Value.category]; done) | rfl
set_option maxRecDepth 65536 in
set_option maxHeartbeats 40000000 in
theorem rm5 (l : Launch) (Z : State) (a0 : Array Value) (hw : ∀ d ∈ tables_1, d.before a0 Z = true) (ws : List Jvm.Cond) (a1 : Addr) (w2 : Int32) (w4 : Int32) (h0 : Heap) (n0 : Nat) (Z0 : n0 ≤ h0.size) (F_baseSize_a1 : Fld Z h0 a1 "com/example/nestor/nestor/IntOverlay" "baseSize" "I" (.int w2)) (F_ownSize_a1 : Fld Z h0 a1 "com/example/nestor/nestor/IntOverlay" "ownSize" "I" (.int w4)) :
    MetFree l (⟨"com/example/nestor/nestor/IntOverlay", "size", "()I"⟩ : MethodName) (head1 (Jvm.Cond.code (⟨"com/example/nestor/nestor/IntOverlay", "size", "()I"⟩ : MethodName) prog_5_method_7_code 1 (some .int) :: ws) ({ frames := 0, cells := 0, slots := 0, locals := 0 } : Room)) (fun a U => a = #[(.ref a1)] ∧ Z.Warmed39 U.vm ∧ U.heap = h0) (fun _ _ _ _ _ => True) (fun _ U o U' => ∃ v L, o = .returned v ∧ Q_rm5 Z a1 w2 w4 h0 n0 v U'.heap L ∧ FrameEnd U o U' L ({ frames := 0, cells := 0, slots := 0, locals := 0 } : Room).cells ({ frames := 0, cells := 0, slots := 0, locals := 0 } : Room).slots) := by
  refine MetFree.of_bodySF (plainFor_of_name pn_0) hisR ?_
  intro p e s m args below meth c s₁ Bd hml0 hP hK
  obtain ⟨rfl, hZ, hh⟩ := hP
  have hx := Bd.exec
  have hby := Bd.bytes
  have hml : c.maxLocals = 1 := hml0
  have hown : s.vm.findClass "com/example/nestor/nestor/IntOverlay" = some m.cls := findClass_of_methodNamed Bd.named
  have hnm := (name_of_methodNamed Bd.named Bd.method).1
  have X0 : Stand p l e ({ frames := 0, cells := 0, slots := 0, locals := 0 } : Room) s m #[(.ref a1)] below meth c s₁ [] 0 0 := Stand.of_body Bd
  have e0 : s₁.heap = h0 := by rw [← hh, Bd.state]; rfl
  have N0 := Fr.nil n0
  show Run p e below s 0 0 (Q_rm5 Z a1 w2 w4 h0 n0) (s₁.setTop (entryFrame m #[(.ref a1)] 1))
  refine Run.go (fun _ k => castTop (ef_rm5 m a1) k) ?_
  show Run p e below s 0 0 (Q_rm5 Z a1 w2 w4 h0 n0) (s₁.setTop (mkF m 0 #[.val (.ref a1)] []))
  refine Run.go (fun _ k => XS.aloadN X0.here hx rfl (hb hby d5_0) rfl rfl k) ?_
  show Run p e below s 0 0 (Q_rm5 Z a1 w2 w4 h0 n0) (s₁.setTop (mkF m 1 #[.val (.ref a1)] [(.ref a1)]))
  obtain ⟨T3, X3, e3, st3⟩ := getF X0 hx hZ hown (host := "") (Or.inl (hw _ (List.mem_of_getElem? (i := 15) rfl))) Via.refl e0 F_baseSize_a1 (g := (mkF m 1 #[.val (.ref a1)] [(.ref a1)])) rfl rfl (hb hby d5_1)
  refine Run.go st3 ?_
  show Run p e below s 0 0 (Q_rm5 Z a1 w2 w4 h0 n0) (T3.setTop (mkF m 4 #[.val (.ref a1)] [(.int w2)]))
  refine Run.go (fun _ k => XS.aloadN X3.here hx rfl (hb hby d5_4) rfl rfl k) ?_
  show Run p e below s 0 0 (Q_rm5 Z a1 w2 w4 h0 n0) (T3.setTop (mkF m 5 #[.val (.ref a1)] [(.ref a1), (.int w2)]))
  obtain ⟨T5, X5, e5, st5⟩ := getF X3 hx hZ hown (host := "") (Or.inl (hw _ (List.mem_of_getElem? (i := 22) rfl))) Via.refl e3 F_ownSize_a1 (g := (mkF m 5 #[.val (.ref a1)] [(.ref a1), (.int w2)])) rfl rfl (hb hby d5_5)
  refine Run.go st5 ?_
  show Run p e below s 0 0 (Q_rm5 Z a1 w2 w4 h0 n0) (T5.setTop (mkF m 8 #[.val (.ref a1)] [(.int w4), (.int w2)]))
  refine Run.go (fun _ k => XS.iadd X5.here hx rfl (hb hby d5_8) rfl k) ?_
  show Run p e below s 0 0 (Q_rm5 Z a1 w2 w4 h0 n0) (T5.setTop (mkF m 9 #[.val (.ref a1)] [(.int (w2 + w4))]))
  refine Run.retI X5 hx Bd.returns Bd.notSynchronized (hb hby d5_9) (by decide) (by decide) ?_
  show Q_rm5 Z a1 w2 w4 h0 n0 _ T5.heap _
  exact ⟨rfl, N0, e5⟩
theorem d4_0 : decode prog_5_method_2_code 0 = .ok (.aload_n 0, 1) := by decide +kernel
theorem d4_1 : decode prog_5_method_2_code 1 = .ok (.invokespecial 1, 3) := by decide +kernel
theorem d4_4 : decode prog_5_method_2_code 4 = .ok (.aload_n 0, 1) := by decide +kernel
theorem d4_5 : decode prog_5_method_2_code 5 = .ok (.bipush 8, 2) := by decide +kernel
theorem d4_7 : decode prog_5_method_2_code 7 = .ok (.newarray .int, 2) := by decide +kernel
theorem d4_9 : decode prog_5_method_2_code 9 = .ok (.putfield 7, 3) := by decide +kernel
theorem d4_12 : decode prog_5_method_2_code 12 = .ok (.aload_n 0, 1) := by decide +kernel
theorem d4_13 : decode prog_5_method_2_code 13 = .ok (.aload_n 1, 1) := by decide +kernel
theorem d4_14 : decode prog_5_method_2_code 14 = .ok (.putfield 13, 3) := by decide +kernel
theorem d4_17 : decode prog_5_method_2_code 17 = .ok (.aload_n 0, 1) := by decide +kernel
theorem d4_18 : decode prog_5_method_2_code 18 = .ok (.aload_n 1, 1) := by decide +kernel
theorem d4_19 : decode prog_5_method_2_code 19 = .ok (.invokevirtual 21, 3) := by decide +kernel
theorem pd_0 : parseMethodDescriptor "()I" = some ⟨[], some .int⟩ := by decide +kernel
theorem d4_22 : decode prog_5_method_2_code 22 = .ok (.putfield 17, 3) := by decide +kernel
theorem d4_25 : decode prog_5_method_2_code 25 = .ok (.return_, 1) := by decide +kernel
def Q_rm4 (Z : State) (a1 : Addr) (a2 : Addr) (u_own_a1 : Value) (u_base_a1 : Value) (w15 : Int32) (w16 : Int32) (u_baseSize_a1 : Value) (u_ownSize_a1 : Value) (h0 : Heap) (n0 : Nat) (v : Option Value) (h : Heap) (L : List Loc) : Prop := ∃ (b4 : Addr), v = none ∧ Fr n0 L ∧ Keep h0 h [a1] ∧ h0.size ≤ b4 ∧ Exa Z h a1 "com/example/nestor/nestor/IntOverlay" ∧ Fld Z h a1 "com/example/nestor/nestor/IntOverlay" "own" "[I" (.ref b4) ∧ Fld Z h a1 "com/example/nestor/nestor/IntOverlay" "base" "Lcom/example/nestor/nestor/IntOverlay;" (.ref a2) ∧ Fld Z h a1 "com/example/nestor/nestor/IntOverlay" "baseSize" "I" (.int (w15 + w16)) ∧ Fld Z h a1 "com/example/nestor/nestor/IntOverlay" "ownSize" "I" u_ownSize_a1 ∧ Ary Z h b4 .int 8 (fun _ => (.int (0 : Int32)))
theorem ef_rm4 (m : MethodId) (x0 : Addr) (x1 : Addr) : entryFrame m #[(.ref x0), (.ref x1)] 2 = mkF m 0 #[.val (.ref x0), .val (.ref x1)] [] := by first | (simp [entryFrame, mkF, argsToLocals, Value.category]; done) | rfl
set_option maxRecDepth 65536 in
set_option maxHeartbeats 40000000 in
theorem rm4 (l : Launch) (Z : State) (a0 : Array Value) (hw : ∀ d ∈ tables_1, d.before a0 Z = true) (ws : List Jvm.Cond) (a1 : Addr) (a2 : Addr) (u_own_a1 : Value) (u_base_a1 : Value) (w15 : Int32) (w16 : Int32) (u_baseSize_a1 : Value) (u_ownSize_a1 : Value) (h0 : Heap) (n0 : Nat) (Z0 : n0 ≤ h0.size) (E_a1 : Exa Z h0 a1 "com/example/nestor/nestor/IntOverlay") (F_own_a1 : Fld Z h0 a1 "com/example/nestor/nestor/IntOverlay" "own" "[I" u_own_a1) (g_a1 : n0 ≤ a1) (F_base_a1 : Fld Z h0 a1 "com/example/nestor/nestor/IntOverlay" "base" "Lcom/example/nestor/nestor/IntOverlay;" u_base_a1) (F_baseSize_a2 : Fld Z h0 a2 "com/example/nestor/nestor/IntOverlay" "baseSize" "I" (.int w15)) (F_ownSize_a2 : Fld Z h0 a2 "com/example/nestor/nestor/IntOverlay" "ownSize" "I" (.int w16)) (ne_a2_a1 : a2 ≠ a1) (E_a2 : Exa Z h0 a2 "com/example/nestor/nestor/IntOverlay") (F_baseSize_a1 : Fld Z h0 a1 "com/example/nestor/nestor/IntOverlay" "baseSize" "I" u_baseSize_a1) (F_ownSize_a1 : Fld Z h0 a1 "com/example/nestor/nestor/IntOverlay" "ownSize" "I" u_ownSize_a1) :
    MetFree l (⟨"com/example/nestor/nestor/IntOverlay", "<init>", "(Lcom/example/nestor/nestor/IntOverlay;)V"⟩ : MethodName) (head1 (Jvm.Cond.code (⟨"com/example/nestor/nestor/IntOverlay", "<init>", "(Lcom/example/nestor/nestor/IntOverlay;)V"⟩ : MethodName) prog_5_method_2_code 2 none :: ws) ({ frames := 1, cells := 1, slots := 8, locals := 13 } : Room)) (fun a U => a = #[(.ref a1), (.ref a2)] ∧ Z.Warmed39 U.vm ∧ U.heap = h0) (fun _ _ _ _ _ => True) (fun _ U o U' => ∃ v L, o = .returned v ∧ Q_rm4 Z a1 a2 u_own_a1 u_base_a1 w15 w16 u_baseSize_a1 u_ownSize_a1 h0 n0 v U'.heap L ∧ FrameEnd U o U' L ({ frames := 1, cells := 1, slots := 8, locals := 13 } : Room).cells ({ frames := 1, cells := 1, slots := 8, locals := 13 } : Room).slots) := by
  refine MetFree.of_bodySF (plainFor_of_name pn_0) hisR ?_
  intro p e s m args below meth c s₁ Bd hml0 hP hK
  obtain ⟨rfl, hZ, hh⟩ := hP
  have hx := Bd.exec
  have hby := Bd.bytes
  have hml : c.maxLocals = 2 := hml0
  have hown : s.vm.findClass "com/example/nestor/nestor/IntOverlay" = some m.cls := findClass_of_methodNamed Bd.named
  have hnm := (name_of_methodNamed Bd.named Bd.method).1
  have X0 : Stand p l e ({ frames := 1, cells := 1, slots := 8, locals := 13 } : Room) s m #[(.ref a1), (.ref a2)] below meth c s₁ [] 0 0 := Stand.of_body Bd
  have e0 : s₁.heap = h0 := by rw [← hh, Bd.state]; rfl
  have N0 := Fr.nil n0
  show Run p e below s 1 8 (Q_rm4 Z a1 a2 u_own_a1 u_base_a1 w15 w16 u_baseSize_a1 u_ownSize_a1 h0 n0) (s₁.setTop (entryFrame m #[(.ref a1), (.ref a2)] 2))
  refine Run.go (fun _ k => castTop (ef_rm4 m a1 a2) k) ?_
  show Run p e below s 1 8 (Q_rm4 Z a1 a2 u_own_a1 u_base_a1 w15 w16 u_baseSize_a1 u_ownSize_a1 h0 n0) (s₁.setTop (mkF m 0 #[.val (.ref a1), .val (.ref a2)] []))
  refine Run.go (fun _ k => XS.aloadN X0.here hx rfl (hb hby d4_0) rfl rfl k) ?_
  show Run p e below s 1 8 (Q_rm4 Z a1 a2 u_own_a1 u_base_a1 w15 w16 u_baseSize_a1 u_ownSize_a1 h0 n0) (s₁.setTop (mkF m 1 #[.val (.ref a1), .val (.ref a2)] [(.ref a1)]))
  obtain ⟨T3, X3, e3, st3⟩ := initO X0 hx hZ hown (hw _ (List.mem_of_getElem? (i := 7) rfl)) (hw _ (List.mem_of_getElem? (i := 8) rfl)) (hw _ (List.mem_of_getElem? (i := 9) rfl)) e0 (g := (mkF m 1 #[.val (.ref a1), .val (.ref a2)] [(.ref a1)])) rfl (by rw [hml]; rfl) rfl (hb hby d4_1) (by decide) (W := 0) (by show 2 * 0 + _ ≤ _; exact Nat.le_of_eq rfl) (by decide)
  refine Run.go st3 ?_
  show Run p e below s 1 8 (Q_rm4 Z a1 a2 u_own_a1 u_base_a1 w15 w16 u_baseSize_a1 u_ownSize_a1 h0 n0) (T3.setTop (mkF m 4 #[.val (.ref a1), .val (.ref a2)] []))
  refine Run.go (fun _ k => XS.aloadN X3.here hx rfl (hb hby d4_4) rfl rfl k) ?_
  show Run p e below s 1 8 (Q_rm4 Z a1 a2 u_own_a1 u_base_a1 w15 w16 u_baseSize_a1 u_ownSize_a1 h0 n0) (T3.setTop (mkF m 5 #[.val (.ref a1), .val (.ref a2)] [(.ref a1)]))
  refine Run.go (fun _ k => XS.bipush X3.here hx rfl (hb hby d4_5) k) ?_
  show Run p e below s 1 8 (Q_rm4 Z a1 a2 u_own_a1 u_base_a1 w15 w16 u_baseSize_a1 u_ownSize_a1 h0 n0) (T3.setTop (mkF m 7 #[.val (.ref a1), .val (.ref a2)] [(.int (8 : Int32)), (.ref a1)]))
  obtain ⟨T4, h4, k4, X4, e4, E4, A4, st4⟩ := newP X3 hx hZ (hw _ (List.mem_of_getElem? (i := 10) rfl)) e3 (g := (mkF m 7 #[.val (.ref a1), .val (.ref a2)] [(.int (8 : Int32)), (.ref a1)])) rfl (hb hby d4_7) rfl (by decide) (cap := 8) (by decide) (by decide) (by decide) (by decide)
  obtain ⟨b4, g4⟩ : ∃ z, z = h0.size := ⟨_, rfl⟩
  rw [← g4] at A4 st4
  have g_b4 : n0 ≤ b4 := Nat.le_trans Z0 (Nat.le_of_eq g4.symm)
  have sz_b4 : h0.size ≤ b4 := Nat.le_trans (Keep.refl h0 [a1]).1 (Nat.le_of_eq g4.symm)
  have Z4 : n0 ≤ h4.size := Nat.le_trans Z0 E4.1
  have K4 : Keep h0 h4 [a1] := (Keep.refl h0 [a1]).ext E4
  have fx5 : Ary Z h4 b4 .int 8 (fun _ => (.int (0 : Int32))) := Ary.new A4 (by decide)
  refine Run.go st4 ?_
  show Run p e below s 1 8 (Q_rm4 Z a1 a2 u_own_a1 u_base_a1 w15 w16 u_baseSize_a1 u_ownSize_a1 h0 n0) (T4.setTop (mkF m 9 #[.val (.ref a1), .val (.ref a2)] [(.ref b4), (.ref a1)]))
  have fx6 := (E_a1.ext E4)
  have fx7 := (F_own_a1.ext E4)
  obtain ⟨T8, h8, X8, e8, W8, st8⟩ := putF X4 hx hZ hown (host := "") (Or.inl (hw _ (List.mem_of_getElem? (i := 11) rfl))) Via.refl e4 fx7 fx6 (Or.inl (hw _ (List.mem_of_getElem? (i := 12) rfl))) (hw _ (List.mem_of_getElem? (i := 2) rfl)) (ty := (.array .int)) (by decide) rfl rfl (g := (mkF m 9 #[.val (.ref a1), .val (.ref a2)] [(.ref b4), (.ref a1)])) rfl rfl (hb hby d4_9)
  have N8 := Fr.snoc X8 N0 g_a1
  have Z8 : n0 ≤ h8.size := Nat.le_trans Z4 (Keep.of_wr W8).1
  have K8 : Keep h0 h8 [a1] := K4.wr W8 (Or.inl (List.mem_of_getElem? (i := 0) rfl))
  have fx9 := fx7.same W8
  refine Run.go st8 ?_
  show Run p e below s 1 8 (Q_rm4 Z a1 a2 u_own_a1 u_base_a1 w15 w16 u_baseSize_a1 u_ownSize_a1 h0 n0) (T8.setTop (mkF m 12 #[.val (.ref a1), .val (.ref a2)] []))
  refine Run.go (fun _ k => XS.aloadN X8.here hx rfl (hb hby d4_12) rfl rfl k) ?_
  show Run p e below s 1 8 (Q_rm4 Z a1 a2 u_own_a1 u_base_a1 w15 w16 u_baseSize_a1 u_ownSize_a1 h0 n0) (T8.setTop (mkF m 13 #[.val (.ref a1), .val (.ref a2)] [(.ref a1)]))
  refine Run.go (fun _ k => XS.aloadN X8.here hx rfl (hb hby d4_13) rfl rfl k) ?_
  show Run p e below s 1 8 (Q_rm4 Z a1 a2 u_own_a1 u_base_a1 w15 w16 u_baseSize_a1 u_ownSize_a1 h0 n0) (T8.setTop (mkF m 14 #[.val (.ref a1), .val (.ref a2)] [(.ref a2), (.ref a1)]))
  have fx10 := (fx6.wr W8)
  have fx11 := ((F_base_a1.ext E4).other W8 (Or.inr (slot_ne (Or.inr (hw _ (List.mem_of_getElem? (i := 14) rfl))) (Or.inl (hw _ (List.mem_of_getElem? (i := 12) rfl))) (by decide) (t := (.object "com/example/nestor/nestor/IntOverlay")) (t' := (.array .int)) (by decide) (by decide))))
  obtain ⟨T12, h12, X12, e12, W12, st12⟩ := putF X8 hx hZ hown (host := "") (Or.inl (hw _ (List.mem_of_getElem? (i := 13) rfl))) Via.refl e8 fx11 fx10 (Or.inr ⟨(hw _ (List.mem_of_getElem? (i := 14) rfl)), rfl, hnm⟩) (hw _ (List.mem_of_getElem? (i := 2) rfl)) (ty := (.object "com/example/nestor/nestor/IntOverlay")) (by decide) rfl rfl (g := (mkF m 14 #[.val (.ref a1), .val (.ref a2)] [(.ref a2), (.ref a1)])) rfl rfl (hb hby d4_14)
  have N12 := Fr.snoc X12 N8 g_a1
  have Z12 : n0 ≤ h12.size := Nat.le_trans Z8 (Keep.of_wr W12).1
  have K12 : Keep h0 h12 [a1] := K8.wr W12 (Or.inl (List.mem_of_getElem? (i := 0) rfl))
  have fx13 := fx11.same W12
  refine Run.go st12 ?_
  show Run p e below s 1 8 (Q_rm4 Z a1 a2 u_own_a1 u_base_a1 w15 w16 u_baseSize_a1 u_ownSize_a1 h0 n0) (T12.setTop (mkF m 17 #[.val (.ref a1), .val (.ref a2)] []))
  refine Run.go (fun _ k => XS.aloadN X12.here hx rfl (hb hby d4_17) rfl rfl k) ?_
  show Run p e below s 1 8 (Q_rm4 Z a1 a2 u_own_a1 u_base_a1 w15 w16 u_baseSize_a1 u_ownSize_a1 h0 n0) (T12.setTop (mkF m 18 #[.val (.ref a1), .val (.ref a2)] [(.ref a1)]))
  refine Run.go (fun _ k => XS.aloadN X12.here hx rfl (hb hby d4_18) rfl rfl k) ?_
  show Run p e below s 1 8 (Q_rm4 Z a1 a2 u_own_a1 u_base_a1 w15 w16 u_baseSize_a1 u_ownSize_a1 h0 n0) (T12.setTop (mkF m 19 #[.val (.ref a1), .val (.ref a2)] [(.ref a2), (.ref a1)]))
  have fx17 := (((F_baseSize_a2.ext E4).other W8 (Or.inl ne_a2_a1)).other W12 (Or.inl ne_a2_a1))
  have fx18 := (((F_ownSize_a2.ext E4).other W8 (Or.inl ne_a2_a1)).other W12 (Or.inl ne_a2_a1))
  have fx19 := (((E_a2.ext E4).wr W8).wr W12)
  obtain ⟨cq14, kq14, q14a, q14b, q14c⟩ := isOf hZ e12 fx19
  obtain ⟨_, _, ⟨T14, L14, k14, n14⟩, -, X14, ⟨Lc14, hQ14, l14, y14, z14⟩, st14⟩ := X12.virtualBack hx (y := (⟨"com/example/nestor/nestor/IntOverlay", "size", "()I"⟩ : MethodName)) (z := (⟨"com/example/nestor/nestor/IntOverlay", "size", "()I"⟩ : MethodName)) hown (mvT hZ (hw _ (List.mem_of_getElem? (i := 27) rfl))) (mvT hZ (hw _ (List.mem_of_getElem? (i := 28) rfl))) (notFace_of_selects (args := #[]) (mvT hZ (hw _ (List.mem_of_getElem? (i := 30) rfl)))) (mvT hZ (hw _ (List.mem_of_getElem? (i := 30) rfl))) (mvT hZ (hw _ (List.mem_of_getElem? (i := 29) rfl))) (by decide) (backOf (W := 1) (rm5 l Z a0 hw [] a2 w15 w16 h12 n0 Z12 fx17 fx18) hZ (hw _ (List.mem_of_getElem? (i := 31) rfl)) (hw _ (List.mem_of_getElem? (i := 3) rfl)) (by decide) (by decide)) q14a q14c (g := (mkF m 19 #[.val (.ref a1), .val (.ref a2)] [(.ref a2), (.ref a1)])) rfl (by rw [hml]; rfl) (Steps.refl _) (argsL := []) (rest := [(.ref a1)]) (lenOf pd_0 rfl) rfl (by show 2 * 0 + _ ≤ _; exact Nat.le_of_eq rfl) (hb hby d4_19) (fun _ _ => ⟨rfl, e12, (by decide : 1 + 0 ≤ _), (by decide : 8 + 0 ≤ _)⟩)
  dsimp only [Pt.U, Pt.locs, Pt.cells, Pt.slots] at X14 l14 y14 z14 st14 hQ14
  subst l14 y14 z14
  obtain ⟨rfl, N14q, e14q⟩ := hQ14
  have N14 := Fr.app N12 N14q
  refine Run.tr st14 ?_
  show Run p e below s 1 8 (Q_rm4 Z a1 a2 u_own_a1 u_base_a1 w15 w16 u_baseSize_a1 u_ownSize_a1 h0 n0) (T14.setTop (mkF m 22 #[.val (.ref a1), .val (.ref a2)] [(.int (w15 + w16)), (.ref a1)]))
  have fx20 := (fx10.wr W12)
  have fx21 := (((F_baseSize_a1.ext E4).other W8 (Or.inr (slot_ne (Or.inr (hw _ (List.mem_of_getElem? (i := 16) rfl))) (Or.inl (hw _ (List.mem_of_getElem? (i := 12) rfl))) (by decide) (t := .int) (t' := (.array .int)) (by decide) (by decide)))).other W12 (Or.inr (slot_ne (Or.inr (hw _ (List.mem_of_getElem? (i := 16) rfl))) (Or.inr (hw _ (List.mem_of_getElem? (i := 14) rfl))) (by decide) (t := .int) (t' := (.object "com/example/nestor/nestor/IntOverlay")) (by decide) (by decide))))
  obtain ⟨T22, h22, X22, e22, W22, st22⟩ := putF X14 hx hZ hown (host := "") (Or.inl (hw _ (List.mem_of_getElem? (i := 15) rfl))) Via.refl e14q fx21 fx20 (Or.inr ⟨(hw _ (List.mem_of_getElem? (i := 16) rfl)), rfl, hnm⟩) (hw _ (List.mem_of_getElem? (i := 2) rfl)) (ty := .int) (by decide) rfl rfl (g := (mkF m 22 #[.val (.ref a1), .val (.ref a2)] [(.int (w15 + w16)), (.ref a1)])) rfl rfl (hb hby d4_22)
  have N22 := Fr.snoc X22 N14 g_a1
  have Z22 : n0 ≤ h22.size := Nat.le_trans Z12 (Keep.of_wr W22).1
  have K22 : Keep h0 h22 [a1] := K12.wr W22 (Or.inl (List.mem_of_getElem? (i := 0) rfl))
  have fx23 := fx21.same W22
  refine Run.go st22 ?_
  show Run p e below s 1 8 (Q_rm4 Z a1 a2 u_own_a1 u_base_a1 w15 w16 u_baseSize_a1 u_ownSize_a1 h0 n0) (T22.setTop (mkF m 25 #[.val (.ref a1), .val (.ref a2)] []))
  refine Run.ret0 X22 hx Bd.returns Bd.notSynchronized (hb hby d4_25) (by decide) (by decide) ?_
  show Q_rm4 Z a1 a2 u_own_a1 u_base_a1 w15 w16 u_baseSize_a1 u_ownSize_a1 h0 n0 _ T22.heap _
  have fx24 := (fx20.wr W22)
  have fx25 := ((fx9.other W12 (Or.inr (slot_ne (Or.inl (hw _ (List.mem_of_getElem? (i := 12) rfl))) (Or.inr (hw _ (List.mem_of_getElem? (i := 14) rfl))) (by decide) (t := (.array .int)) (t' := (.object "com/example/nestor/nestor/IntOverlay")) (by decide) (by decide)))).other W22 (Or.inr (slot_ne (Or.inl (hw _ (List.mem_of_getElem? (i := 12) rfl))) (Or.inr (hw _ (List.mem_of_getElem? (i := 16) rfl))) (by decide) (t := (.array .int)) (t' := .int) (by decide) (by decide))))
  have fx26 := (fx13.other W22 (Or.inr (slot_ne (Or.inr (hw _ (List.mem_of_getElem? (i := 14) rfl))) (Or.inr (hw _ (List.mem_of_getElem? (i := 16) rfl))) (by decide) (t := (.object "com/example/nestor/nestor/IntOverlay")) (t' := .int) (by decide) (by decide))))
  have fx27 := ((((F_ownSize_a1.ext E4).other W8 (Or.inr (slot_ne (Or.inl (hw _ (List.mem_of_getElem? (i := 23) rfl))) (Or.inl (hw _ (List.mem_of_getElem? (i := 12) rfl))) (by decide) (t := .int) (t' := (.array .int)) (by decide) (by decide)))).other W12 (Or.inr (slot_ne (Or.inl (hw _ (List.mem_of_getElem? (i := 23) rfl))) (Or.inr (hw _ (List.mem_of_getElem? (i := 14) rfl))) (by decide) (t := .int) (t' := (.object "com/example/nestor/nestor/IntOverlay")) (by decide) (by decide)))).other W22 (Or.inr (slot_ne (Or.inl (hw _ (List.mem_of_getElem? (i := 23) rfl))) (Or.inr (hw _ (List.mem_of_getElem? (i := 16) rfl))) (by decide) (t := .int) (t' := .int) (by decide) (by decide))))
  have fx28 := (((fx5.other W8 (Ne.symm (Nat.ne_of_lt (Nat.lt_of_lt_of_le E_a1.lt sz_b4)))).other W12 (Ne.symm (Nat.ne_of_lt (Nat.lt_of_lt_of_le E_a1.lt sz_b4)))).other W22 (Ne.symm (Nat.ne_of_lt (Nat.lt_of_lt_of_le E_a1.lt sz_b4))))
  rw [e22]
  exact ⟨b4, rfl, N22, K22, sz_b4, fx24, fx25, fx26, fx23, fx27, fx28⟩
theorem d3_0 : decode prog_5_method_3_code 0 = .ok (.aload_n 0, 1) := by decide +kernel
theorem d3_1 : decode prog_5_method_3_code 1 = .ok (.getfield 25, 3) := by decide +kernel
theorem d3_4 : decode prog_5_method_3_code 4 = .ok (.aload_n 0, 1) := by decide +kernel
theorem d3_5 : decode prog_5_method_3_code 5 = .ok (.getfield 7, 3) := by decide +kernel
theorem d3_8 : decode prog_5_method_3_code 8 = .ok (.arraylength, 1) := by decide +kernel
theorem d3_9 : decode prog_5_method_3_code 9 = .ok (.if_icmp .ne 20, 3) := by decide +kernel
theorem d3_29 : decode prog_5_method_3_code 29 = .ok (.aload_n 0, 1) := by decide +kernel
theorem d3_30 : decode prog_5_method_3_code 30 = .ok (.getfield 7, 3) := by decide +kernel
theorem d3_33 : decode prog_5_method_3_code 33 = .ok (.aload_n 0, 1) := by decide +kernel
theorem d3_34 : decode prog_5_method_3_code 34 = .ok (.dup, 1) := by decide +kernel
theorem d3_35 : decode prog_5_method_3_code 35 = .ok (.getfield 25, 3) := by decide +kernel
theorem d3_38 : decode prog_5_method_3_code 38 = .ok (.dup_x1, 1) := by decide +kernel
theorem d3_39 : decode prog_5_method_3_code 39 = .ok (.iconst 1, 1) := by decide +kernel
theorem d3_40 : decode prog_5_method_3_code 40 = .ok (.iadd, 1) := by decide +kernel
theorem d3_41 : decode prog_5_method_3_code 41 = .ok (.putfield 25, 3) := by decide +kernel
theorem d3_44 : decode prog_5_method_3_code 44 = .ok (.iload_n 1, 1) := by decide +kernel
theorem d3_45 : decode prog_5_method_3_code 45 = .ok (.iastore, 1) := by decide +kernel
theorem d3_46 : decode prog_5_method_3_code 46 = .ok (.return_, 1) := by decide +kernel
def Q_rm3_0 (Z : State) (a1 : Addr) (p2 : Int32) (w4 : Addr) (f_w4 : Nat → Value) (u_base_a1 : Value) (u_baseSize_a1 : Value) (h0 : Heap) (n0 : Nat) (v : Option Value) (h : Heap) (L : List Loc) : Prop := v = none ∧ Fr n0 L ∧ Keep h0 h [a1, w4] ∧ Fld Z h a1 "com/example/nestor/nestor/IntOverlay" "ownSize" "I" (.int (1 : Int32)) ∧ Fld Z h a1 "com/example/nestor/nestor/IntOverlay" "own" "[I" (.ref w4) ∧ Exa Z h a1 "com/example/nestor/nestor/IntOverlay" ∧ Fld Z h a1 "com/example/nestor/nestor/IntOverlay" "base" "Lcom/example/nestor/nestor/IntOverlay;" u_base_a1 ∧ Fld Z h a1 "com/example/nestor/nestor/IntOverlay" "baseSize" "I" u_baseSize_a1 ∧ Ary Z h w4 .int 8 (fun i => if i = 0 then (.int p2) else f_w4 i)
theorem ef_rm3_0 (m : MethodId) (x0 : Addr) (x1 : Int32) : entryFrame m #[(.ref x0), (.int x1)] 2 = mkF m 0 #[.val (.ref x0), .val (.int x1)] [] := by first | (simp [entryFrame, mkF, argsToLocals, Value.category]; done) | rfl
set_option maxRecDepth 65536 in
set_option maxHeartbeats 40000000 in
theorem rm3_0 (l : Launch) (Z : State) (a0 : Array Value) (hw : ∀ d ∈ tables_1, d.before a0 Z = true) (ws : List Jvm.Cond) (a1 : Addr) (p2 : Int32) (w4 : Addr) (f_w4 : Nat → Value) (u_base_a1 : Value) (u_baseSize_a1 : Value) (h0 : Heap) (n0 : Nat) (Z0 : n0 ≤ h0.size) (F_ownSize_a1 : Fld Z h0 a1 "com/example/nestor/nestor/IntOverlay" "ownSize" "I" (.int (0 : Int32))) (F_own_a1 : Fld Z h0 a1 "com/example/nestor/nestor/IntOverlay" "own" "[I" (.ref w4)) (A_w4 : Ary Z h0 w4 .int 8 f_w4) (E_a1 : Exa Z h0 a1 "com/example/nestor/nestor/IntOverlay") (g_a1 : n0 ≤ a1) (g_w4 : n0 ≤ w4) (F_base_a1 : Fld Z h0 a1 "com/example/nestor/nestor/IntOverlay" "base" "Lcom/example/nestor/nestor/IntOverlay;" u_base_a1) (F_baseSize_a1 : Fld Z h0 a1 "com/example/nestor/nestor/IntOverlay" "baseSize" "I" u_baseSize_a1) :
    MetFree l (⟨"com/example/nestor/nestor/IntOverlay", "add", "(I)V"⟩ : MethodName) (head1 (Jvm.Cond.code (⟨"com/example/nestor/nestor/IntOverlay", "add", "(I)V"⟩ : MethodName) prog_5_method_3_code 2 none :: ws) ({ frames := 0, cells := 0, slots := 0, locals := 0 } : Room)) (fun a U => a = #[(.ref a1), (.int p2)] ∧ Z.Warmed39 U.vm ∧ U.heap = h0) (fun _ _ _ _ _ => True) (fun _ U o U' => ∃ v L, o = .returned v ∧ Q_rm3_0 Z a1 p2 w4 f_w4 u_base_a1 u_baseSize_a1 h0 n0 v U'.heap L ∧ FrameEnd U o U' L ({ frames := 0, cells := 0, slots := 0, locals := 0 } : Room).cells ({ frames := 0, cells := 0, slots := 0, locals := 0 } : Room).slots) := by
  refine MetFree.of_bodySF (plainFor_of_name pn_0) hisR ?_
  intro p e s m args below meth c s₁ Bd hml0 hP hK
  obtain ⟨rfl, hZ, hh⟩ := hP
  have hx := Bd.exec
  have hby := Bd.bytes
  have hml : c.maxLocals = 2 := hml0
  have hown : s.vm.findClass "com/example/nestor/nestor/IntOverlay" = some m.cls := findClass_of_methodNamed Bd.named
  have hnm := (name_of_methodNamed Bd.named Bd.method).1
  have X0 : Stand p l e ({ frames := 0, cells := 0, slots := 0, locals := 0 } : Room) s m #[(.ref a1), (.int p2)] below meth c s₁ [] 0 0 := Stand.of_body Bd
  have e0 : s₁.heap = h0 := by rw [← hh, Bd.state]; rfl
  have N0 := Fr.nil n0
  show Run p e below s 0 0 (Q_rm3_0 Z a1 p2 w4 f_w4 u_base_a1 u_baseSize_a1 h0 n0) (s₁.setTop (entryFrame m #[(.ref a1), (.int p2)] 2))
  refine Run.go (fun _ k => castTop (ef_rm3_0 m a1 p2) k) ?_
  show Run p e below s 0 0 (Q_rm3_0 Z a1 p2 w4 f_w4 u_base_a1 u_baseSize_a1 h0 n0) (s₁.setTop (mkF m 0 #[.val (.ref a1), .val (.int p2)] []))
  refine Run.go (fun _ k => XS.aloadN X0.here hx rfl (hb hby d3_0) rfl rfl k) ?_
  show Run p e below s 0 0 (Q_rm3_0 Z a1 p2 w4 f_w4 u_base_a1 u_baseSize_a1 h0 n0) (s₁.setTop (mkF m 1 #[.val (.ref a1), .val (.int p2)] [(.ref a1)]))
  obtain ⟨T3, X3, e3, st3⟩ := getF X0 hx hZ hown (host := "") (Or.inl (hw _ (List.mem_of_getElem? (i := 22) rfl))) Via.refl e0 F_ownSize_a1 (g := (mkF m 1 #[.val (.ref a1), .val (.int p2)] [(.ref a1)])) rfl rfl (hb hby d3_1)
  refine Run.go st3 ?_
  show Run p e below s 0 0 (Q_rm3_0 Z a1 p2 w4 f_w4 u_base_a1 u_baseSize_a1 h0 n0) (T3.setTop (mkF m 4 #[.val (.ref a1), .val (.int p2)] [(.int (0 : Int32))]))
  refine Run.go (fun _ k => XS.aloadN X3.here hx rfl (hb hby d3_4) rfl rfl k) ?_
  show Run p e below s 0 0 (Q_rm3_0 Z a1 p2 w4 f_w4 u_base_a1 u_baseSize_a1 h0 n0) (T3.setTop (mkF m 5 #[.val (.ref a1), .val (.int p2)] [(.ref a1), (.int (0 : Int32))]))
  obtain ⟨T5, X5, e5, st5⟩ := getF X3 hx hZ hown (host := "") (Or.inl (hw _ (List.mem_of_getElem? (i := 11) rfl))) Via.refl e3 F_own_a1 (g := (mkF m 5 #[.val (.ref a1), .val (.int p2)] [(.ref a1), (.int (0 : Int32))])) rfl rfl (hb hby d3_5)
  refine Run.go st5 ?_
  show Run p e below s 0 0 (Q_rm3_0 Z a1 p2 w4 f_w4 u_base_a1 u_baseSize_a1 h0 n0) (T5.setTop (mkF m 8 #[.val (.ref a1), .val (.int p2)] [(.ref w4), (.int (0 : Int32))]))
  refine Run.go (fun _ k => ary_len X5 hx hZ e5 A_w4 (g := (mkF m 8 #[.val (.ref a1), .val (.int p2)] [(.ref w4), (.int (0 : Int32))])) rfl rfl (hb hby d3_8) (z := (8 : Int32)) (by decide) _ k) ?_
  show Run p e below s 0 0 (Q_rm3_0 Z a1 p2 w4 f_w4 u_base_a1 u_baseSize_a1 h0 n0) (T5.setTop (mkF m 9 #[.val (.ref a1), .val (.int p2)] [(.int (8 : Int32)), (.int (0 : Int32))]))
  refine Run.go (fun _ k => XS.icmpYes X5.here hx rfl (pc0 := 9) (pc' := 29) rfl (hb hby d3_9) rfl (feq (by decide)).2 (by decide) (by decide) k) ?_
  show Run p e below s 0 0 (Q_rm3_0 Z a1 p2 w4 f_w4 u_base_a1 u_baseSize_a1 h0 n0) (T5.setTop (mkF m 29 #[.val (.ref a1), .val (.int p2)] []))
  refine Run.go (fun _ k => XS.aloadN X5.here hx rfl (hb hby d3_29) rfl rfl k) ?_
  show Run p e below s 0 0 (Q_rm3_0 Z a1 p2 w4 f_w4 u_base_a1 u_baseSize_a1 h0 n0) (T5.setTop (mkF m 30 #[.val (.ref a1), .val (.int p2)] [(.ref a1)]))
  obtain ⟨T6, X6, e6, st6⟩ := getF X5 hx hZ hown (host := "") (Or.inl (hw _ (List.mem_of_getElem? (i := 11) rfl))) Via.refl e5 F_own_a1 (g := (mkF m 30 #[.val (.ref a1), .val (.int p2)] [(.ref a1)])) rfl rfl (hb hby d3_30)
  refine Run.go st6 ?_
  show Run p e below s 0 0 (Q_rm3_0 Z a1 p2 w4 f_w4 u_base_a1 u_baseSize_a1 h0 n0) (T6.setTop (mkF m 33 #[.val (.ref a1), .val (.int p2)] [(.ref w4)]))
  refine Run.go (fun _ k => XS.aloadN X6.here hx rfl (hb hby d3_33) rfl rfl k) ?_
  show Run p e below s 0 0 (Q_rm3_0 Z a1 p2 w4 f_w4 u_base_a1 u_baseSize_a1 h0 n0) (T6.setTop (mkF m 34 #[.val (.ref a1), .val (.int p2)] [(.ref a1), (.ref w4)]))
  refine Run.go (fun _ k => XS.dup X6.here hx rfl (hb hby d3_34) rfl rfl k) ?_
  show Run p e below s 0 0 (Q_rm3_0 Z a1 p2 w4 f_w4 u_base_a1 u_baseSize_a1 h0 n0) (T6.setTop (mkF m 35 #[.val (.ref a1), .val (.int p2)] [(.ref a1), (.ref a1), (.ref w4)]))
  obtain ⟨T7, X7, e7, st7⟩ := getF X6 hx hZ hown (host := "") (Or.inl (hw _ (List.mem_of_getElem? (i := 22) rfl))) Via.refl e6 F_ownSize_a1 (g := (mkF m 35 #[.val (.ref a1), .val (.int p2)] [(.ref a1), (.ref a1), (.ref w4)])) rfl rfl (hb hby d3_35)
  refine Run.go st7 ?_
  show Run p e below s 0 0 (Q_rm3_0 Z a1 p2 w4 f_w4 u_base_a1 u_baseSize_a1 h0 n0) (T7.setTop (mkF m 38 #[.val (.ref a1), .val (.int p2)] [(.int (0 : Int32)), (.ref a1), (.ref w4)]))
  refine Run.go (fun _ k => XS.dupX1 X7.here hx rfl (hb hby d3_38) rfl rfl rfl k) ?_
  show Run p e below s 0 0 (Q_rm3_0 Z a1 p2 w4 f_w4 u_base_a1 u_baseSize_a1 h0 n0) (T7.setTop (mkF m 39 #[.val (.ref a1), .val (.int p2)] [(.int (0 : Int32)), (.ref a1), (.int (0 : Int32)), (.ref w4)]))
  refine Run.go (fun _ k => XS.iconst X7.here hx rfl (hb hby d3_39) k) ?_
  show Run p e below s 0 0 (Q_rm3_0 Z a1 p2 w4 f_w4 u_base_a1 u_baseSize_a1 h0 n0) (T7.setTop (mkF m 40 #[.val (.ref a1), .val (.int p2)] [(.int (1 : Int32)), (.int (0 : Int32)), (.ref a1), (.int (0 : Int32)), (.ref w4)]))
  refine Run.go (fun _ k => XS.iadd X7.here hx rfl (hb hby d3_40) rfl k) ?_
  show Run p e below s 0 0 (Q_rm3_0 Z a1 p2 w4 f_w4 u_base_a1 u_baseSize_a1 h0 n0) (T7.setTop (mkF m 41 #[.val (.ref a1), .val (.int p2)] [(.int (1 : Int32)), (.ref a1), (.int (0 : Int32)), (.ref w4)]))
  obtain ⟨T8, h8, X8, e8, W8, st8⟩ := putF X7 hx hZ hown (host := "") (Or.inl (hw _ (List.mem_of_getElem? (i := 22) rfl))) Via.refl e7 F_ownSize_a1 E_a1 (Or.inl (hw _ (List.mem_of_getElem? (i := 23) rfl))) (hw _ (List.mem_of_getElem? (i := 2) rfl)) (ty := .int) (by decide) rfl rfl (g := (mkF m 41 #[.val (.ref a1), .val (.int p2)] [(.int (1 : Int32)), (.ref a1), (.int (0 : Int32)), (.ref w4)])) rfl rfl (hb hby d3_41)
  have N8 := Fr.snoc X8 N0 g_a1
  have Z8 : n0 ≤ h8.size := Nat.le_trans Z0 (Keep.of_wr W8).1
  have K8 : Keep h0 h8 [a1, w4] := (Keep.refl h0 [a1, w4]).wr W8 (Or.inl (List.mem_of_getElem? (i := 0) rfl))
  have fx9 := F_ownSize_a1.same W8
  refine Run.go st8 ?_
  show Run p e below s 0 0 (Q_rm3_0 Z a1 p2 w4 f_w4 u_base_a1 u_baseSize_a1 h0 n0) (T8.setTop (mkF m 44 #[.val (.ref a1), .val (.int p2)] [(.int (0 : Int32)), (.ref w4)]))
  refine Run.go (fun _ k => XS.iloadN X8.here hx rfl (hb hby d3_44) rfl  k) ?_
  show Run p e below s 0 0 (Q_rm3_0 Z a1 p2 w4 f_w4 u_base_a1 u_baseSize_a1 h0 n0) (T8.setTop (mkF m 45 #[.val (.ref a1), .val (.int p2)] [(.int p2), (.int (0 : Int32)), (.ref w4)]))
  have fx10 := (A_w4.other W8 (Ary.ne A_w4 E_a1 (hw _ (List.mem_of_getElem? (i := 2) rfl))))
  obtain ⟨T11, h11, X11, e11, W11, st11⟩ := ary_iset X8 hx hZ e8 fx10 (by decide) (by decide) (g := (mkF m 45 #[.val (.ref a1), .val (.int p2)] [(.int p2), (.int (0 : Int32)), (.ref w4)])) rfl rfl (hb hby d3_45)
  have N11 := Fr.snoc X11 N8 g_w4
  have Z11 : n0 ≤ h11.size := Nat.le_trans Z8 (Keep.of_wr W11).1
  have K11 : Keep h0 h11 [a1, w4] := K8.wr W11 (Or.inl (List.mem_of_getElem? (i := 1) rfl))
  have fx12 : Ary Z h11 w4 .int 8 (fun i => if i = 0 then (.int p2) else f_w4 i) := fx10.same W11
  refine Run.go st11 ?_
  show Run p e below s 0 0 (Q_rm3_0 Z a1 p2 w4 f_w4 u_base_a1 u_baseSize_a1 h0 n0) (T11.setTop (mkF m 46 #[.val (.ref a1), .val (.int p2)] []))
  refine Run.ret0 X11 hx Bd.returns Bd.notSynchronized (hb hby d3_46) (by decide) (by decide) ?_
  show Q_rm3_0 Z a1 p2 w4 f_w4 u_base_a1 u_baseSize_a1 h0 n0 _ T11.heap _
  have fx13 := (fx9.other W11 (Or.inl (Ne.symm (Ary.ne A_w4 E_a1 (hw _ (List.mem_of_getElem? (i := 2) rfl))))))
  have fx14 := ((F_own_a1.other W8 (Or.inr (slot_ne (Or.inl (hw _ (List.mem_of_getElem? (i := 12) rfl))) (Or.inl (hw _ (List.mem_of_getElem? (i := 23) rfl))) (by decide) (t := (.array .int)) (t' := .int) (by decide) (by decide)))).other W11 (Or.inl (Ne.symm (Ary.ne A_w4 E_a1 (hw _ (List.mem_of_getElem? (i := 2) rfl))))))
  have fx15 := ((E_a1.wr W8).wr W11)
  have fx16 := ((F_base_a1.other W8 (Or.inr (slot_ne (Or.inr (hw _ (List.mem_of_getElem? (i := 14) rfl))) (Or.inl (hw _ (List.mem_of_getElem? (i := 23) rfl))) (by decide) (t := (.object "com/example/nestor/nestor/IntOverlay")) (t' := .int) (by decide) (by decide)))).other W11 (Or.inl (Ne.symm (Ary.ne A_w4 E_a1 (hw _ (List.mem_of_getElem? (i := 2) rfl))))))
  have fx17 := ((F_baseSize_a1.other W8 (Or.inr (slot_ne (Or.inr (hw _ (List.mem_of_getElem? (i := 16) rfl))) (Or.inl (hw _ (List.mem_of_getElem? (i := 23) rfl))) (by decide) (t := .int) (t' := .int) (by decide) (by decide)))).other W11 (Or.inl (Ne.symm (Ary.ne A_w4 E_a1 (hw _ (List.mem_of_getElem? (i := 2) rfl))))))
  rw [e11]
  exact ⟨rfl, N11, K11, fx13, fx14, fx15, fx16, fx17, fx12⟩
def Q_rm3_1 (Z : State) (a1 : Addr) (p2 : Int32) (w4 : Addr) (f_w4 : Nat → Value) (u_base_a1 : Value) (u_baseSize_a1 : Value) (h0 : Heap) (n0 : Nat) (v : Option Value) (h : Heap) (L : List Loc) : Prop := v = none ∧ Fr n0 L ∧ Keep h0 h [a1, w4] ∧ Fld Z h a1 "com/example/nestor/nestor/IntOverlay" "ownSize" "I" (.int (2 : Int32)) ∧ Fld Z h a1 "com/example/nestor/nestor/IntOverlay" "own" "[I" (.ref w4) ∧ Exa Z h a1 "com/example/nestor/nestor/IntOverlay" ∧ Fld Z h a1 "com/example/nestor/nestor/IntOverlay" "base" "Lcom/example/nestor/nestor/IntOverlay;" u_base_a1 ∧ Fld Z h a1 "com/example/nestor/nestor/IntOverlay" "baseSize" "I" u_baseSize_a1 ∧ Ary Z h w4 .int 8 (fun i => if i = 1 then (.int p2) else f_w4 i)
theorem ef_rm3_1 (m : MethodId) (x0 : Addr) (x1 : Int32) : entryFrame m #[(.ref x0), (.int x1)] 2 = mkF m 0 #[.val (.ref x0), .val (.int x1)] [] := by first | (simp [entryFrame, mkF, argsToLocals, Value.category]; done) | rfl
set_option maxRecDepth 65536 in
set_option maxHeartbeats 40000000 in
theorem rm3_1 (l : Launch) (Z : State) (a0 : Array Value) (hw : ∀ d ∈ tables_1, d.before a0 Z = true) (ws : List Jvm.Cond) (a1 : Addr) (p2 : Int32) (w4 : Addr) (f_w4 : Nat → Value) (u_base_a1 : Value) (u_baseSize_a1 : Value) (h0 : Heap) (n0 : Nat) (Z0 : n0 ≤ h0.size) (F_ownSize_a1 : Fld Z h0 a1 "com/example/nestor/nestor/IntOverlay" "ownSize" "I" (.int (1 : Int32))) (F_own_a1 : Fld Z h0 a1 "com/example/nestor/nestor/IntOverlay" "own" "[I" (.ref w4)) (A_w4 : Ary Z h0 w4 .int 8 f_w4) (E_a1 : Exa Z h0 a1 "com/example/nestor/nestor/IntOverlay") (g_a1 : n0 ≤ a1) (g_w4 : n0 ≤ w4) (F_base_a1 : Fld Z h0 a1 "com/example/nestor/nestor/IntOverlay" "base" "Lcom/example/nestor/nestor/IntOverlay;" u_base_a1) (F_baseSize_a1 : Fld Z h0 a1 "com/example/nestor/nestor/IntOverlay" "baseSize" "I" u_baseSize_a1) :
    MetFree l (⟨"com/example/nestor/nestor/IntOverlay", "add", "(I)V"⟩ : MethodName) (head1 (Jvm.Cond.code (⟨"com/example/nestor/nestor/IntOverlay", "add", "(I)V"⟩ : MethodName) prog_5_method_3_code 2 none :: ws) ({ frames := 0, cells := 0, slots := 0, locals := 0 } : Room)) (fun a U => a = #[(.ref a1), (.int p2)] ∧ Z.Warmed39 U.vm ∧ U.heap = h0) (fun _ _ _ _ _ => True) (fun _ U o U' => ∃ v L, o = .returned v ∧ Q_rm3_1 Z a1 p2 w4 f_w4 u_base_a1 u_baseSize_a1 h0 n0 v U'.heap L ∧ FrameEnd U o U' L ({ frames := 0, cells := 0, slots := 0, locals := 0 } : Room).cells ({ frames := 0, cells := 0, slots := 0, locals := 0 } : Room).slots) := by
  refine MetFree.of_bodySF (plainFor_of_name pn_0) hisR ?_
  intro p e s m args below meth c s₁ Bd hml0 hP hK
  obtain ⟨rfl, hZ, hh⟩ := hP
  have hx := Bd.exec
  have hby := Bd.bytes
  have hml : c.maxLocals = 2 := hml0
  have hown : s.vm.findClass "com/example/nestor/nestor/IntOverlay" = some m.cls := findClass_of_methodNamed Bd.named
  have hnm := (name_of_methodNamed Bd.named Bd.method).1
  have X0 : Stand p l e ({ frames := 0, cells := 0, slots := 0, locals := 0 } : Room) s m #[(.ref a1), (.int p2)] below meth c s₁ [] 0 0 := Stand.of_body Bd
  have e0 : s₁.heap = h0 := by rw [← hh, Bd.state]; rfl
  have N0 := Fr.nil n0
  show Run p e below s 0 0 (Q_rm3_1 Z a1 p2 w4 f_w4 u_base_a1 u_baseSize_a1 h0 n0) (s₁.setTop (entryFrame m #[(.ref a1), (.int p2)] 2))
  refine Run.go (fun _ k => castTop (ef_rm3_1 m a1 p2) k) ?_
  show Run p e below s 0 0 (Q_rm3_1 Z a1 p2 w4 f_w4 u_base_a1 u_baseSize_a1 h0 n0) (s₁.setTop (mkF m 0 #[.val (.ref a1), .val (.int p2)] []))
  refine Run.go (fun _ k => XS.aloadN X0.here hx rfl (hb hby d3_0) rfl rfl k) ?_
  show Run p e below s 0 0 (Q_rm3_1 Z a1 p2 w4 f_w4 u_base_a1 u_baseSize_a1 h0 n0) (s₁.setTop (mkF m 1 #[.val (.ref a1), .val (.int p2)] [(.ref a1)]))
  obtain ⟨T3, X3, e3, st3⟩ := getF X0 hx hZ hown (host := "") (Or.inl (hw _ (List.mem_of_getElem? (i := 22) rfl))) Via.refl e0 F_ownSize_a1 (g := (mkF m 1 #[.val (.ref a1), .val (.int p2)] [(.ref a1)])) rfl rfl (hb hby d3_1)
  refine Run.go st3 ?_
  show Run p e below s 0 0 (Q_rm3_1 Z a1 p2 w4 f_w4 u_base_a1 u_baseSize_a1 h0 n0) (T3.setTop (mkF m 4 #[.val (.ref a1), .val (.int p2)] [(.int (1 : Int32))]))
  refine Run.go (fun _ k => XS.aloadN X3.here hx rfl (hb hby d3_4) rfl rfl k) ?_
  show Run p e below s 0 0 (Q_rm3_1 Z a1 p2 w4 f_w4 u_base_a1 u_baseSize_a1 h0 n0) (T3.setTop (mkF m 5 #[.val (.ref a1), .val (.int p2)] [(.ref a1), (.int (1 : Int32))]))
  obtain ⟨T5, X5, e5, st5⟩ := getF X3 hx hZ hown (host := "") (Or.inl (hw _ (List.mem_of_getElem? (i := 11) rfl))) Via.refl e3 F_own_a1 (g := (mkF m 5 #[.val (.ref a1), .val (.int p2)] [(.ref a1), (.int (1 : Int32))])) rfl rfl (hb hby d3_5)
  refine Run.go st5 ?_
  show Run p e below s 0 0 (Q_rm3_1 Z a1 p2 w4 f_w4 u_base_a1 u_baseSize_a1 h0 n0) (T5.setTop (mkF m 8 #[.val (.ref a1), .val (.int p2)] [(.ref w4), (.int (1 : Int32))]))
  refine Run.go (fun _ k => ary_len X5 hx hZ e5 A_w4 (g := (mkF m 8 #[.val (.ref a1), .val (.int p2)] [(.ref w4), (.int (1 : Int32))])) rfl rfl (hb hby d3_8) (z := (8 : Int32)) (by decide) _ k) ?_
  show Run p e below s 0 0 (Q_rm3_1 Z a1 p2 w4 f_w4 u_base_a1 u_baseSize_a1 h0 n0) (T5.setTop (mkF m 9 #[.val (.ref a1), .val (.int p2)] [(.int (8 : Int32)), (.int (1 : Int32))]))
  refine Run.go (fun _ k => XS.icmpYes X5.here hx rfl (pc0 := 9) (pc' := 29) rfl (hb hby d3_9) rfl (feq (by decide)).2 (by decide) (by decide) k) ?_
  show Run p e below s 0 0 (Q_rm3_1 Z a1 p2 w4 f_w4 u_base_a1 u_baseSize_a1 h0 n0) (T5.setTop (mkF m 29 #[.val (.ref a1), .val (.int p2)] []))
  refine Run.go (fun _ k => XS.aloadN X5.here hx rfl (hb hby d3_29) rfl rfl k) ?_
  show Run p e below s 0 0 (Q_rm3_1 Z a1 p2 w4 f_w4 u_base_a1 u_baseSize_a1 h0 n0) (T5.setTop (mkF m 30 #[.val (.ref a1), .val (.int p2)] [(.ref a1)]))
  obtain ⟨T6, X6, e6, st6⟩ := getF X5 hx hZ hown (host := "") (Or.inl (hw _ (List.mem_of_getElem? (i := 11) rfl))) Via.refl e5 F_own_a1 (g := (mkF m 30 #[.val (.ref a1), .val (.int p2)] [(.ref a1)])) rfl rfl (hb hby d3_30)
  refine Run.go st6 ?_
  show Run p e below s 0 0 (Q_rm3_1 Z a1 p2 w4 f_w4 u_base_a1 u_baseSize_a1 h0 n0) (T6.setTop (mkF m 33 #[.val (.ref a1), .val (.int p2)] [(.ref w4)]))
  refine Run.go (fun _ k => XS.aloadN X6.here hx rfl (hb hby d3_33) rfl rfl k) ?_
  show Run p e below s 0 0 (Q_rm3_1 Z a1 p2 w4 f_w4 u_base_a1 u_baseSize_a1 h0 n0) (T6.setTop (mkF m 34 #[.val (.ref a1), .val (.int p2)] [(.ref a1), (.ref w4)]))
  refine Run.go (fun _ k => XS.dup X6.here hx rfl (hb hby d3_34) rfl rfl k) ?_
  show Run p e below s 0 0 (Q_rm3_1 Z a1 p2 w4 f_w4 u_base_a1 u_baseSize_a1 h0 n0) (T6.setTop (mkF m 35 #[.val (.ref a1), .val (.int p2)] [(.ref a1), (.ref a1), (.ref w4)]))
  obtain ⟨T7, X7, e7, st7⟩ := getF X6 hx hZ hown (host := "") (Or.inl (hw _ (List.mem_of_getElem? (i := 22) rfl))) Via.refl e6 F_ownSize_a1 (g := (mkF m 35 #[.val (.ref a1), .val (.int p2)] [(.ref a1), (.ref a1), (.ref w4)])) rfl rfl (hb hby d3_35)
  refine Run.go st7 ?_
  show Run p e below s 0 0 (Q_rm3_1 Z a1 p2 w4 f_w4 u_base_a1 u_baseSize_a1 h0 n0) (T7.setTop (mkF m 38 #[.val (.ref a1), .val (.int p2)] [(.int (1 : Int32)), (.ref a1), (.ref w4)]))
  refine Run.go (fun _ k => XS.dupX1 X7.here hx rfl (hb hby d3_38) rfl rfl rfl k) ?_
  show Run p e below s 0 0 (Q_rm3_1 Z a1 p2 w4 f_w4 u_base_a1 u_baseSize_a1 h0 n0) (T7.setTop (mkF m 39 #[.val (.ref a1), .val (.int p2)] [(.int (1 : Int32)), (.ref a1), (.int (1 : Int32)), (.ref w4)]))
  refine Run.go (fun _ k => XS.iconst X7.here hx rfl (hb hby d3_39) k) ?_
  show Run p e below s 0 0 (Q_rm3_1 Z a1 p2 w4 f_w4 u_base_a1 u_baseSize_a1 h0 n0) (T7.setTop (mkF m 40 #[.val (.ref a1), .val (.int p2)] [(.int (1 : Int32)), (.int (1 : Int32)), (.ref a1), (.int (1 : Int32)), (.ref w4)]))
  refine Run.go (fun _ k => XS.iadd X7.here hx rfl (hb hby d3_40) rfl k) ?_
  show Run p e below s 0 0 (Q_rm3_1 Z a1 p2 w4 f_w4 u_base_a1 u_baseSize_a1 h0 n0) (T7.setTop (mkF m 41 #[.val (.ref a1), .val (.int p2)] [(.int (2 : Int32)), (.ref a1), (.int (1 : Int32)), (.ref w4)]))
  obtain ⟨T8, h8, X8, e8, W8, st8⟩ := putF X7 hx hZ hown (host := "") (Or.inl (hw _ (List.mem_of_getElem? (i := 22) rfl))) Via.refl e7 F_ownSize_a1 E_a1 (Or.inl (hw _ (List.mem_of_getElem? (i := 23) rfl))) (hw _ (List.mem_of_getElem? (i := 2) rfl)) (ty := .int) (by decide) rfl rfl (g := (mkF m 41 #[.val (.ref a1), .val (.int p2)] [(.int (2 : Int32)), (.ref a1), (.int (1 : Int32)), (.ref w4)])) rfl rfl (hb hby d3_41)
  have N8 := Fr.snoc X8 N0 g_a1
  have Z8 : n0 ≤ h8.size := Nat.le_trans Z0 (Keep.of_wr W8).1
  have K8 : Keep h0 h8 [a1, w4] := (Keep.refl h0 [a1, w4]).wr W8 (Or.inl (List.mem_of_getElem? (i := 0) rfl))
  have fx9 := F_ownSize_a1.same W8
  refine Run.go st8 ?_
  show Run p e below s 0 0 (Q_rm3_1 Z a1 p2 w4 f_w4 u_base_a1 u_baseSize_a1 h0 n0) (T8.setTop (mkF m 44 #[.val (.ref a1), .val (.int p2)] [(.int (1 : Int32)), (.ref w4)]))
  refine Run.go (fun _ k => XS.iloadN X8.here hx rfl (hb hby d3_44) rfl  k) ?_
  show Run p e below s 0 0 (Q_rm3_1 Z a1 p2 w4 f_w4 u_base_a1 u_baseSize_a1 h0 n0) (T8.setTop (mkF m 45 #[.val (.ref a1), .val (.int p2)] [(.int p2), (.int (1 : Int32)), (.ref w4)]))
  have fx10 := (A_w4.other W8 (Ary.ne A_w4 E_a1 (hw _ (List.mem_of_getElem? (i := 2) rfl))))
  obtain ⟨T11, h11, X11, e11, W11, st11⟩ := ary_iset X8 hx hZ e8 fx10 (by decide) (by decide) (g := (mkF m 45 #[.val (.ref a1), .val (.int p2)] [(.int p2), (.int (1 : Int32)), (.ref w4)])) rfl rfl (hb hby d3_45)
  have N11 := Fr.snoc X11 N8 g_w4
  have Z11 : n0 ≤ h11.size := Nat.le_trans Z8 (Keep.of_wr W11).1
  have K11 : Keep h0 h11 [a1, w4] := K8.wr W11 (Or.inl (List.mem_of_getElem? (i := 1) rfl))
  have fx12 : Ary Z h11 w4 .int 8 (fun i => if i = 1 then (.int p2) else f_w4 i) := fx10.same W11
  refine Run.go st11 ?_
  show Run p e below s 0 0 (Q_rm3_1 Z a1 p2 w4 f_w4 u_base_a1 u_baseSize_a1 h0 n0) (T11.setTop (mkF m 46 #[.val (.ref a1), .val (.int p2)] []))
  refine Run.ret0 X11 hx Bd.returns Bd.notSynchronized (hb hby d3_46) (by decide) (by decide) ?_
  show Q_rm3_1 Z a1 p2 w4 f_w4 u_base_a1 u_baseSize_a1 h0 n0 _ T11.heap _
  have fx13 := (fx9.other W11 (Or.inl (Ne.symm (Ary.ne A_w4 E_a1 (hw _ (List.mem_of_getElem? (i := 2) rfl))))))
  have fx14 := ((F_own_a1.other W8 (Or.inr (slot_ne (Or.inl (hw _ (List.mem_of_getElem? (i := 12) rfl))) (Or.inl (hw _ (List.mem_of_getElem? (i := 23) rfl))) (by decide) (t := (.array .int)) (t' := .int) (by decide) (by decide)))).other W11 (Or.inl (Ne.symm (Ary.ne A_w4 E_a1 (hw _ (List.mem_of_getElem? (i := 2) rfl))))))
  have fx15 := ((E_a1.wr W8).wr W11)
  have fx16 := ((F_base_a1.other W8 (Or.inr (slot_ne (Or.inr (hw _ (List.mem_of_getElem? (i := 14) rfl))) (Or.inl (hw _ (List.mem_of_getElem? (i := 23) rfl))) (by decide) (t := (.object "com/example/nestor/nestor/IntOverlay")) (t' := .int) (by decide) (by decide)))).other W11 (Or.inl (Ne.symm (Ary.ne A_w4 E_a1 (hw _ (List.mem_of_getElem? (i := 2) rfl))))))
  have fx17 := ((F_baseSize_a1.other W8 (Or.inr (slot_ne (Or.inr (hw _ (List.mem_of_getElem? (i := 16) rfl))) (Or.inl (hw _ (List.mem_of_getElem? (i := 23) rfl))) (by decide) (t := .int) (t' := .int) (by decide) (by decide)))).other W11 (Or.inl (Ne.symm (Ary.ne A_w4 E_a1 (hw _ (List.mem_of_getElem? (i := 2) rfl))))))
  rw [e11]
  exact ⟨rfl, N11, K11, fx13, fx14, fx15, fx16, fx17, fx12⟩
def Q_rm3_2 (Z : State) (a1 : Addr) (p2 : Int32) (w4 : Addr) (f_w4 : Nat → Value) (u_base_a1 : Value) (u_baseSize_a1 : Value) (h0 : Heap) (n0 : Nat) (v : Option Value) (h : Heap) (L : List Loc) : Prop := v = none ∧ Fr n0 L ∧ Keep h0 h [a1, w4] ∧ Fld Z h a1 "com/example/nestor/nestor/IntOverlay" "ownSize" "I" (.int (3 : Int32)) ∧ Fld Z h a1 "com/example/nestor/nestor/IntOverlay" "own" "[I" (.ref w4) ∧ Exa Z h a1 "com/example/nestor/nestor/IntOverlay" ∧ Fld Z h a1 "com/example/nestor/nestor/IntOverlay" "base" "Lcom/example/nestor/nestor/IntOverlay;" u_base_a1 ∧ Fld Z h a1 "com/example/nestor/nestor/IntOverlay" "baseSize" "I" u_baseSize_a1 ∧ Ary Z h w4 .int 8 (fun i => if i = 2 then (.int p2) else f_w4 i)
theorem ef_rm3_2 (m : MethodId) (x0 : Addr) (x1 : Int32) : entryFrame m #[(.ref x0), (.int x1)] 2 = mkF m 0 #[.val (.ref x0), .val (.int x1)] [] := by first | (simp [entryFrame, mkF, argsToLocals, Value.category]; done) | rfl
set_option maxRecDepth 65536 in
set_option maxHeartbeats 40000000 in
theorem rm3_2 (l : Launch) (Z : State) (a0 : Array Value) (hw : ∀ d ∈ tables_1, d.before a0 Z = true) (ws : List Jvm.Cond) (a1 : Addr) (p2 : Int32) (w4 : Addr) (f_w4 : Nat → Value) (u_base_a1 : Value) (u_baseSize_a1 : Value) (h0 : Heap) (n0 : Nat) (Z0 : n0 ≤ h0.size) (F_ownSize_a1 : Fld Z h0 a1 "com/example/nestor/nestor/IntOverlay" "ownSize" "I" (.int (2 : Int32))) (F_own_a1 : Fld Z h0 a1 "com/example/nestor/nestor/IntOverlay" "own" "[I" (.ref w4)) (A_w4 : Ary Z h0 w4 .int 8 f_w4) (E_a1 : Exa Z h0 a1 "com/example/nestor/nestor/IntOverlay") (g_a1 : n0 ≤ a1) (g_w4 : n0 ≤ w4) (F_base_a1 : Fld Z h0 a1 "com/example/nestor/nestor/IntOverlay" "base" "Lcom/example/nestor/nestor/IntOverlay;" u_base_a1) (F_baseSize_a1 : Fld Z h0 a1 "com/example/nestor/nestor/IntOverlay" "baseSize" "I" u_baseSize_a1) :
    MetFree l (⟨"com/example/nestor/nestor/IntOverlay", "add", "(I)V"⟩ : MethodName) (head1 (Jvm.Cond.code (⟨"com/example/nestor/nestor/IntOverlay", "add", "(I)V"⟩ : MethodName) prog_5_method_3_code 2 none :: ws) ({ frames := 0, cells := 0, slots := 0, locals := 0 } : Room)) (fun a U => a = #[(.ref a1), (.int p2)] ∧ Z.Warmed39 U.vm ∧ U.heap = h0) (fun _ _ _ _ _ => True) (fun _ U o U' => ∃ v L, o = .returned v ∧ Q_rm3_2 Z a1 p2 w4 f_w4 u_base_a1 u_baseSize_a1 h0 n0 v U'.heap L ∧ FrameEnd U o U' L ({ frames := 0, cells := 0, slots := 0, locals := 0 } : Room).cells ({ frames := 0, cells := 0, slots := 0, locals := 0 } : Room).slots) := by
  refine MetFree.of_bodySF (plainFor_of_name pn_0) hisR ?_
  intro p e s m args below meth c s₁ Bd hml0 hP hK
  obtain ⟨rfl, hZ, hh⟩ := hP
  have hx := Bd.exec
  have hby := Bd.bytes
  have hml : c.maxLocals = 2 := hml0
  have hown : s.vm.findClass "com/example/nestor/nestor/IntOverlay" = some m.cls := findClass_of_methodNamed Bd.named
  have hnm := (name_of_methodNamed Bd.named Bd.method).1
  have X0 : Stand p l e ({ frames := 0, cells := 0, slots := 0, locals := 0 } : Room) s m #[(.ref a1), (.int p2)] below meth c s₁ [] 0 0 := Stand.of_body Bd
  have e0 : s₁.heap = h0 := by rw [← hh, Bd.state]; rfl
  have N0 := Fr.nil n0
  show Run p e below s 0 0 (Q_rm3_2 Z a1 p2 w4 f_w4 u_base_a1 u_baseSize_a1 h0 n0) (s₁.setTop (entryFrame m #[(.ref a1), (.int p2)] 2))
  refine Run.go (fun _ k => castTop (ef_rm3_2 m a1 p2) k) ?_
  show Run p e below s 0 0 (Q_rm3_2 Z a1 p2 w4 f_w4 u_base_a1 u_baseSize_a1 h0 n0) (s₁.setTop (mkF m 0 #[.val (.ref a1), .val (.int p2)] []))
  refine Run.go (fun _ k => XS.aloadN X0.here hx rfl (hb hby d3_0) rfl rfl k) ?_
  show Run p e below s 0 0 (Q_rm3_2 Z a1 p2 w4 f_w4 u_base_a1 u_baseSize_a1 h0 n0) (s₁.setTop (mkF m 1 #[.val (.ref a1), .val (.int p2)] [(.ref a1)]))
  obtain ⟨T3, X3, e3, st3⟩ := getF X0 hx hZ hown (host := "") (Or.inl (hw _ (List.mem_of_getElem? (i := 22) rfl))) Via.refl e0 F_ownSize_a1 (g := (mkF m 1 #[.val (.ref a1), .val (.int p2)] [(.ref a1)])) rfl rfl (hb hby d3_1)
  refine Run.go st3 ?_
  show Run p e below s 0 0 (Q_rm3_2 Z a1 p2 w4 f_w4 u_base_a1 u_baseSize_a1 h0 n0) (T3.setTop (mkF m 4 #[.val (.ref a1), .val (.int p2)] [(.int (2 : Int32))]))
  refine Run.go (fun _ k => XS.aloadN X3.here hx rfl (hb hby d3_4) rfl rfl k) ?_
  show Run p e below s 0 0 (Q_rm3_2 Z a1 p2 w4 f_w4 u_base_a1 u_baseSize_a1 h0 n0) (T3.setTop (mkF m 5 #[.val (.ref a1), .val (.int p2)] [(.ref a1), (.int (2 : Int32))]))
  obtain ⟨T5, X5, e5, st5⟩ := getF X3 hx hZ hown (host := "") (Or.inl (hw _ (List.mem_of_getElem? (i := 11) rfl))) Via.refl e3 F_own_a1 (g := (mkF m 5 #[.val (.ref a1), .val (.int p2)] [(.ref a1), (.int (2 : Int32))])) rfl rfl (hb hby d3_5)
  refine Run.go st5 ?_
  show Run p e below s 0 0 (Q_rm3_2 Z a1 p2 w4 f_w4 u_base_a1 u_baseSize_a1 h0 n0) (T5.setTop (mkF m 8 #[.val (.ref a1), .val (.int p2)] [(.ref w4), (.int (2 : Int32))]))
  refine Run.go (fun _ k => ary_len X5 hx hZ e5 A_w4 (g := (mkF m 8 #[.val (.ref a1), .val (.int p2)] [(.ref w4), (.int (2 : Int32))])) rfl rfl (hb hby d3_8) (z := (8 : Int32)) (by decide) _ k) ?_
  show Run p e below s 0 0 (Q_rm3_2 Z a1 p2 w4 f_w4 u_base_a1 u_baseSize_a1 h0 n0) (T5.setTop (mkF m 9 #[.val (.ref a1), .val (.int p2)] [(.int (8 : Int32)), (.int (2 : Int32))]))
  refine Run.go (fun _ k => XS.icmpYes X5.here hx rfl (pc0 := 9) (pc' := 29) rfl (hb hby d3_9) rfl (feq (by decide)).2 (by decide) (by decide) k) ?_
  show Run p e below s 0 0 (Q_rm3_2 Z a1 p2 w4 f_w4 u_base_a1 u_baseSize_a1 h0 n0) (T5.setTop (mkF m 29 #[.val (.ref a1), .val (.int p2)] []))
  refine Run.go (fun _ k => XS.aloadN X5.here hx rfl (hb hby d3_29) rfl rfl k) ?_
  show Run p e below s 0 0 (Q_rm3_2 Z a1 p2 w4 f_w4 u_base_a1 u_baseSize_a1 h0 n0) (T5.setTop (mkF m 30 #[.val (.ref a1), .val (.int p2)] [(.ref a1)]))
  obtain ⟨T6, X6, e6, st6⟩ := getF X5 hx hZ hown (host := "") (Or.inl (hw _ (List.mem_of_getElem? (i := 11) rfl))) Via.refl e5 F_own_a1 (g := (mkF m 30 #[.val (.ref a1), .val (.int p2)] [(.ref a1)])) rfl rfl (hb hby d3_30)
  refine Run.go st6 ?_
  show Run p e below s 0 0 (Q_rm3_2 Z a1 p2 w4 f_w4 u_base_a1 u_baseSize_a1 h0 n0) (T6.setTop (mkF m 33 #[.val (.ref a1), .val (.int p2)] [(.ref w4)]))
  refine Run.go (fun _ k => XS.aloadN X6.here hx rfl (hb hby d3_33) rfl rfl k) ?_
  show Run p e below s 0 0 (Q_rm3_2 Z a1 p2 w4 f_w4 u_base_a1 u_baseSize_a1 h0 n0) (T6.setTop (mkF m 34 #[.val (.ref a1), .val (.int p2)] [(.ref a1), (.ref w4)]))
  refine Run.go (fun _ k => XS.dup X6.here hx rfl (hb hby d3_34) rfl rfl k) ?_
  show Run p e below s 0 0 (Q_rm3_2 Z a1 p2 w4 f_w4 u_base_a1 u_baseSize_a1 h0 n0) (T6.setTop (mkF m 35 #[.val (.ref a1), .val (.int p2)] [(.ref a1), (.ref a1), (.ref w4)]))
  obtain ⟨T7, X7, e7, st7⟩ := getF X6 hx hZ hown (host := "") (Or.inl (hw _ (List.mem_of_getElem? (i := 22) rfl))) Via.refl e6 F_ownSize_a1 (g := (mkF m 35 #[.val (.ref a1), .val (.int p2)] [(.ref a1), (.ref a1), (.ref w4)])) rfl rfl (hb hby d3_35)
  refine Run.go st7 ?_
  show Run p e below s 0 0 (Q_rm3_2 Z a1 p2 w4 f_w4 u_base_a1 u_baseSize_a1 h0 n0) (T7.setTop (mkF m 38 #[.val (.ref a1), .val (.int p2)] [(.int (2 : Int32)), (.ref a1), (.ref w4)]))
  refine Run.go (fun _ k => XS.dupX1 X7.here hx rfl (hb hby d3_38) rfl rfl rfl k) ?_
  show Run p e below s 0 0 (Q_rm3_2 Z a1 p2 w4 f_w4 u_base_a1 u_baseSize_a1 h0 n0) (T7.setTop (mkF m 39 #[.val (.ref a1), .val (.int p2)] [(.int (2 : Int32)), (.ref a1), (.int (2 : Int32)), (.ref w4)]))
  refine Run.go (fun _ k => XS.iconst X7.here hx rfl (hb hby d3_39) k) ?_
  show Run p e below s 0 0 (Q_rm3_2 Z a1 p2 w4 f_w4 u_base_a1 u_baseSize_a1 h0 n0) (T7.setTop (mkF m 40 #[.val (.ref a1), .val (.int p2)] [(.int (1 : Int32)), (.int (2 : Int32)), (.ref a1), (.int (2 : Int32)), (.ref w4)]))
  refine Run.go (fun _ k => XS.iadd X7.here hx rfl (hb hby d3_40) rfl k) ?_
  show Run p e below s 0 0 (Q_rm3_2 Z a1 p2 w4 f_w4 u_base_a1 u_baseSize_a1 h0 n0) (T7.setTop (mkF m 41 #[.val (.ref a1), .val (.int p2)] [(.int (3 : Int32)), (.ref a1), (.int (2 : Int32)), (.ref w4)]))
  obtain ⟨T8, h8, X8, e8, W8, st8⟩ := putF X7 hx hZ hown (host := "") (Or.inl (hw _ (List.mem_of_getElem? (i := 22) rfl))) Via.refl e7 F_ownSize_a1 E_a1 (Or.inl (hw _ (List.mem_of_getElem? (i := 23) rfl))) (hw _ (List.mem_of_getElem? (i := 2) rfl)) (ty := .int) (by decide) rfl rfl (g := (mkF m 41 #[.val (.ref a1), .val (.int p2)] [(.int (3 : Int32)), (.ref a1), (.int (2 : Int32)), (.ref w4)])) rfl rfl (hb hby d3_41)
  have N8 := Fr.snoc X8 N0 g_a1
  have Z8 : n0 ≤ h8.size := Nat.le_trans Z0 (Keep.of_wr W8).1
  have K8 : Keep h0 h8 [a1, w4] := (Keep.refl h0 [a1, w4]).wr W8 (Or.inl (List.mem_of_getElem? (i := 0) rfl))
  have fx9 := F_ownSize_a1.same W8
  refine Run.go st8 ?_
  show Run p e below s 0 0 (Q_rm3_2 Z a1 p2 w4 f_w4 u_base_a1 u_baseSize_a1 h0 n0) (T8.setTop (mkF m 44 #[.val (.ref a1), .val (.int p2)] [(.int (2 : Int32)), (.ref w4)]))
  refine Run.go (fun _ k => XS.iloadN X8.here hx rfl (hb hby d3_44) rfl  k) ?_
  show Run p e below s 0 0 (Q_rm3_2 Z a1 p2 w4 f_w4 u_base_a1 u_baseSize_a1 h0 n0) (T8.setTop (mkF m 45 #[.val (.ref a1), .val (.int p2)] [(.int p2), (.int (2 : Int32)), (.ref w4)]))
  have fx10 := (A_w4.other W8 (Ary.ne A_w4 E_a1 (hw _ (List.mem_of_getElem? (i := 2) rfl))))
  obtain ⟨T11, h11, X11, e11, W11, st11⟩ := ary_iset X8 hx hZ e8 fx10 (by decide) (by decide) (g := (mkF m 45 #[.val (.ref a1), .val (.int p2)] [(.int p2), (.int (2 : Int32)), (.ref w4)])) rfl rfl (hb hby d3_45)
  have N11 := Fr.snoc X11 N8 g_w4
  have Z11 : n0 ≤ h11.size := Nat.le_trans Z8 (Keep.of_wr W11).1
  have K11 : Keep h0 h11 [a1, w4] := K8.wr W11 (Or.inl (List.mem_of_getElem? (i := 1) rfl))
  have fx12 : Ary Z h11 w4 .int 8 (fun i => if i = 2 then (.int p2) else f_w4 i) := fx10.same W11
  refine Run.go st11 ?_
  show Run p e below s 0 0 (Q_rm3_2 Z a1 p2 w4 f_w4 u_base_a1 u_baseSize_a1 h0 n0) (T11.setTop (mkF m 46 #[.val (.ref a1), .val (.int p2)] []))
  refine Run.ret0 X11 hx Bd.returns Bd.notSynchronized (hb hby d3_46) (by decide) (by decide) ?_
  show Q_rm3_2 Z a1 p2 w4 f_w4 u_base_a1 u_baseSize_a1 h0 n0 _ T11.heap _
  have fx13 := (fx9.other W11 (Or.inl (Ne.symm (Ary.ne A_w4 E_a1 (hw _ (List.mem_of_getElem? (i := 2) rfl))))))
  have fx14 := ((F_own_a1.other W8 (Or.inr (slot_ne (Or.inl (hw _ (List.mem_of_getElem? (i := 12) rfl))) (Or.inl (hw _ (List.mem_of_getElem? (i := 23) rfl))) (by decide) (t := (.array .int)) (t' := .int) (by decide) (by decide)))).other W11 (Or.inl (Ne.symm (Ary.ne A_w4 E_a1 (hw _ (List.mem_of_getElem? (i := 2) rfl))))))
  have fx15 := ((E_a1.wr W8).wr W11)
  have fx16 := ((F_base_a1.other W8 (Or.inr (slot_ne (Or.inr (hw _ (List.mem_of_getElem? (i := 14) rfl))) (Or.inl (hw _ (List.mem_of_getElem? (i := 23) rfl))) (by decide) (t := (.object "com/example/nestor/nestor/IntOverlay")) (t' := .int) (by decide) (by decide)))).other W11 (Or.inl (Ne.symm (Ary.ne A_w4 E_a1 (hw _ (List.mem_of_getElem? (i := 2) rfl))))))
  have fx17 := ((F_baseSize_a1.other W8 (Or.inr (slot_ne (Or.inr (hw _ (List.mem_of_getElem? (i := 16) rfl))) (Or.inl (hw _ (List.mem_of_getElem? (i := 23) rfl))) (by decide) (t := .int) (t' := .int) (by decide) (by decide)))).other W11 (Or.inl (Ne.symm (Ary.ne A_w4 E_a1 (hw _ (List.mem_of_getElem? (i := 2) rfl))))))
  rw [e11]
  exact ⟨rfl, N11, K11, fx13, fx14, fx15, fx16, fx17, fx12⟩
theorem d6_0 : decode prog_5_method_4_code 0 = .ok (.iload_n 1, 1) := by decide +kernel
theorem d6_1 : decode prog_5_method_4_code 1 = .ok (.aload_n 0, 1) := by decide +kernel
theorem d6_2 : decode prog_5_method_4_code 2 = .ok (.getfield 17, 3) := by decide +kernel
theorem d6_5 : decode prog_5_method_4_code 5 = .ok (.if_icmp .ge 14, 3) := by decide +kernel
theorem d6_19 : decode prog_5_method_4_code 19 = .ok (.aload_n 0, 1) := by decide +kernel
theorem d6_20 : decode prog_5_method_4_code 20 = .ok (.getfield 7, 3) := by decide +kernel
theorem d6_23 : decode prog_5_method_4_code 23 = .ok (.iload_n 1, 1) := by decide +kernel
theorem d6_24 : decode prog_5_method_4_code 24 = .ok (.aload_n 0, 1) := by decide +kernel
theorem d6_25 : decode prog_5_method_4_code 25 = .ok (.getfield 17, 3) := by decide +kernel
theorem d6_28 : decode prog_5_method_4_code 28 = .ok (.isub, 1) := by decide +kernel
theorem d6_29 : decode prog_5_method_4_code 29 = .ok (.iaload, 1) := by decide +kernel
theorem d6_30 : decode prog_5_method_4_code 30 = .ok (.ireturn, 1) := by decide +kernel
def Q_rm6_0_0 (Z : State) (a1 : Addr) (w3 : Addr) (f_w3 : Nat → Value) (x6 : Int32) (h0 : Heap) (n0 : Nat) (v : Option Value) (h : Heap) (L : List Loc) : Prop := v = some (.int x6) ∧ Fr n0 L ∧ h = h0
theorem ef_rm6_0_0 (m : MethodId) (x0 : Addr) : entryFrame m #[(.ref x0), (.int (0 : Int32))] 2 = mkF m 0 #[.val (.ref x0), .val (.int (0 : Int32))] [] := by first | (simp [entryFrame, mkF, argsToLocals, Value.category]; done) | rfl
set_option maxRecDepth 65536 in
set_option maxHeartbeats 40000000 in
theorem rm6_0_0 (l : Launch) (Z : State) (a0 : Array Value) (hw : ∀ d ∈ tables_1, d.before a0 Z = true) (ws : List Jvm.Cond) (a1 : Addr) (w3 : Addr) (f_w3 : Nat → Value) (x6 : Int32) (h0 : Heap) (n0 : Nat) (Z0 : n0 ≤ h0.size) (F_baseSize_a1 : Fld Z h0 a1 "com/example/nestor/nestor/IntOverlay" "baseSize" "I" (.int (0 : Int32))) (F_own_a1 : Fld Z h0 a1 "com/example/nestor/nestor/IntOverlay" "own" "[I" (.ref w3)) (A_w3 : Ary Z h0 w3 .int 8 f_w3) (hx6 : f_w3 0 = (.int x6)) :
    MetFree l (⟨"com/example/nestor/nestor/IntOverlay", "get", "(I)I"⟩ : MethodName) (head1 (Jvm.Cond.code (⟨"com/example/nestor/nestor/IntOverlay", "get", "(I)I"⟩ : MethodName) prog_5_method_4_code 2 (some .int) :: ws) ({ frames := 0, cells := 0, slots := 0, locals := 0 } : Room)) (fun a U => a = #[(.ref a1), (.int (0 : Int32))] ∧ Z.Warmed39 U.vm ∧ U.heap = h0) (fun _ _ _ _ _ => True) (fun _ U o U' => ∃ v L, o = .returned v ∧ Q_rm6_0_0 Z a1 w3 f_w3 x6 h0 n0 v U'.heap L ∧ FrameEnd U o U' L ({ frames := 0, cells := 0, slots := 0, locals := 0 } : Room).cells ({ frames := 0, cells := 0, slots := 0, locals := 0 } : Room).slots) := by
  refine MetFree.of_bodySF (plainFor_of_name pn_0) hisR ?_
  intro p e s m args below meth c s₁ Bd hml0 hP hK
  obtain ⟨rfl, hZ, hh⟩ := hP
  have hx := Bd.exec
  have hby := Bd.bytes
  have hml : c.maxLocals = 2 := hml0
  have hown : s.vm.findClass "com/example/nestor/nestor/IntOverlay" = some m.cls := findClass_of_methodNamed Bd.named
  have hnm := (name_of_methodNamed Bd.named Bd.method).1
  have X0 : Stand p l e ({ frames := 0, cells := 0, slots := 0, locals := 0 } : Room) s m #[(.ref a1), (.int (0 : Int32))] below meth c s₁ [] 0 0 := Stand.of_body Bd
  have e0 : s₁.heap = h0 := by rw [← hh, Bd.state]; rfl
  have N0 := Fr.nil n0
  show Run p e below s 0 0 (Q_rm6_0_0 Z a1 w3 f_w3 x6 h0 n0) (s₁.setTop (entryFrame m #[(.ref a1), (.int (0 : Int32))] 2))
  refine Run.go (fun _ k => castTop (ef_rm6_0_0 m a1) k) ?_
  show Run p e below s 0 0 (Q_rm6_0_0 Z a1 w3 f_w3 x6 h0 n0) (s₁.setTop (mkF m 0 #[.val (.ref a1), .val (.int (0 : Int32))] []))
  refine Run.go (fun _ k => XS.iloadN X0.here hx rfl (hb hby d6_0) rfl  k) ?_
  show Run p e below s 0 0 (Q_rm6_0_0 Z a1 w3 f_w3 x6 h0 n0) (s₁.setTop (mkF m 1 #[.val (.ref a1), .val (.int (0 : Int32))] [(.int (0 : Int32))]))
  refine Run.go (fun _ k => XS.aloadN X0.here hx rfl (hb hby d6_1) rfl rfl k) ?_
  show Run p e below s 0 0 (Q_rm6_0_0 Z a1 w3 f_w3 x6 h0 n0) (s₁.setTop (mkF m 2 #[.val (.ref a1), .val (.int (0 : Int32))] [(.ref a1), (.int (0 : Int32))]))
  obtain ⟨T2, X2, e2, st2⟩ := getF X0 hx hZ hown (host := "") (Or.inl (hw _ (List.mem_of_getElem? (i := 15) rfl))) Via.refl e0 F_baseSize_a1 (g := (mkF m 2 #[.val (.ref a1), .val (.int (0 : Int32))] [(.ref a1), (.int (0 : Int32))])) rfl rfl (hb hby d6_2)
  refine Run.go st2 ?_
  show Run p e below s 0 0 (Q_rm6_0_0 Z a1 w3 f_w3 x6 h0 n0) (T2.setTop (mkF m 5 #[.val (.ref a1), .val (.int (0 : Int32))] [(.int (0 : Int32)), (.int (0 : Int32))]))
  refine Run.go (fun _ k => XS.icmpYes X2.here hx rfl (pc0 := 5) (pc' := 19) rfl (hb hby d6_5) rfl (flt (by decide)).2.1 (by decide) (by decide) k) ?_
  show Run p e below s 0 0 (Q_rm6_0_0 Z a1 w3 f_w3 x6 h0 n0) (T2.setTop (mkF m 19 #[.val (.ref a1), .val (.int (0 : Int32))] []))
  refine Run.go (fun _ k => XS.aloadN X2.here hx rfl (hb hby d6_19) rfl rfl k) ?_
  show Run p e below s 0 0 (Q_rm6_0_0 Z a1 w3 f_w3 x6 h0 n0) (T2.setTop (mkF m 20 #[.val (.ref a1), .val (.int (0 : Int32))] [(.ref a1)]))
  obtain ⟨T4, X4, e4, st4⟩ := getF X2 hx hZ hown (host := "") (Or.inl (hw _ (List.mem_of_getElem? (i := 11) rfl))) Via.refl e2 F_own_a1 (g := (mkF m 20 #[.val (.ref a1), .val (.int (0 : Int32))] [(.ref a1)])) rfl rfl (hb hby d6_20)
  refine Run.go st4 ?_
  show Run p e below s 0 0 (Q_rm6_0_0 Z a1 w3 f_w3 x6 h0 n0) (T4.setTop (mkF m 23 #[.val (.ref a1), .val (.int (0 : Int32))] [(.ref w3)]))
  refine Run.go (fun _ k => XS.iloadN X4.here hx rfl (hb hby d6_23) rfl  k) ?_
  show Run p e below s 0 0 (Q_rm6_0_0 Z a1 w3 f_w3 x6 h0 n0) (T4.setTop (mkF m 24 #[.val (.ref a1), .val (.int (0 : Int32))] [(.int (0 : Int32)), (.ref w3)]))
  refine Run.go (fun _ k => XS.aloadN X4.here hx rfl (hb hby d6_24) rfl rfl k) ?_
  show Run p e below s 0 0 (Q_rm6_0_0 Z a1 w3 f_w3 x6 h0 n0) (T4.setTop (mkF m 25 #[.val (.ref a1), .val (.int (0 : Int32))] [(.ref a1), (.int (0 : Int32)), (.ref w3)]))
  obtain ⟨T5, X5, e5, st5⟩ := getF X4 hx hZ hown (host := "") (Or.inl (hw _ (List.mem_of_getElem? (i := 15) rfl))) Via.refl e4 F_baseSize_a1 (g := (mkF m 25 #[.val (.ref a1), .val (.int (0 : Int32))] [(.ref a1), (.int (0 : Int32)), (.ref w3)])) rfl rfl (hb hby d6_25)
  refine Run.go st5 ?_
  show Run p e below s 0 0 (Q_rm6_0_0 Z a1 w3 f_w3 x6 h0 n0) (T5.setTop (mkF m 28 #[.val (.ref a1), .val (.int (0 : Int32))] [(.int (0 : Int32)), (.int (0 : Int32)), (.ref w3)]))
  refine Run.go (fun _ k => XS.isub X5.here hx rfl (hb hby d6_28) rfl k) ?_
  show Run p e below s 0 0 (Q_rm6_0_0 Z a1 w3 f_w3 x6 h0 n0) (T5.setTop (mkF m 29 #[.val (.ref a1), .val (.int (0 : Int32))] [(.int (0 : Int32)), (.ref w3)]))
  refine Run.go (fun _ k => ary_iget X5 hx hZ e5 A_w3 (by decide) (by decide) (g := (mkF m 29 #[.val (.ref a1), .val (.int (0 : Int32))] [(.int (0 : Int32)), (.ref w3)])) rfl rfl (hb hby d6_29) hx6 _ k) ?_
  show Run p e below s 0 0 (Q_rm6_0_0 Z a1 w3 f_w3 x6 h0 n0) (T5.setTop (mkF m 30 #[.val (.ref a1), .val (.int (0 : Int32))] [(.int x6)]))
  refine Run.retI X5 hx Bd.returns Bd.notSynchronized (hb hby d6_30) (by decide) (by decide) ?_
  show Q_rm6_0_0 Z a1 w3 f_w3 x6 h0 n0 _ T5.heap _
  exact ⟨rfl, N0, e5⟩
def Q_rm6_0_1 (Z : State) (a1 : Addr) (w3 : Addr) (f_w3 : Nat → Value) (x6 : Int32) (h0 : Heap) (n0 : Nat) (v : Option Value) (h : Heap) (L : List Loc) : Prop := v = some (.int x6) ∧ Fr n0 L ∧ h = h0
theorem ef_rm6_0_1 (m : MethodId) (x0 : Addr) : entryFrame m #[(.ref x0), (.int (1 : Int32))] 2 = mkF m 0 #[.val (.ref x0), .val (.int (1 : Int32))] [] := by first | (simp [entryFrame, mkF, argsToLocals, Value.category]; done) | rfl
set_option maxRecDepth 65536 in
set_option maxHeartbeats 40000000 in
theorem rm6_0_1 (l : Launch) (Z : State) (a0 : Array Value) (hw : ∀ d ∈ tables_1, d.before a0 Z = true) (ws : List Jvm.Cond) (a1 : Addr) (w3 : Addr) (f_w3 : Nat → Value) (x6 : Int32) (h0 : Heap) (n0 : Nat) (Z0 : n0 ≤ h0.size) (F_baseSize_a1 : Fld Z h0 a1 "com/example/nestor/nestor/IntOverlay" "baseSize" "I" (.int (0 : Int32))) (F_own_a1 : Fld Z h0 a1 "com/example/nestor/nestor/IntOverlay" "own" "[I" (.ref w3)) (A_w3 : Ary Z h0 w3 .int 8 f_w3) (hx6 : f_w3 1 = (.int x6)) :
    MetFree l (⟨"com/example/nestor/nestor/IntOverlay", "get", "(I)I"⟩ : MethodName) (head1 (Jvm.Cond.code (⟨"com/example/nestor/nestor/IntOverlay", "get", "(I)I"⟩ : MethodName) prog_5_method_4_code 2 (some .int) :: ws) ({ frames := 0, cells := 0, slots := 0, locals := 0 } : Room)) (fun a U => a = #[(.ref a1), (.int (1 : Int32))] ∧ Z.Warmed39 U.vm ∧ U.heap = h0) (fun _ _ _ _ _ => True) (fun _ U o U' => ∃ v L, o = .returned v ∧ Q_rm6_0_1 Z a1 w3 f_w3 x6 h0 n0 v U'.heap L ∧ FrameEnd U o U' L ({ frames := 0, cells := 0, slots := 0, locals := 0 } : Room).cells ({ frames := 0, cells := 0, slots := 0, locals := 0 } : Room).slots) := by
  refine MetFree.of_bodySF (plainFor_of_name pn_0) hisR ?_
  intro p e s m args below meth c s₁ Bd hml0 hP hK
  obtain ⟨rfl, hZ, hh⟩ := hP
  have hx := Bd.exec
  have hby := Bd.bytes
  have hml : c.maxLocals = 2 := hml0
  have hown : s.vm.findClass "com/example/nestor/nestor/IntOverlay" = some m.cls := findClass_of_methodNamed Bd.named
  have hnm := (name_of_methodNamed Bd.named Bd.method).1
  have X0 : Stand p l e ({ frames := 0, cells := 0, slots := 0, locals := 0 } : Room) s m #[(.ref a1), (.int (1 : Int32))] below meth c s₁ [] 0 0 := Stand.of_body Bd
  have e0 : s₁.heap = h0 := by rw [← hh, Bd.state]; rfl
  have N0 := Fr.nil n0
  show Run p e below s 0 0 (Q_rm6_0_1 Z a1 w3 f_w3 x6 h0 n0) (s₁.setTop (entryFrame m #[(.ref a1), (.int (1 : Int32))] 2))
  refine Run.go (fun _ k => castTop (ef_rm6_0_1 m a1) k) ?_
  show Run p e below s 0 0 (Q_rm6_0_1 Z a1 w3 f_w3 x6 h0 n0) (s₁.setTop (mkF m 0 #[.val (.ref a1), .val (.int (1 : Int32))] []))
  refine Run.go (fun _ k => XS.iloadN X0.here hx rfl (hb hby d6_0) rfl  k) ?_
  show Run p e below s 0 0 (Q_rm6_0_1 Z a1 w3 f_w3 x6 h0 n0) (s₁.setTop (mkF m 1 #[.val (.ref a1), .val (.int (1 : Int32))] [(.int (1 : Int32))]))
  refine Run.go (fun _ k => XS.aloadN X0.here hx rfl (hb hby d6_1) rfl rfl k) ?_
  show Run p e below s 0 0 (Q_rm6_0_1 Z a1 w3 f_w3 x6 h0 n0) (s₁.setTop (mkF m 2 #[.val (.ref a1), .val (.int (1 : Int32))] [(.ref a1), (.int (1 : Int32))]))
  obtain ⟨T2, X2, e2, st2⟩ := getF X0 hx hZ hown (host := "") (Or.inl (hw _ (List.mem_of_getElem? (i := 15) rfl))) Via.refl e0 F_baseSize_a1 (g := (mkF m 2 #[.val (.ref a1), .val (.int (1 : Int32))] [(.ref a1), (.int (1 : Int32))])) rfl rfl (hb hby d6_2)
  refine Run.go st2 ?_
  show Run p e below s 0 0 (Q_rm6_0_1 Z a1 w3 f_w3 x6 h0 n0) (T2.setTop (mkF m 5 #[.val (.ref a1), .val (.int (1 : Int32))] [(.int (0 : Int32)), (.int (1 : Int32))]))
  refine Run.go (fun _ k => XS.icmpYes X2.here hx rfl (pc0 := 5) (pc' := 19) rfl (hb hby d6_5) rfl (flt (by decide)).2.1 (by decide) (by decide) k) ?_
  show Run p e below s 0 0 (Q_rm6_0_1 Z a1 w3 f_w3 x6 h0 n0) (T2.setTop (mkF m 19 #[.val (.ref a1), .val (.int (1 : Int32))] []))
  refine Run.go (fun _ k => XS.aloadN X2.here hx rfl (hb hby d6_19) rfl rfl k) ?_
  show Run p e below s 0 0 (Q_rm6_0_1 Z a1 w3 f_w3 x6 h0 n0) (T2.setTop (mkF m 20 #[.val (.ref a1), .val (.int (1 : Int32))] [(.ref a1)]))
  obtain ⟨T4, X4, e4, st4⟩ := getF X2 hx hZ hown (host := "") (Or.inl (hw _ (List.mem_of_getElem? (i := 11) rfl))) Via.refl e2 F_own_a1 (g := (mkF m 20 #[.val (.ref a1), .val (.int (1 : Int32))] [(.ref a1)])) rfl rfl (hb hby d6_20)
  refine Run.go st4 ?_
  show Run p e below s 0 0 (Q_rm6_0_1 Z a1 w3 f_w3 x6 h0 n0) (T4.setTop (mkF m 23 #[.val (.ref a1), .val (.int (1 : Int32))] [(.ref w3)]))
  refine Run.go (fun _ k => XS.iloadN X4.here hx rfl (hb hby d6_23) rfl  k) ?_
  show Run p e below s 0 0 (Q_rm6_0_1 Z a1 w3 f_w3 x6 h0 n0) (T4.setTop (mkF m 24 #[.val (.ref a1), .val (.int (1 : Int32))] [(.int (1 : Int32)), (.ref w3)]))
  refine Run.go (fun _ k => XS.aloadN X4.here hx rfl (hb hby d6_24) rfl rfl k) ?_
  show Run p e below s 0 0 (Q_rm6_0_1 Z a1 w3 f_w3 x6 h0 n0) (T4.setTop (mkF m 25 #[.val (.ref a1), .val (.int (1 : Int32))] [(.ref a1), (.int (1 : Int32)), (.ref w3)]))
  obtain ⟨T5, X5, e5, st5⟩ := getF X4 hx hZ hown (host := "") (Or.inl (hw _ (List.mem_of_getElem? (i := 15) rfl))) Via.refl e4 F_baseSize_a1 (g := (mkF m 25 #[.val (.ref a1), .val (.int (1 : Int32))] [(.ref a1), (.int (1 : Int32)), (.ref w3)])) rfl rfl (hb hby d6_25)
  refine Run.go st5 ?_
  show Run p e below s 0 0 (Q_rm6_0_1 Z a1 w3 f_w3 x6 h0 n0) (T5.setTop (mkF m 28 #[.val (.ref a1), .val (.int (1 : Int32))] [(.int (0 : Int32)), (.int (1 : Int32)), (.ref w3)]))
  refine Run.go (fun _ k => XS.isub X5.here hx rfl (hb hby d6_28) rfl k) ?_
  show Run p e below s 0 0 (Q_rm6_0_1 Z a1 w3 f_w3 x6 h0 n0) (T5.setTop (mkF m 29 #[.val (.ref a1), .val (.int (1 : Int32))] [(.int (1 : Int32)), (.ref w3)]))
  refine Run.go (fun _ k => ary_iget X5 hx hZ e5 A_w3 (by decide) (by decide) (g := (mkF m 29 #[.val (.ref a1), .val (.int (1 : Int32))] [(.int (1 : Int32)), (.ref w3)])) rfl rfl (hb hby d6_29) hx6 _ k) ?_
  show Run p e below s 0 0 (Q_rm6_0_1 Z a1 w3 f_w3 x6 h0 n0) (T5.setTop (mkF m 30 #[.val (.ref a1), .val (.int (1 : Int32))] [(.int x6)]))
  refine Run.retI X5 hx Bd.returns Bd.notSynchronized (hb hby d6_30) (by decide) (by decide) ?_
  show Q_rm6_0_1 Z a1 w3 f_w3 x6 h0 n0 _ T5.heap _
  exact ⟨rfl, N0, e5⟩
def Q_rm6_0_2 (Z : State) (a1 : Addr) (w3 : Addr) (f_w3 : Nat → Value) (x6 : Int32) (h0 : Heap) (n0 : Nat) (v : Option Value) (h : Heap) (L : List Loc) : Prop := v = some (.int x6) ∧ Fr n0 L ∧ h = h0
theorem ef_rm6_0_2 (m : MethodId) (x0 : Addr) : entryFrame m #[(.ref x0), (.int (2 : Int32))] 2 = mkF m 0 #[.val (.ref x0), .val (.int (2 : Int32))] [] := by first | (simp [entryFrame, mkF, argsToLocals, Value.category]; done) | rfl
set_option maxRecDepth 65536 in
set_option maxHeartbeats 40000000 in
theorem rm6_0_2 (l : Launch) (Z : State) (a0 : Array Value) (hw : ∀ d ∈ tables_1, d.before a0 Z = true) (ws : List Jvm.Cond) (a1 : Addr) (w3 : Addr) (f_w3 : Nat → Value) (x6 : Int32) (h0 : Heap) (n0 : Nat) (Z0 : n0 ≤ h0.size) (F_baseSize_a1 : Fld Z h0 a1 "com/example/nestor/nestor/IntOverlay" "baseSize" "I" (.int (0 : Int32))) (F_own_a1 : Fld Z h0 a1 "com/example/nestor/nestor/IntOverlay" "own" "[I" (.ref w3)) (A_w3 : Ary Z h0 w3 .int 8 f_w3) (hx6 : f_w3 2 = (.int x6)) :
    MetFree l (⟨"com/example/nestor/nestor/IntOverlay", "get", "(I)I"⟩ : MethodName) (head1 (Jvm.Cond.code (⟨"com/example/nestor/nestor/IntOverlay", "get", "(I)I"⟩ : MethodName) prog_5_method_4_code 2 (some .int) :: ws) ({ frames := 0, cells := 0, slots := 0, locals := 0 } : Room)) (fun a U => a = #[(.ref a1), (.int (2 : Int32))] ∧ Z.Warmed39 U.vm ∧ U.heap = h0) (fun _ _ _ _ _ => True) (fun _ U o U' => ∃ v L, o = .returned v ∧ Q_rm6_0_2 Z a1 w3 f_w3 x6 h0 n0 v U'.heap L ∧ FrameEnd U o U' L ({ frames := 0, cells := 0, slots := 0, locals := 0 } : Room).cells ({ frames := 0, cells := 0, slots := 0, locals := 0 } : Room).slots) := by
  refine MetFree.of_bodySF (plainFor_of_name pn_0) hisR ?_
  intro p e s m args below meth c s₁ Bd hml0 hP hK
  obtain ⟨rfl, hZ, hh⟩ := hP
  have hx := Bd.exec
  have hby := Bd.bytes
  have hml : c.maxLocals = 2 := hml0
  have hown : s.vm.findClass "com/example/nestor/nestor/IntOverlay" = some m.cls := findClass_of_methodNamed Bd.named
  have hnm := (name_of_methodNamed Bd.named Bd.method).1
  have X0 : Stand p l e ({ frames := 0, cells := 0, slots := 0, locals := 0 } : Room) s m #[(.ref a1), (.int (2 : Int32))] below meth c s₁ [] 0 0 := Stand.of_body Bd
  have e0 : s₁.heap = h0 := by rw [← hh, Bd.state]; rfl
  have N0 := Fr.nil n0
  show Run p e below s 0 0 (Q_rm6_0_2 Z a1 w3 f_w3 x6 h0 n0) (s₁.setTop (entryFrame m #[(.ref a1), (.int (2 : Int32))] 2))
  refine Run.go (fun _ k => castTop (ef_rm6_0_2 m a1) k) ?_
  show Run p e below s 0 0 (Q_rm6_0_2 Z a1 w3 f_w3 x6 h0 n0) (s₁.setTop (mkF m 0 #[.val (.ref a1), .val (.int (2 : Int32))] []))
  refine Run.go (fun _ k => XS.iloadN X0.here hx rfl (hb hby d6_0) rfl  k) ?_
  show Run p e below s 0 0 (Q_rm6_0_2 Z a1 w3 f_w3 x6 h0 n0) (s₁.setTop (mkF m 1 #[.val (.ref a1), .val (.int (2 : Int32))] [(.int (2 : Int32))]))
  refine Run.go (fun _ k => XS.aloadN X0.here hx rfl (hb hby d6_1) rfl rfl k) ?_
  show Run p e below s 0 0 (Q_rm6_0_2 Z a1 w3 f_w3 x6 h0 n0) (s₁.setTop (mkF m 2 #[.val (.ref a1), .val (.int (2 : Int32))] [(.ref a1), (.int (2 : Int32))]))
  obtain ⟨T2, X2, e2, st2⟩ := getF X0 hx hZ hown (host := "") (Or.inl (hw _ (List.mem_of_getElem? (i := 15) rfl))) Via.refl e0 F_baseSize_a1 (g := (mkF m 2 #[.val (.ref a1), .val (.int (2 : Int32))] [(.ref a1), (.int (2 : Int32))])) rfl rfl (hb hby d6_2)
  refine Run.go st2 ?_
  show Run p e below s 0 0 (Q_rm6_0_2 Z a1 w3 f_w3 x6 h0 n0) (T2.setTop (mkF m 5 #[.val (.ref a1), .val (.int (2 : Int32))] [(.int (0 : Int32)), (.int (2 : Int32))]))
  refine Run.go (fun _ k => XS.icmpYes X2.here hx rfl (pc0 := 5) (pc' := 19) rfl (hb hby d6_5) rfl (flt (by decide)).2.1 (by decide) (by decide) k) ?_
  show Run p e below s 0 0 (Q_rm6_0_2 Z a1 w3 f_w3 x6 h0 n0) (T2.setTop (mkF m 19 #[.val (.ref a1), .val (.int (2 : Int32))] []))
  refine Run.go (fun _ k => XS.aloadN X2.here hx rfl (hb hby d6_19) rfl rfl k) ?_
  show Run p e below s 0 0 (Q_rm6_0_2 Z a1 w3 f_w3 x6 h0 n0) (T2.setTop (mkF m 20 #[.val (.ref a1), .val (.int (2 : Int32))] [(.ref a1)]))
  obtain ⟨T4, X4, e4, st4⟩ := getF X2 hx hZ hown (host := "") (Or.inl (hw _ (List.mem_of_getElem? (i := 11) rfl))) Via.refl e2 F_own_a1 (g := (mkF m 20 #[.val (.ref a1), .val (.int (2 : Int32))] [(.ref a1)])) rfl rfl (hb hby d6_20)
  refine Run.go st4 ?_
  show Run p e below s 0 0 (Q_rm6_0_2 Z a1 w3 f_w3 x6 h0 n0) (T4.setTop (mkF m 23 #[.val (.ref a1), .val (.int (2 : Int32))] [(.ref w3)]))
  refine Run.go (fun _ k => XS.iloadN X4.here hx rfl (hb hby d6_23) rfl  k) ?_
  show Run p e below s 0 0 (Q_rm6_0_2 Z a1 w3 f_w3 x6 h0 n0) (T4.setTop (mkF m 24 #[.val (.ref a1), .val (.int (2 : Int32))] [(.int (2 : Int32)), (.ref w3)]))
  refine Run.go (fun _ k => XS.aloadN X4.here hx rfl (hb hby d6_24) rfl rfl k) ?_
  show Run p e below s 0 0 (Q_rm6_0_2 Z a1 w3 f_w3 x6 h0 n0) (T4.setTop (mkF m 25 #[.val (.ref a1), .val (.int (2 : Int32))] [(.ref a1), (.int (2 : Int32)), (.ref w3)]))
  obtain ⟨T5, X5, e5, st5⟩ := getF X4 hx hZ hown (host := "") (Or.inl (hw _ (List.mem_of_getElem? (i := 15) rfl))) Via.refl e4 F_baseSize_a1 (g := (mkF m 25 #[.val (.ref a1), .val (.int (2 : Int32))] [(.ref a1), (.int (2 : Int32)), (.ref w3)])) rfl rfl (hb hby d6_25)
  refine Run.go st5 ?_
  show Run p e below s 0 0 (Q_rm6_0_2 Z a1 w3 f_w3 x6 h0 n0) (T5.setTop (mkF m 28 #[.val (.ref a1), .val (.int (2 : Int32))] [(.int (0 : Int32)), (.int (2 : Int32)), (.ref w3)]))
  refine Run.go (fun _ k => XS.isub X5.here hx rfl (hb hby d6_28) rfl k) ?_
  show Run p e below s 0 0 (Q_rm6_0_2 Z a1 w3 f_w3 x6 h0 n0) (T5.setTop (mkF m 29 #[.val (.ref a1), .val (.int (2 : Int32))] [(.int (2 : Int32)), (.ref w3)]))
  refine Run.go (fun _ k => ary_iget X5 hx hZ e5 A_w3 (by decide) (by decide) (g := (mkF m 29 #[.val (.ref a1), .val (.int (2 : Int32))] [(.int (2 : Int32)), (.ref w3)])) rfl rfl (hb hby d6_29) hx6 _ k) ?_
  show Run p e below s 0 0 (Q_rm6_0_2 Z a1 w3 f_w3 x6 h0 n0) (T5.setTop (mkF m 30 #[.val (.ref a1), .val (.int (2 : Int32))] [(.int x6)]))
  refine Run.retI X5 hx Bd.returns Bd.notSynchronized (hb hby d6_30) (by decide) (by decide) ?_
  show Q_rm6_0_2 Z a1 w3 f_w3 x6 h0 n0 _ T5.heap _
  exact ⟨rfl, N0, e5⟩
theorem d6_8 : decode prog_5_method_4_code 8 = .ok (.aload_n 0, 1) := by decide +kernel
theorem d6_9 : decode prog_5_method_4_code 9 = .ok (.getfield 13, 3) := by decide +kernel
theorem d6_12 : decode prog_5_method_4_code 12 = .ok (.iload_n 1, 1) := by decide +kernel
theorem d6_13 : decode prog_5_method_4_code 13 = .ok (.invokevirtual 34, 3) := by decide +kernel
theorem pd_1 : parseMethodDescriptor "(I)I" = some ⟨[.int], some .int⟩ := by decide +kernel
theorem d6_16 : decode prog_5_method_4_code 16 = .ok (.goto 14, 3) := by decide +kernel
def Q_rm6_2_0 (Z : State) (a1 : Addr) (w3 : Addr) (w6 : Addr) (f_w6 : Nat → Value) (x7 : Int32) (h0 : Heap) (n0 : Nat) (v : Option Value) (h : Heap) (L : List Loc) : Prop := v = some (.int x7) ∧ Fr n0 L ∧ h = h0
theorem ef_rm6_2_0 (m : MethodId) (x0 : Addr) : entryFrame m #[(.ref x0), (.int (0 : Int32))] 2 = mkF m 0 #[.val (.ref x0), .val (.int (0 : Int32))] [] := by first | (simp [entryFrame, mkF, argsToLocals, Value.category]; done) | rfl
set_option maxRecDepth 65536 in
set_option maxHeartbeats 40000000 in
theorem rm6_2_0 (l : Launch) (Z : State) (a0 : Array Value) (hw : ∀ d ∈ tables_1, d.before a0 Z = true) (ws : List Jvm.Cond) (a1 : Addr) (w3 : Addr) (w6 : Addr) (f_w6 : Nat → Value) (x7 : Int32) (h0 : Heap) (n0 : Nat) (Z0 : n0 ≤ h0.size) (F_baseSize_a1 : Fld Z h0 a1 "com/example/nestor/nestor/IntOverlay" "baseSize" "I" (.int (2 : Int32))) (F_base_a1 : Fld Z h0 a1 "com/example/nestor/nestor/IntOverlay" "base" "Lcom/example/nestor/nestor/IntOverlay;" (.ref w3)) (F_baseSize_w3 : Fld Z h0 w3 "com/example/nestor/nestor/IntOverlay" "baseSize" "I" (.int (0 : Int32))) (F_own_w3 : Fld Z h0 w3 "com/example/nestor/nestor/IntOverlay" "own" "[I" (.ref w6)) (A_w6 : Ary Z h0 w6 .int 8 f_w6) (hx7 : f_w6 0 = (.int x7)) (E_w3 : Exa Z h0 w3 "com/example/nestor/nestor/IntOverlay") :
    MetFree l (⟨"com/example/nestor/nestor/IntOverlay", "get", "(I)I"⟩ : MethodName) (head1 (Jvm.Cond.code (⟨"com/example/nestor/nestor/IntOverlay", "get", "(I)I"⟩ : MethodName) prog_5_method_4_code 2 (some .int) :: ws) ({ frames := 1, cells := 0, slots := 0, locals := 13 } : Room)) (fun a U => a = #[(.ref a1), (.int (0 : Int32))] ∧ Z.Warmed39 U.vm ∧ U.heap = h0) (fun _ _ _ _ _ => True) (fun _ U o U' => ∃ v L, o = .returned v ∧ Q_rm6_2_0 Z a1 w3 w6 f_w6 x7 h0 n0 v U'.heap L ∧ FrameEnd U o U' L ({ frames := 1, cells := 0, slots := 0, locals := 13 } : Room).cells ({ frames := 1, cells := 0, slots := 0, locals := 13 } : Room).slots) := by
  refine MetFree.of_bodySF (plainFor_of_name pn_0) hisR ?_
  intro p e s m args below meth c s₁ Bd hml0 hP hK
  obtain ⟨rfl, hZ, hh⟩ := hP
  have hx := Bd.exec
  have hby := Bd.bytes
  have hml : c.maxLocals = 2 := hml0
  have hown : s.vm.findClass "com/example/nestor/nestor/IntOverlay" = some m.cls := findClass_of_methodNamed Bd.named
  have hnm := (name_of_methodNamed Bd.named Bd.method).1
  have X0 : Stand p l e ({ frames := 1, cells := 0, slots := 0, locals := 13 } : Room) s m #[(.ref a1), (.int (0 : Int32))] below meth c s₁ [] 0 0 := Stand.of_body Bd
  have e0 : s₁.heap = h0 := by rw [← hh, Bd.state]; rfl
  have N0 := Fr.nil n0
  show Run p e below s 0 0 (Q_rm6_2_0 Z a1 w3 w6 f_w6 x7 h0 n0) (s₁.setTop (entryFrame m #[(.ref a1), (.int (0 : Int32))] 2))
  refine Run.go (fun _ k => castTop (ef_rm6_2_0 m a1) k) ?_
  show Run p e below s 0 0 (Q_rm6_2_0 Z a1 w3 w6 f_w6 x7 h0 n0) (s₁.setTop (mkF m 0 #[.val (.ref a1), .val (.int (0 : Int32))] []))
  refine Run.go (fun _ k => XS.iloadN X0.here hx rfl (hb hby d6_0) rfl  k) ?_
  show Run p e below s 0 0 (Q_rm6_2_0 Z a1 w3 w6 f_w6 x7 h0 n0) (s₁.setTop (mkF m 1 #[.val (.ref a1), .val (.int (0 : Int32))] [(.int (0 : Int32))]))
  refine Run.go (fun _ k => XS.aloadN X0.here hx rfl (hb hby d6_1) rfl rfl k) ?_
  show Run p e below s 0 0 (Q_rm6_2_0 Z a1 w3 w6 f_w6 x7 h0 n0) (s₁.setTop (mkF m 2 #[.val (.ref a1), .val (.int (0 : Int32))] [(.ref a1), (.int (0 : Int32))]))
  obtain ⟨T2, X2, e2, st2⟩ := getF X0 hx hZ hown (host := "") (Or.inl (hw _ (List.mem_of_getElem? (i := 15) rfl))) Via.refl e0 F_baseSize_a1 (g := (mkF m 2 #[.val (.ref a1), .val (.int (0 : Int32))] [(.ref a1), (.int (0 : Int32))])) rfl rfl (hb hby d6_2)
  refine Run.go st2 ?_
  show Run p e below s 0 0 (Q_rm6_2_0 Z a1 w3 w6 f_w6 x7 h0 n0) (T2.setTop (mkF m 5 #[.val (.ref a1), .val (.int (0 : Int32))] [(.int (2 : Int32)), (.int (0 : Int32))]))
  refine Run.go (fun _ k => XS.icmpNo X2.here hx rfl (hb hby d6_5) rfl (tlt (by decide)).2.1 k) ?_
  show Run p e below s 0 0 (Q_rm6_2_0 Z a1 w3 w6 f_w6 x7 h0 n0) (T2.setTop (mkF m 8 #[.val (.ref a1), .val (.int (0 : Int32))] []))
  refine Run.go (fun _ k => XS.aloadN X2.here hx rfl (hb hby d6_8) rfl rfl k) ?_
  show Run p e below s 0 0 (Q_rm6_2_0 Z a1 w3 w6 f_w6 x7 h0 n0) (T2.setTop (mkF m 9 #[.val (.ref a1), .val (.int (0 : Int32))] [(.ref a1)]))
  obtain ⟨T4, X4, e4, st4⟩ := getF X2 hx hZ hown (host := "") (Or.inl (hw _ (List.mem_of_getElem? (i := 13) rfl))) Via.refl e2 F_base_a1 (g := (mkF m 9 #[.val (.ref a1), .val (.int (0 : Int32))] [(.ref a1)])) rfl rfl (hb hby d6_9)
  refine Run.go st4 ?_
  show Run p e below s 0 0 (Q_rm6_2_0 Z a1 w3 w6 f_w6 x7 h0 n0) (T4.setTop (mkF m 12 #[.val (.ref a1), .val (.int (0 : Int32))] [(.ref w3)]))
  refine Run.go (fun _ k => XS.iloadN X4.here hx rfl (hb hby d6_12) rfl  k) ?_
  show Run p e below s 0 0 (Q_rm6_2_0 Z a1 w3 w6 f_w6 x7 h0 n0) (T4.setTop (mkF m 13 #[.val (.ref a1), .val (.int (0 : Int32))] [(.int (0 : Int32)), (.ref w3)]))
  obtain ⟨cq5, kq5, q5a, q5b, q5c⟩ := isOf hZ e4 E_w3
  obtain ⟨_, _, ⟨T5, L5, k5, n5⟩, -, X5, ⟨Lc5, hQ5, l5, y5, z5⟩, st5⟩ := X4.virtualBack hx (y := (⟨"com/example/nestor/nestor/IntOverlay", "get", "(I)I"⟩ : MethodName)) (z := (⟨"com/example/nestor/nestor/IntOverlay", "get", "(I)I"⟩ : MethodName)) hown (mvT hZ (hw _ (List.mem_of_getElem? (i := 37) rfl))) (mvT hZ (hw _ (List.mem_of_getElem? (i := 33) rfl))) (notFace_of_selects (args := #[]) (mvT hZ (hw _ (List.mem_of_getElem? (i := 35) rfl)))) (mvT hZ (hw _ (List.mem_of_getElem? (i := 35) rfl))) (mvT hZ (hw _ (List.mem_of_getElem? (i := 34) rfl))) (by decide) (backOf (W := 0) (rm6_0_0 l Z a0 hw [] w3 w6 f_w6 x7 h0 n0 Z0 F_baseSize_w3 F_own_w3 A_w6 hx7) hZ (hw _ (List.mem_of_getElem? (i := 36) rfl)) (hw _ (List.mem_of_getElem? (i := 3) rfl)) (by decide) (by decide)) q5a q5c (g := (mkF m 13 #[.val (.ref a1), .val (.int (0 : Int32))] [(.int (0 : Int32)), (.ref w3)])) rfl (by rw [hml]; rfl) (Steps.refl _) (argsL := [(.int (0 : Int32))]) (rest := []) (lenOf pd_1 rfl) rfl (by show 2 * 0 + _ ≤ _; exact Nat.le_of_eq rfl) (hb hby d6_13) (fun _ _ => ⟨rfl, e4, (by decide : 0 + 0 ≤ _), (by decide : 0 + 0 ≤ _)⟩)
  dsimp only [Pt.U, Pt.locs, Pt.cells, Pt.slots] at X5 l5 y5 z5 st5 hQ5
  subst l5 y5 z5
  obtain ⟨rfl, N5q, e5q⟩ := hQ5
  have N5 := Fr.app N0 N5q
  refine Run.tr st5 ?_
  show Run p e below s 0 0 (Q_rm6_2_0 Z a1 w3 w6 f_w6 x7 h0 n0) (T5.setTop (mkF m 16 #[.val (.ref a1), .val (.int (0 : Int32))] [(.int x7)]))
  refine Run.go (fun _ k => XS.goto X5.here hx rfl (pc0 := 16) (pc' := 30) rfl (hb hby d6_16) (by decide) (by decide) k) ?_
  show Run p e below s 0 0 (Q_rm6_2_0 Z a1 w3 w6 f_w6 x7 h0 n0) (T5.setTop (mkF m 30 #[.val (.ref a1), .val (.int (0 : Int32))] [(.int x7)]))
  refine Run.retI X5 hx Bd.returns Bd.notSynchronized (hb hby d6_30) (by decide) (by decide) ?_
  show Q_rm6_2_0 Z a1 w3 w6 f_w6 x7 h0 n0 _ T5.heap _
  exact ⟨rfl, N5, e5q⟩
def Q_rm6_2_1 (Z : State) (a1 : Addr) (w3 : Addr) (w6 : Addr) (f_w6 : Nat → Value) (x7 : Int32) (h0 : Heap) (n0 : Nat) (v : Option Value) (h : Heap) (L : List Loc) : Prop := v = some (.int x7) ∧ Fr n0 L ∧ h = h0
theorem ef_rm6_2_1 (m : MethodId) (x0 : Addr) : entryFrame m #[(.ref x0), (.int (1 : Int32))] 2 = mkF m 0 #[.val (.ref x0), .val (.int (1 : Int32))] [] := by first | (simp [entryFrame, mkF, argsToLocals, Value.category]; done) | rfl
set_option maxRecDepth 65536 in
set_option maxHeartbeats 40000000 in
theorem rm6_2_1 (l : Launch) (Z : State) (a0 : Array Value) (hw : ∀ d ∈ tables_1, d.before a0 Z = true) (ws : List Jvm.Cond) (a1 : Addr) (w3 : Addr) (w6 : Addr) (f_w6 : Nat → Value) (x7 : Int32) (h0 : Heap) (n0 : Nat) (Z0 : n0 ≤ h0.size) (F_baseSize_a1 : Fld Z h0 a1 "com/example/nestor/nestor/IntOverlay" "baseSize" "I" (.int (2 : Int32))) (F_base_a1 : Fld Z h0 a1 "com/example/nestor/nestor/IntOverlay" "base" "Lcom/example/nestor/nestor/IntOverlay;" (.ref w3)) (F_baseSize_w3 : Fld Z h0 w3 "com/example/nestor/nestor/IntOverlay" "baseSize" "I" (.int (0 : Int32))) (F_own_w3 : Fld Z h0 w3 "com/example/nestor/nestor/IntOverlay" "own" "[I" (.ref w6)) (A_w6 : Ary Z h0 w6 .int 8 f_w6) (hx7 : f_w6 1 = (.int x7)) (E_w3 : Exa Z h0 w3 "com/example/nestor/nestor/IntOverlay") :
    MetFree l (⟨"com/example/nestor/nestor/IntOverlay", "get", "(I)I"⟩ : MethodName) (head1 (Jvm.Cond.code (⟨"com/example/nestor/nestor/IntOverlay", "get", "(I)I"⟩ : MethodName) prog_5_method_4_code 2 (some .int) :: ws) ({ frames := 1, cells := 0, slots := 0, locals := 13 } : Room)) (fun a U => a = #[(.ref a1), (.int (1 : Int32))] ∧ Z.Warmed39 U.vm ∧ U.heap = h0) (fun _ _ _ _ _ => True) (fun _ U o U' => ∃ v L, o = .returned v ∧ Q_rm6_2_1 Z a1 w3 w6 f_w6 x7 h0 n0 v U'.heap L ∧ FrameEnd U o U' L ({ frames := 1, cells := 0, slots := 0, locals := 13 } : Room).cells ({ frames := 1, cells := 0, slots := 0, locals := 13 } : Room).slots) := by
  refine MetFree.of_bodySF (plainFor_of_name pn_0) hisR ?_
  intro p e s m args below meth c s₁ Bd hml0 hP hK
  obtain ⟨rfl, hZ, hh⟩ := hP
  have hx := Bd.exec
  have hby := Bd.bytes
  have hml : c.maxLocals = 2 := hml0
  have hown : s.vm.findClass "com/example/nestor/nestor/IntOverlay" = some m.cls := findClass_of_methodNamed Bd.named
  have hnm := (name_of_methodNamed Bd.named Bd.method).1
  have X0 : Stand p l e ({ frames := 1, cells := 0, slots := 0, locals := 13 } : Room) s m #[(.ref a1), (.int (1 : Int32))] below meth c s₁ [] 0 0 := Stand.of_body Bd
  have e0 : s₁.heap = h0 := by rw [← hh, Bd.state]; rfl
  have N0 := Fr.nil n0
  show Run p e below s 0 0 (Q_rm6_2_1 Z a1 w3 w6 f_w6 x7 h0 n0) (s₁.setTop (entryFrame m #[(.ref a1), (.int (1 : Int32))] 2))
  refine Run.go (fun _ k => castTop (ef_rm6_2_1 m a1) k) ?_
  show Run p e below s 0 0 (Q_rm6_2_1 Z a1 w3 w6 f_w6 x7 h0 n0) (s₁.setTop (mkF m 0 #[.val (.ref a1), .val (.int (1 : Int32))] []))
  refine Run.go (fun _ k => XS.iloadN X0.here hx rfl (hb hby d6_0) rfl  k) ?_
  show Run p e below s 0 0 (Q_rm6_2_1 Z a1 w3 w6 f_w6 x7 h0 n0) (s₁.setTop (mkF m 1 #[.val (.ref a1), .val (.int (1 : Int32))] [(.int (1 : Int32))]))
  refine Run.go (fun _ k => XS.aloadN X0.here hx rfl (hb hby d6_1) rfl rfl k) ?_
  show Run p e below s 0 0 (Q_rm6_2_1 Z a1 w3 w6 f_w6 x7 h0 n0) (s₁.setTop (mkF m 2 #[.val (.ref a1), .val (.int (1 : Int32))] [(.ref a1), (.int (1 : Int32))]))
  obtain ⟨T2, X2, e2, st2⟩ := getF X0 hx hZ hown (host := "") (Or.inl (hw _ (List.mem_of_getElem? (i := 15) rfl))) Via.refl e0 F_baseSize_a1 (g := (mkF m 2 #[.val (.ref a1), .val (.int (1 : Int32))] [(.ref a1), (.int (1 : Int32))])) rfl rfl (hb hby d6_2)
  refine Run.go st2 ?_
  show Run p e below s 0 0 (Q_rm6_2_1 Z a1 w3 w6 f_w6 x7 h0 n0) (T2.setTop (mkF m 5 #[.val (.ref a1), .val (.int (1 : Int32))] [(.int (2 : Int32)), (.int (1 : Int32))]))
  refine Run.go (fun _ k => XS.icmpNo X2.here hx rfl (hb hby d6_5) rfl (tlt (by decide)).2.1 k) ?_
  show Run p e below s 0 0 (Q_rm6_2_1 Z a1 w3 w6 f_w6 x7 h0 n0) (T2.setTop (mkF m 8 #[.val (.ref a1), .val (.int (1 : Int32))] []))
  refine Run.go (fun _ k => XS.aloadN X2.here hx rfl (hb hby d6_8) rfl rfl k) ?_
  show Run p e below s 0 0 (Q_rm6_2_1 Z a1 w3 w6 f_w6 x7 h0 n0) (T2.setTop (mkF m 9 #[.val (.ref a1), .val (.int (1 : Int32))] [(.ref a1)]))
  obtain ⟨T4, X4, e4, st4⟩ := getF X2 hx hZ hown (host := "") (Or.inl (hw _ (List.mem_of_getElem? (i := 13) rfl))) Via.refl e2 F_base_a1 (g := (mkF m 9 #[.val (.ref a1), .val (.int (1 : Int32))] [(.ref a1)])) rfl rfl (hb hby d6_9)
  refine Run.go st4 ?_
  show Run p e below s 0 0 (Q_rm6_2_1 Z a1 w3 w6 f_w6 x7 h0 n0) (T4.setTop (mkF m 12 #[.val (.ref a1), .val (.int (1 : Int32))] [(.ref w3)]))
  refine Run.go (fun _ k => XS.iloadN X4.here hx rfl (hb hby d6_12) rfl  k) ?_
  show Run p e below s 0 0 (Q_rm6_2_1 Z a1 w3 w6 f_w6 x7 h0 n0) (T4.setTop (mkF m 13 #[.val (.ref a1), .val (.int (1 : Int32))] [(.int (1 : Int32)), (.ref w3)]))
  obtain ⟨cq5, kq5, q5a, q5b, q5c⟩ := isOf hZ e4 E_w3
  obtain ⟨_, _, ⟨T5, L5, k5, n5⟩, -, X5, ⟨Lc5, hQ5, l5, y5, z5⟩, st5⟩ := X4.virtualBack hx (y := (⟨"com/example/nestor/nestor/IntOverlay", "get", "(I)I"⟩ : MethodName)) (z := (⟨"com/example/nestor/nestor/IntOverlay", "get", "(I)I"⟩ : MethodName)) hown (mvT hZ (hw _ (List.mem_of_getElem? (i := 37) rfl))) (mvT hZ (hw _ (List.mem_of_getElem? (i := 33) rfl))) (notFace_of_selects (args := #[]) (mvT hZ (hw _ (List.mem_of_getElem? (i := 35) rfl)))) (mvT hZ (hw _ (List.mem_of_getElem? (i := 35) rfl))) (mvT hZ (hw _ (List.mem_of_getElem? (i := 34) rfl))) (by decide) (backOf (W := 0) (rm6_0_1 l Z a0 hw [] w3 w6 f_w6 x7 h0 n0 Z0 F_baseSize_w3 F_own_w3 A_w6 hx7) hZ (hw _ (List.mem_of_getElem? (i := 36) rfl)) (hw _ (List.mem_of_getElem? (i := 3) rfl)) (by decide) (by decide)) q5a q5c (g := (mkF m 13 #[.val (.ref a1), .val (.int (1 : Int32))] [(.int (1 : Int32)), (.ref w3)])) rfl (by rw [hml]; rfl) (Steps.refl _) (argsL := [(.int (1 : Int32))]) (rest := []) (lenOf pd_1 rfl) rfl (by show 2 * 0 + _ ≤ _; exact Nat.le_of_eq rfl) (hb hby d6_13) (fun _ _ => ⟨rfl, e4, (by decide : 0 + 0 ≤ _), (by decide : 0 + 0 ≤ _)⟩)
  dsimp only [Pt.U, Pt.locs, Pt.cells, Pt.slots] at X5 l5 y5 z5 st5 hQ5
  subst l5 y5 z5
  obtain ⟨rfl, N5q, e5q⟩ := hQ5
  have N5 := Fr.app N0 N5q
  refine Run.tr st5 ?_
  show Run p e below s 0 0 (Q_rm6_2_1 Z a1 w3 w6 f_w6 x7 h0 n0) (T5.setTop (mkF m 16 #[.val (.ref a1), .val (.int (1 : Int32))] [(.int x7)]))
  refine Run.go (fun _ k => XS.goto X5.here hx rfl (pc0 := 16) (pc' := 30) rfl (hb hby d6_16) (by decide) (by decide) k) ?_
  show Run p e below s 0 0 (Q_rm6_2_1 Z a1 w3 w6 f_w6 x7 h0 n0) (T5.setTop (mkF m 30 #[.val (.ref a1), .val (.int (1 : Int32))] [(.int x7)]))
  refine Run.retI X5 hx Bd.returns Bd.notSynchronized (hb hby d6_30) (by decide) (by decide) ?_
  show Q_rm6_2_1 Z a1 w3 w6 f_w6 x7 h0 n0 _ T5.heap _
  exact ⟨rfl, N5, e5q⟩
def Q_rm6_2_2 (Z : State) (a1 : Addr) (w3 : Addr) (f_w3 : Nat → Value) (x6 : Int32) (h0 : Heap) (n0 : Nat) (v : Option Value) (h : Heap) (L : List Loc) : Prop := v = some (.int x6) ∧ Fr n0 L ∧ h = h0
theorem ef_rm6_2_2 (m : MethodId) (x0 : Addr) : entryFrame m #[(.ref x0), (.int (2 : Int32))] 2 = mkF m 0 #[.val (.ref x0), .val (.int (2 : Int32))] [] := by first | (simp [entryFrame, mkF, argsToLocals, Value.category]; done) | rfl
set_option maxRecDepth 65536 in
set_option maxHeartbeats 40000000 in
theorem rm6_2_2 (l : Launch) (Z : State) (a0 : Array Value) (hw : ∀ d ∈ tables_1, d.before a0 Z = true) (ws : List Jvm.Cond) (a1 : Addr) (w3 : Addr) (f_w3 : Nat → Value) (x6 : Int32) (h0 : Heap) (n0 : Nat) (Z0 : n0 ≤ h0.size) (F_baseSize_a1 : Fld Z h0 a1 "com/example/nestor/nestor/IntOverlay" "baseSize" "I" (.int (2 : Int32))) (F_own_a1 : Fld Z h0 a1 "com/example/nestor/nestor/IntOverlay" "own" "[I" (.ref w3)) (A_w3 : Ary Z h0 w3 .int 8 f_w3) (hx6 : f_w3 0 = (.int x6)) :
    MetFree l (⟨"com/example/nestor/nestor/IntOverlay", "get", "(I)I"⟩ : MethodName) (head1 (Jvm.Cond.code (⟨"com/example/nestor/nestor/IntOverlay", "get", "(I)I"⟩ : MethodName) prog_5_method_4_code 2 (some .int) :: ws) ({ frames := 0, cells := 0, slots := 0, locals := 0 } : Room)) (fun a U => a = #[(.ref a1), (.int (2 : Int32))] ∧ Z.Warmed39 U.vm ∧ U.heap = h0) (fun _ _ _ _ _ => True) (fun _ U o U' => ∃ v L, o = .returned v ∧ Q_rm6_2_2 Z a1 w3 f_w3 x6 h0 n0 v U'.heap L ∧ FrameEnd U o U' L ({ frames := 0, cells := 0, slots := 0, locals := 0 } : Room).cells ({ frames := 0, cells := 0, slots := 0, locals := 0 } : Room).slots) := by
  refine MetFree.of_bodySF (plainFor_of_name pn_0) hisR ?_
  intro p e s m args below meth c s₁ Bd hml0 hP hK
  obtain ⟨rfl, hZ, hh⟩ := hP
  have hx := Bd.exec
  have hby := Bd.bytes
  have hml : c.maxLocals = 2 := hml0
  have hown : s.vm.findClass "com/example/nestor/nestor/IntOverlay" = some m.cls := findClass_of_methodNamed Bd.named
  have hnm := (name_of_methodNamed Bd.named Bd.method).1
  have X0 : Stand p l e ({ frames := 0, cells := 0, slots := 0, locals := 0 } : Room) s m #[(.ref a1), (.int (2 : Int32))] below meth c s₁ [] 0 0 := Stand.of_body Bd
  have e0 : s₁.heap = h0 := by rw [← hh, Bd.state]; rfl
  have N0 := Fr.nil n0
  show Run p e below s 0 0 (Q_rm6_2_2 Z a1 w3 f_w3 x6 h0 n0) (s₁.setTop (entryFrame m #[(.ref a1), (.int (2 : Int32))] 2))
  refine Run.go (fun _ k => castTop (ef_rm6_2_2 m a1) k) ?_
  show Run p e below s 0 0 (Q_rm6_2_2 Z a1 w3 f_w3 x6 h0 n0) (s₁.setTop (mkF m 0 #[.val (.ref a1), .val (.int (2 : Int32))] []))
  refine Run.go (fun _ k => XS.iloadN X0.here hx rfl (hb hby d6_0) rfl  k) ?_
  show Run p e below s 0 0 (Q_rm6_2_2 Z a1 w3 f_w3 x6 h0 n0) (s₁.setTop (mkF m 1 #[.val (.ref a1), .val (.int (2 : Int32))] [(.int (2 : Int32))]))
  refine Run.go (fun _ k => XS.aloadN X0.here hx rfl (hb hby d6_1) rfl rfl k) ?_
  show Run p e below s 0 0 (Q_rm6_2_2 Z a1 w3 f_w3 x6 h0 n0) (s₁.setTop (mkF m 2 #[.val (.ref a1), .val (.int (2 : Int32))] [(.ref a1), (.int (2 : Int32))]))
  obtain ⟨T2, X2, e2, st2⟩ := getF X0 hx hZ hown (host := "") (Or.inl (hw _ (List.mem_of_getElem? (i := 15) rfl))) Via.refl e0 F_baseSize_a1 (g := (mkF m 2 #[.val (.ref a1), .val (.int (2 : Int32))] [(.ref a1), (.int (2 : Int32))])) rfl rfl (hb hby d6_2)
  refine Run.go st2 ?_
  show Run p e below s 0 0 (Q_rm6_2_2 Z a1 w3 f_w3 x6 h0 n0) (T2.setTop (mkF m 5 #[.val (.ref a1), .val (.int (2 : Int32))] [(.int (2 : Int32)), (.int (2 : Int32))]))
  refine Run.go (fun _ k => XS.icmpYes X2.here hx rfl (pc0 := 5) (pc' := 19) rfl (hb hby d6_5) rfl (flt (by decide)).2.1 (by decide) (by decide) k) ?_
  show Run p e below s 0 0 (Q_rm6_2_2 Z a1 w3 f_w3 x6 h0 n0) (T2.setTop (mkF m 19 #[.val (.ref a1), .val (.int (2 : Int32))] []))
  refine Run.go (fun _ k => XS.aloadN X2.here hx rfl (hb hby d6_19) rfl rfl k) ?_
  show Run p e below s 0 0 (Q_rm6_2_2 Z a1 w3 f_w3 x6 h0 n0) (T2.setTop (mkF m 20 #[.val (.ref a1), .val (.int (2 : Int32))] [(.ref a1)]))
  obtain ⟨T4, X4, e4, st4⟩ := getF X2 hx hZ hown (host := "") (Or.inl (hw _ (List.mem_of_getElem? (i := 11) rfl))) Via.refl e2 F_own_a1 (g := (mkF m 20 #[.val (.ref a1), .val (.int (2 : Int32))] [(.ref a1)])) rfl rfl (hb hby d6_20)
  refine Run.go st4 ?_
  show Run p e below s 0 0 (Q_rm6_2_2 Z a1 w3 f_w3 x6 h0 n0) (T4.setTop (mkF m 23 #[.val (.ref a1), .val (.int (2 : Int32))] [(.ref w3)]))
  refine Run.go (fun _ k => XS.iloadN X4.here hx rfl (hb hby d6_23) rfl  k) ?_
  show Run p e below s 0 0 (Q_rm6_2_2 Z a1 w3 f_w3 x6 h0 n0) (T4.setTop (mkF m 24 #[.val (.ref a1), .val (.int (2 : Int32))] [(.int (2 : Int32)), (.ref w3)]))
  refine Run.go (fun _ k => XS.aloadN X4.here hx rfl (hb hby d6_24) rfl rfl k) ?_
  show Run p e below s 0 0 (Q_rm6_2_2 Z a1 w3 f_w3 x6 h0 n0) (T4.setTop (mkF m 25 #[.val (.ref a1), .val (.int (2 : Int32))] [(.ref a1), (.int (2 : Int32)), (.ref w3)]))
  obtain ⟨T5, X5, e5, st5⟩ := getF X4 hx hZ hown (host := "") (Or.inl (hw _ (List.mem_of_getElem? (i := 15) rfl))) Via.refl e4 F_baseSize_a1 (g := (mkF m 25 #[.val (.ref a1), .val (.int (2 : Int32))] [(.ref a1), (.int (2 : Int32)), (.ref w3)])) rfl rfl (hb hby d6_25)
  refine Run.go st5 ?_
  show Run p e below s 0 0 (Q_rm6_2_2 Z a1 w3 f_w3 x6 h0 n0) (T5.setTop (mkF m 28 #[.val (.ref a1), .val (.int (2 : Int32))] [(.int (2 : Int32)), (.int (2 : Int32)), (.ref w3)]))
  refine Run.go (fun _ k => XS.isub X5.here hx rfl (hb hby d6_28) rfl k) ?_
  show Run p e below s 0 0 (Q_rm6_2_2 Z a1 w3 f_w3 x6 h0 n0) (T5.setTop (mkF m 29 #[.val (.ref a1), .val (.int (2 : Int32))] [(.int (0 : Int32)), (.ref w3)]))
  refine Run.go (fun _ k => ary_iget X5 hx hZ e5 A_w3 (by decide) (by decide) (g := (mkF m 29 #[.val (.ref a1), .val (.int (2 : Int32))] [(.int (0 : Int32)), (.ref w3)])) rfl rfl (hb hby d6_29) hx6 _ k) ?_
  show Run p e below s 0 0 (Q_rm6_2_2 Z a1 w3 f_w3 x6 h0 n0) (T5.setTop (mkF m 30 #[.val (.ref a1), .val (.int (2 : Int32))] [(.int x6)]))
  refine Run.retI X5 hx Bd.returns Bd.notSynchronized (hb hby d6_30) (by decide) (by decide) ?_
  show Q_rm6_2_2 Z a1 w3 f_w3 x6 h0 n0 _ T5.heap _
  exact ⟨rfl, N0, e5⟩
def Q_rm6_2_3 (Z : State) (a1 : Addr) (w3 : Addr) (f_w3 : Nat → Value) (x6 : Int32) (h0 : Heap) (n0 : Nat) (v : Option Value) (h : Heap) (L : List Loc) : Prop := v = some (.int x6) ∧ Fr n0 L ∧ h = h0
theorem ef_rm6_2_3 (m : MethodId) (x0 : Addr) : entryFrame m #[(.ref x0), (.int (3 : Int32))] 2 = mkF m 0 #[.val (.ref x0), .val (.int (3 : Int32))] [] := by first | (simp [entryFrame, mkF, argsToLocals, Value.category]; done) | rfl
set_option maxRecDepth 65536 in
set_option maxHeartbeats 40000000 in
theorem rm6_2_3 (l : Launch) (Z : State) (a0 : Array Value) (hw : ∀ d ∈ tables_1, d.before a0 Z = true) (ws : List Jvm.Cond) (a1 : Addr) (w3 : Addr) (f_w3 : Nat → Value) (x6 : Int32) (h0 : Heap) (n0 : Nat) (Z0 : n0 ≤ h0.size) (F_baseSize_a1 : Fld Z h0 a1 "com/example/nestor/nestor/IntOverlay" "baseSize" "I" (.int (2 : Int32))) (F_own_a1 : Fld Z h0 a1 "com/example/nestor/nestor/IntOverlay" "own" "[I" (.ref w3)) (A_w3 : Ary Z h0 w3 .int 8 f_w3) (hx6 : f_w3 1 = (.int x6)) :
    MetFree l (⟨"com/example/nestor/nestor/IntOverlay", "get", "(I)I"⟩ : MethodName) (head1 (Jvm.Cond.code (⟨"com/example/nestor/nestor/IntOverlay", "get", "(I)I"⟩ : MethodName) prog_5_method_4_code 2 (some .int) :: ws) ({ frames := 0, cells := 0, slots := 0, locals := 0 } : Room)) (fun a U => a = #[(.ref a1), (.int (3 : Int32))] ∧ Z.Warmed39 U.vm ∧ U.heap = h0) (fun _ _ _ _ _ => True) (fun _ U o U' => ∃ v L, o = .returned v ∧ Q_rm6_2_3 Z a1 w3 f_w3 x6 h0 n0 v U'.heap L ∧ FrameEnd U o U' L ({ frames := 0, cells := 0, slots := 0, locals := 0 } : Room).cells ({ frames := 0, cells := 0, slots := 0, locals := 0 } : Room).slots) := by
  refine MetFree.of_bodySF (plainFor_of_name pn_0) hisR ?_
  intro p e s m args below meth c s₁ Bd hml0 hP hK
  obtain ⟨rfl, hZ, hh⟩ := hP
  have hx := Bd.exec
  have hby := Bd.bytes
  have hml : c.maxLocals = 2 := hml0
  have hown : s.vm.findClass "com/example/nestor/nestor/IntOverlay" = some m.cls := findClass_of_methodNamed Bd.named
  have hnm := (name_of_methodNamed Bd.named Bd.method).1
  have X0 : Stand p l e ({ frames := 0, cells := 0, slots := 0, locals := 0 } : Room) s m #[(.ref a1), (.int (3 : Int32))] below meth c s₁ [] 0 0 := Stand.of_body Bd
  have e0 : s₁.heap = h0 := by rw [← hh, Bd.state]; rfl
  have N0 := Fr.nil n0
  show Run p e below s 0 0 (Q_rm6_2_3 Z a1 w3 f_w3 x6 h0 n0) (s₁.setTop (entryFrame m #[(.ref a1), (.int (3 : Int32))] 2))
  refine Run.go (fun _ k => castTop (ef_rm6_2_3 m a1) k) ?_
  show Run p e below s 0 0 (Q_rm6_2_3 Z a1 w3 f_w3 x6 h0 n0) (s₁.setTop (mkF m 0 #[.val (.ref a1), .val (.int (3 : Int32))] []))
  refine Run.go (fun _ k => XS.iloadN X0.here hx rfl (hb hby d6_0) rfl  k) ?_
  show Run p e below s 0 0 (Q_rm6_2_3 Z a1 w3 f_w3 x6 h0 n0) (s₁.setTop (mkF m 1 #[.val (.ref a1), .val (.int (3 : Int32))] [(.int (3 : Int32))]))
  refine Run.go (fun _ k => XS.aloadN X0.here hx rfl (hb hby d6_1) rfl rfl k) ?_
  show Run p e below s 0 0 (Q_rm6_2_3 Z a1 w3 f_w3 x6 h0 n0) (s₁.setTop (mkF m 2 #[.val (.ref a1), .val (.int (3 : Int32))] [(.ref a1), (.int (3 : Int32))]))
  obtain ⟨T2, X2, e2, st2⟩ := getF X0 hx hZ hown (host := "") (Or.inl (hw _ (List.mem_of_getElem? (i := 15) rfl))) Via.refl e0 F_baseSize_a1 (g := (mkF m 2 #[.val (.ref a1), .val (.int (3 : Int32))] [(.ref a1), (.int (3 : Int32))])) rfl rfl (hb hby d6_2)
  refine Run.go st2 ?_
  show Run p e below s 0 0 (Q_rm6_2_3 Z a1 w3 f_w3 x6 h0 n0) (T2.setTop (mkF m 5 #[.val (.ref a1), .val (.int (3 : Int32))] [(.int (2 : Int32)), (.int (3 : Int32))]))
  refine Run.go (fun _ k => XS.icmpYes X2.here hx rfl (pc0 := 5) (pc' := 19) rfl (hb hby d6_5) rfl (flt (by decide)).2.1 (by decide) (by decide) k) ?_
  show Run p e below s 0 0 (Q_rm6_2_3 Z a1 w3 f_w3 x6 h0 n0) (T2.setTop (mkF m 19 #[.val (.ref a1), .val (.int (3 : Int32))] []))
  refine Run.go (fun _ k => XS.aloadN X2.here hx rfl (hb hby d6_19) rfl rfl k) ?_
  show Run p e below s 0 0 (Q_rm6_2_3 Z a1 w3 f_w3 x6 h0 n0) (T2.setTop (mkF m 20 #[.val (.ref a1), .val (.int (3 : Int32))] [(.ref a1)]))
  obtain ⟨T4, X4, e4, st4⟩ := getF X2 hx hZ hown (host := "") (Or.inl (hw _ (List.mem_of_getElem? (i := 11) rfl))) Via.refl e2 F_own_a1 (g := (mkF m 20 #[.val (.ref a1), .val (.int (3 : Int32))] [(.ref a1)])) rfl rfl (hb hby d6_20)
  refine Run.go st4 ?_
  show Run p e below s 0 0 (Q_rm6_2_3 Z a1 w3 f_w3 x6 h0 n0) (T4.setTop (mkF m 23 #[.val (.ref a1), .val (.int (3 : Int32))] [(.ref w3)]))
  refine Run.go (fun _ k => XS.iloadN X4.here hx rfl (hb hby d6_23) rfl  k) ?_
  show Run p e below s 0 0 (Q_rm6_2_3 Z a1 w3 f_w3 x6 h0 n0) (T4.setTop (mkF m 24 #[.val (.ref a1), .val (.int (3 : Int32))] [(.int (3 : Int32)), (.ref w3)]))
  refine Run.go (fun _ k => XS.aloadN X4.here hx rfl (hb hby d6_24) rfl rfl k) ?_
  show Run p e below s 0 0 (Q_rm6_2_3 Z a1 w3 f_w3 x6 h0 n0) (T4.setTop (mkF m 25 #[.val (.ref a1), .val (.int (3 : Int32))] [(.ref a1), (.int (3 : Int32)), (.ref w3)]))
  obtain ⟨T5, X5, e5, st5⟩ := getF X4 hx hZ hown (host := "") (Or.inl (hw _ (List.mem_of_getElem? (i := 15) rfl))) Via.refl e4 F_baseSize_a1 (g := (mkF m 25 #[.val (.ref a1), .val (.int (3 : Int32))] [(.ref a1), (.int (3 : Int32)), (.ref w3)])) rfl rfl (hb hby d6_25)
  refine Run.go st5 ?_
  show Run p e below s 0 0 (Q_rm6_2_3 Z a1 w3 f_w3 x6 h0 n0) (T5.setTop (mkF m 28 #[.val (.ref a1), .val (.int (3 : Int32))] [(.int (2 : Int32)), (.int (3 : Int32)), (.ref w3)]))
  refine Run.go (fun _ k => XS.isub X5.here hx rfl (hb hby d6_28) rfl k) ?_
  show Run p e below s 0 0 (Q_rm6_2_3 Z a1 w3 f_w3 x6 h0 n0) (T5.setTop (mkF m 29 #[.val (.ref a1), .val (.int (3 : Int32))] [(.int (1 : Int32)), (.ref w3)]))
  refine Run.go (fun _ k => ary_iget X5 hx hZ e5 A_w3 (by decide) (by decide) (g := (mkF m 29 #[.val (.ref a1), .val (.int (3 : Int32))] [(.int (1 : Int32)), (.ref w3)])) rfl rfl (hb hby d6_29) hx6 _ k) ?_
  show Run p e below s 0 0 (Q_rm6_2_3 Z a1 w3 f_w3 x6 h0 n0) (T5.setTop (mkF m 30 #[.val (.ref a1), .val (.int (3 : Int32))] [(.int x6)]))
  refine Run.retI X5 hx Bd.returns Bd.notSynchronized (hb hby d6_30) (by decide) (by decide) ?_
  show Q_rm6_2_3 Z a1 w3 f_w3 x6 h0 n0 _ T5.heap _
  exact ⟨rfl, N0, e5⟩
theorem own_c (k : Int32) : (k &&& (2147483647 : Int32)) % (4 : Int32) = 0 ∨ (k &&& (2147483647 : Int32)) % (4 : Int32) = 1 ∨ (k &&& (2147483647 : Int32)) % (4 : Int32) = 2 ∨ (k &&& (2147483647 : Int32)) % (4 : Int32) = 3 := by
  have h := c_and k 2147483647 (by decide)
  have h2 := (c_irem (k &&& (2147483647 : Int32)) 4 4 rfl).1 h.1
  simp only [← Int32.toInt_inj, show (0 : Int32).toInt = 0 from rfl, show (1 : Int32).toInt = 1 from rfl, show (2 : Int32).toInt = 2 from rfl, show (3 : Int32).toInt = 3 from rfl]
  omega
theorem pd_2 : parseMethodDescriptor "()V" = some ⟨[], none⟩ := by decide +kernel
theorem pd_3 : parseMethodDescriptor "(I)V" = some ⟨[.int], none⟩ := by decide +kernel
theorem pd_4 : parseMethodDescriptor "(Lcom/example/nestor/nestor/IntOverlay;)V" = some ⟨[(.object "com/example/nestor/nestor/IntOverlay")], none⟩ := by decide +kernel
def Q_rm0 (Z : State) (p1 : Int32) (p2 : Int32) (p3 : Int32) (p4 : Int32) (p5 : Int32) (p6 : Int32) (h0 : Heap) (n0 : Nat) (v : Option Value) (h : Heap) (L : List Loc) : Prop := v = some (.int 1) ∧ Fr n0 L
theorem ef_rm0 (m : MethodId) (x0 : Int32) (x1 : Int32) (x2 : Int32) (x3 : Int32) (x4 : Int32) (x5 : Int32) : entryFrame m #[(.int x0), (.int x1), (.int x2), (.int x3), (.int x4), (.int x5)] maxLocals = mkF m 0 #[.val (.int x0), .val (.int x1), .val (.int x2), .val (.int x3), .val (.int x4), .val (.int x5), .unset, .unset, .unset, .unset, .unset, .unset, .unset, .unset] [] := by first | (simp [entryFrame, mkF, argsToLocals, Value.category, maxLocals]; done) | rfl
theorem pn_1 : plainName "com/example/nestor/nestor/IntOverlayGetPinLaw" = true := by first | (simp [plainName, overriddenIn]; done) | decide +kernel
set_option maxRecDepth 65536 in
set_option maxHeartbeats 40000000 in
theorem rm0 (l : Launch) (Z : State) (a0 : Array Value) (hw : ∀ d ∈ tables_1, d.before a0 Z = true) (ws : List Jvm.Cond) (p1 : Int32) (p2 : Int32) (p3 : Int32) (p4 : Int32) (p5 : Int32) (p6 : Int32) (h0 : Heap) (n0 : Nat) (Z0 : n0 ≤ h0.size)  :
    MetFree l x (head1 (Jvm.Cond.code x code maxLocals ret :: ws) room_1) (fun a U => a = #[(.int p1), (.int p2), (.int p3), (.int p4), (.int p5), (.int p6)] ∧ Z.Warmed39 U.vm ∧ U.heap = h0) (fun _ _ _ _ _ => True) (fun _ U o U' => ∃ v L, o = .returned v ∧ Q_rm0 Z p1 p2 p3 p4 p5 p6 h0 n0 v U'.heap L ∧ FrameEnd U o U' L 4 24) := by
  refine MetFree.of_bodySF (plainFor_of_name pn_1) hisR ?_
  intro p e s m args below meth c s₁ Bd hml0 hP hK
  obtain ⟨rfl, hZ, hh⟩ := hP
  have hx := Bd.exec
  have hby := Bd.bytes
  have hml : c.maxLocals = 14 := hml0
  have hown : s.vm.findClass "com/example/nestor/nestor/IntOverlayGetPinLaw" = some m.cls := findClass_of_methodNamed Bd.named
  have hnm := (name_of_methodNamed Bd.named Bd.method).1
  have X0 : Stand p l e room_1 s m #[(.int p1), (.int p2), (.int p3), (.int p4), (.int p5), (.int p6)] below meth c s₁ [] 0 0 := Stand.of_body Bd
  have e0 : s₁.heap = h0 := by rw [← hh, Bd.state]; rfl
  have N0 := Fr.nil n0
  show Run p e below s 4 24 (Q_rm0 Z p1 p2 p3 p4 p5 p6 h0 n0) (s₁.setTop (entryFrame m #[(.int p1), (.int p2), (.int p3), (.int p4), (.int p5), (.int p6)] maxLocals))
  refine Run.go (fun _ k => castTop (ef_rm0 m p1 p2 p3 p4 p5 p6) k) ?_
  show Run p e below s 4 24 (Q_rm0 Z p1 p2 p3 p4 p5 p6 h0 n0) (s₁.setTop (mkF m 0 #[.val (.int p1), .val (.int p2), .val (.int p3), .val (.int p4), .val (.int p5), .val (.int p6), .unset, .unset, .unset, .unset, .unset, .unset, .unset, .unset] []))
  refine Run.go (fun _ k => XS.iload X0.here hx rfl (hb hby at_0) rfl  k) ?_
  show Run p e below s 4 24 (Q_rm0 Z p1 p2 p3 p4 p5 p6 h0 n0) (s₁.setTop (mkF m 2 #[.val (.int p1), .val (.int p2), .val (.int p3), .val (.int p4), .val (.int p5), .val (.int p6), .unset, .unset, .unset, .unset, .unset, .unset, .unset, .unset] [(.int p6)]))
  refine Run.go (fun _ k => X0.ldcInt hx hown (mvT hZ (hw _ (List.mem_of_getElem? (i := 0) rfl))) (g := (mkF m 2 #[.val (.int p1), .val (.int p2), .val (.int p3), .val (.int p4), .val (.int p5), .val (.int p6), .unset, .unset, .unset, .unset, .unset, .unset, .unset, .unset] [(.int p6)])) rfl (hb hby at_2) _ k) ?_
  show Run p e below s 4 24 (Q_rm0 Z p1 p2 p3 p4 p5 p6 h0 n0) (s₁.setTop (mkF m 4 #[.val (.int p1), .val (.int p2), .val (.int p3), .val (.int p4), .val (.int p5), .val (.int p6), .unset, .unset, .unset, .unset, .unset, .unset, .unset, .unset] [(.int (2147483647 : Int32)), (.int p6)]))
  refine Run.go (fun _ k => XS.iand X0.here hx rfl (hb hby at_4) rfl k) ?_
  show Run p e below s 4 24 (Q_rm0 Z p1 p2 p3 p4 p5 p6 h0 n0) (s₁.setTop (mkF m 5 #[.val (.int p1), .val (.int p2), .val (.int p3), .val (.int p4), .val (.int p5), .val (.int p6), .unset, .unset, .unset, .unset, .unset, .unset, .unset, .unset] [(.int (p6 &&& (2147483647 : Int32)))]))
  refine Run.go (fun _ k => XS.iconst X0.here hx rfl (hb hby at_5) k) ?_
  show Run p e below s 4 24 (Q_rm0 Z p1 p2 p3 p4 p5 p6 h0 n0) (s₁.setTop (mkF m 6 #[.val (.int p1), .val (.int p2), .val (.int p3), .val (.int p4), .val (.int p5), .val (.int p6), .unset, .unset, .unset, .unset, .unset, .unset, .unset, .unset] [(.int (4 : Int32)), (.int (p6 &&& (2147483647 : Int32)))]))
  refine Run.go (fun _ k => iremM X0 hx rfl (hb hby at_6) rfl (by decide) k) ?_
  show Run p e below s 4 24 (Q_rm0 Z p1 p2 p3 p4 p5 p6 h0 n0) (s₁.setTop (mkF m 7 #[.val (.int p1), .val (.int p2), .val (.int p3), .val (.int p4), .val (.int p5), .val (.int p6), .unset, .unset, .unset, .unset, .unset, .unset, .unset, .unset] [(.int ((p6 &&& (2147483647 : Int32)) % (4 : Int32)))]))
  refine Run.go (fun _ k => XS.istore X0.here hx rfl (hb hby at_7) rfl (l' := #[.val (.int p1), .val (.int p2), .val (.int p3), .val (.int p4), .val (.int p5), .val (.int p6), .val (.int ((p6 &&& (2147483647 : Int32)) % (4 : Int32))), .unset, .unset, .unset, .unset, .unset, .unset, .unset]) rfl k) ?_
  show Run p e below s 4 24 (Q_rm0 Z p1 p2 p3 p4 p5 p6 h0 n0) (s₁.setTop (mkF m 9 #[.val (.int p1), .val (.int p2), .val (.int p3), .val (.int p4), .val (.int p5), .val (.int p6), .val (.int ((p6 &&& (2147483647 : Int32)) % (4 : Int32))), .unset, .unset, .unset, .unset, .unset, .unset, .unset] []))
  refine Run.go (fun _ k => XS.iload X0.here hx rfl (hb hby at_9) rfl  k) ?_
  show Run p e below s 4 24 (Q_rm0 Z p1 p2 p3 p4 p5 p6 h0 n0) (s₁.setTop (mkF m 11 #[.val (.int p1), .val (.int p2), .val (.int p3), .val (.int p4), .val (.int p5), .val (.int p6), .val (.int ((p6 &&& (2147483647 : Int32)) % (4 : Int32))), .unset, .unset, .unset, .unset, .unset, .unset, .unset] [(.int ((p6 &&& (2147483647 : Int32)) % (4 : Int32)))]))
  refine Run.go (fun _ k => XS.iconst X0.here hx rfl (hb hby at_11) k) ?_
  show Run p e below s 4 24 (Q_rm0 Z p1 p2 p3 p4 p5 p6 h0 n0) (s₁.setTop (mkF m 12 #[.val (.int p1), .val (.int p2), .val (.int p3), .val (.int p4), .val (.int p5), .val (.int p6), .val (.int ((p6 &&& (2147483647 : Int32)) % (4 : Int32))), .unset, .unset, .unset, .unset, .unset, .unset, .unset] [(.int (3 : Int32)), (.int ((p6 &&& (2147483647 : Int32)) % (4 : Int32)))]))
  refine Run.go (fun _ k => iremM X0 hx rfl (hb hby at_12) rfl (by decide) k) ?_
  show Run p e below s 4 24 (Q_rm0 Z p1 p2 p3 p4 p5 p6 h0 n0) (s₁.setTop (mkF m 13 #[.val (.int p1), .val (.int p2), .val (.int p3), .val (.int p4), .val (.int p5), .val (.int p6), .val (.int ((p6 &&& (2147483647 : Int32)) % (4 : Int32))), .unset, .unset, .unset, .unset, .unset, .unset, .unset] [(.int (((p6 &&& (2147483647 : Int32)) % (4 : Int32)) % (3 : Int32)))]))
  refine Run.go (fun _ k => XS.istore X0.here hx rfl (hb hby at_13) rfl (l' := #[.val (.int p1), .val (.int p2), .val (.int p3), .val (.int p4), .val (.int p5), .val (.int p6), .val (.int ((p6 &&& (2147483647 : Int32)) % (4 : Int32))), .val (.int (((p6 &&& (2147483647 : Int32)) % (4 : Int32)) % (3 : Int32))), .unset, .unset, .unset, .unset, .unset, .unset]) rfl k) ?_
  show Run p e below s 4 24 (Q_rm0 Z p1 p2 p3 p4 p5 p6 h0 n0) (s₁.setTop (mkF m 15 #[.val (.int p1), .val (.int p2), .val (.int p3), .val (.int p4), .val (.int p5), .val (.int p6), .val (.int ((p6 &&& (2147483647 : Int32)) % (4 : Int32))), .val (.int (((p6 &&& (2147483647 : Int32)) % (4 : Int32)) % (3 : Int32))), .unset, .unset, .unset, .unset, .unset, .unset] []))
  obtain ⟨T7, h7, X7, e7, E7, A7, D7, -, st7⟩ := newO X0 hx hZ hown (hw _ (List.mem_of_getElem? (i := 1) rfl)) (hw _ (List.mem_of_getElem? (i := 2) rfl)) (hw _ (List.mem_of_getElem? (i := 3) rfl)) e0 (g := (mkF m 15 #[.val (.int p1), .val (.int p2), .val (.int p3), .val (.int p4), .val (.int p5), .val (.int p6), .val (.int ((p6 &&& (2147483647 : Int32)) % (4 : Int32))), .val (.int (((p6 &&& (2147483647 : Int32)) % (4 : Int32)) % (3 : Int32))), .unset, .unset, .unset, .unset, .unset, .unset] [])) rfl (hb hby at_15) (by decide) (by decide)
  obtain ⟨b7, g7⟩ : ∃ z, z = h0.size := ⟨_, rfl⟩
  rw [← g7] at A7 D7 st7
  have g_b7 : n0 ≤ b7 := Nat.le_trans Z0 (Nat.le_of_eq g7.symm)
  have Z7 : n0 ≤ h7.size := Nat.le_trans Z0 E7.1
  have fx8 : Fld Z h7 b7 "com/example/nestor/nestor/IntOverlay" "own" "[I" .null := D7 (Or.inl (hw _ (List.mem_of_getElem? (i := 12) rfl))) (ty := (.array .int)) (by decide)
  have fx9 : Fld Z h7 b7 "com/example/nestor/nestor/IntOverlay" "base" "Lcom/example/nestor/nestor/IntOverlay;" .null := D7 (Or.inr (hw _ (List.mem_of_getElem? (i := 14) rfl))) (ty := (.object "com/example/nestor/nestor/IntOverlay")) (by decide)
  have fx10 : Fld Z h7 b7 "com/example/nestor/nestor/IntOverlay" "baseSize" "I" (.int (0 : Int32)) := D7 (Or.inr (hw _ (List.mem_of_getElem? (i := 16) rfl))) (ty := .int) (by decide)
  have fx11 : Fld Z h7 b7 "com/example/nestor/nestor/IntOverlay" "ownSize" "I" (.int (0 : Int32)) := D7 (Or.inl (hw _ (List.mem_of_getElem? (i := 23) rfl))) (ty := .int) (by decide)
  refine Run.go st7 ?_
  show Run p e below s 4 24 (Q_rm0 Z p1 p2 p3 p4 p5 p6 h0 n0) (T7.setTop (mkF m 18 #[.val (.int p1), .val (.int p2), .val (.int p3), .val (.int p4), .val (.int p5), .val (.int p6), .val (.int ((p6 &&& (2147483647 : Int32)) % (4 : Int32))), .val (.int (((p6 &&& (2147483647 : Int32)) % (4 : Int32)) % (3 : Int32))), .unset, .unset, .unset, .unset, .unset, .unset] [(.ref b7)]))
  refine Run.go (fun _ k => XS.dup X7.here hx rfl (hb hby at_18) rfl rfl k) ?_
  show Run p e below s 4 24 (Q_rm0 Z p1 p2 p3 p4 p5 p6 h0 n0) (T7.setTop (mkF m 19 #[.val (.int p1), .val (.int p2), .val (.int p3), .val (.int p4), .val (.int p5), .val (.int p6), .val (.int ((p6 &&& (2147483647 : Int32)) % (4 : Int32))), .val (.int (((p6 &&& (2147483647 : Int32)) % (4 : Int32)) % (3 : Int32))), .unset, .unset, .unset, .unset, .unset, .unset] [(.ref b7), (.ref b7)]))
  obtain ⟨_, _, ⟨T12, L12, k12, n12⟩, -, X12, ⟨Lc12, hQ12, l12, y12, z12⟩, st12⟩ := X7.specialBack hx (y := (⟨"com/example/nestor/nestor/IntOverlay", "<init>", "()V"⟩ : MethodName)) rfl hown (mvT hZ (hw _ (List.mem_of_getElem? (i := 4) rfl))) (mvT hZ (hw _ (List.mem_of_getElem? (i := 5) rfl))) (mvT hZ (hw _ (List.mem_of_getElem? (i := 6) rfl))) (by decide) (backOf (W := 1) (rm1 l Z a0 hw [] b7 .null .null (.int (0 : Int32)) (.int (0 : Int32)) h7 n0 Z7 A7 fx8 g_b7 fx9 fx10 fx11) hZ (hw _ (List.mem_of_getElem? (i := 6) rfl)) (hw _ (List.mem_of_getElem? (i := 3) rfl)) (by decide) (by decide)) (g := (mkF m 19 #[.val (.int p1), .val (.int p2), .val (.int p3), .val (.int p4), .val (.int p5), .val (.int p6), .val (.int ((p6 &&& (2147483647 : Int32)) % (4 : Int32))), .val (.int (((p6 &&& (2147483647 : Int32)) % (4 : Int32)) % (3 : Int32))), .unset, .unset, .unset, .unset, .unset, .unset] [(.ref b7), (.ref b7)])) rfl (by rw [hml]; rfl) (Steps.refl _) (a := b7) (argsL := []) (rest := [(.ref b7)]) (lenOf pd_2 rfl) rfl (by show 2 * 0 + _ ≤ _; exact Nat.le_of_eq rfl) (hb hby at_19) (fun _ _ => ⟨rfl, e7, (by decide : 1 + 1 ≤ _), (by decide : 4 + 8 ≤ _)⟩)
  dsimp only [Pt.U, Pt.locs, Pt.cells, Pt.slots] at X12 l12 y12 z12 st12 hQ12
  subst l12 y12 z12
  obtain ⟨b13, rfl, N12q, K12q, s_b13, fq12_0, fq12_1, fq12_2, fq12_3, fq12_4, fq12_5⟩ := hQ12
  have N12 := Fr.app N0 N12q
  have g_b13 : n0 ≤ b13 := Nat.le_trans Z7 s_b13
  have ne_b7_b13 : b7 ≠ b13 := Nat.ne_of_lt (Nat.lt_of_lt_of_le A7.lt s_b13)
  have Z12 : n0 ≤ T12.heap.size := Nat.le_trans Z7 K12q.1
  refine Run.tr st12 ?_
  show Run p e below s 4 24 (Q_rm0 Z p1 p2 p3 p4 p5 p6 h0 n0) (T12.setTop (mkF m 22 #[.val (.int p1), .val (.int p2), .val (.int p3), .val (.int p4), .val (.int p5), .val (.int p6), .val (.int ((p6 &&& (2147483647 : Int32)) % (4 : Int32))), .val (.int (((p6 &&& (2147483647 : Int32)) % (4 : Int32)) % (3 : Int32))), .unset, .unset, .unset, .unset, .unset, .unset] [(.ref b7)]))
  refine Run.go (fun _ k => XS.astore X12.here hx rfl (hb hby at_22) rfl rfl (l' := #[.val (.int p1), .val (.int p2), .val (.int p3), .val (.int p4), .val (.int p5), .val (.int p6), .val (.int ((p6 &&& (2147483647 : Int32)) % (4 : Int32))), .val (.int (((p6 &&& (2147483647 : Int32)) % (4 : Int32)) % (3 : Int32))), .val (.ref b7), .unset, .unset, .unset, .unset, .unset]) rfl k) ?_
  show Run p e below s 4 24 (Q_rm0 Z p1 p2 p3 p4 p5 p6 h0 n0) (T12.setTop (mkF m 24 #[.val (.int p1), .val (.int p2), .val (.int p3), .val (.int p4), .val (.int p5), .val (.int p6), .val (.int ((p6 &&& (2147483647 : Int32)) % (4 : Int32))), .val (.int (((p6 &&& (2147483647 : Int32)) % (4 : Int32)) % (3 : Int32))), .val (.ref b7), .unset, .unset, .unset, .unset, .unset] []))
  refine Run.go (fun _ k => XS.aload X12.here hx rfl (hb hby at_24) rfl rfl k) ?_
  show Run p e below s 4 24 (Q_rm0 Z p1 p2 p3 p4 p5 p6 h0 n0) (T12.setTop (mkF m 26 #[.val (.int p1), .val (.int p2), .val (.int p3), .val (.int p4), .val (.int p5), .val (.int p6), .val (.int ((p6 &&& (2147483647 : Int32)) % (4 : Int32))), .val (.int (((p6 &&& (2147483647 : Int32)) % (4 : Int32)) % (3 : Int32))), .val (.ref b7), .unset, .unset, .unset, .unset, .unset] [(.ref b7)]))
  refine Run.go (fun _ k => XS.iloadN X12.here hx rfl (hb hby at_26) rfl  k) ?_
  show Run p e below s 4 24 (Q_rm0 Z p1 p2 p3 p4 p5 p6 h0 n0) (T12.setTop (mkF m 27 #[.val (.int p1), .val (.int p2), .val (.int p3), .val (.int p4), .val (.int p5), .val (.int p6), .val (.int ((p6 &&& (2147483647 : Int32)) % (4 : Int32))), .val (.int (((p6 &&& (2147483647 : Int32)) % (4 : Int32)) % (3 : Int32))), .val (.ref b7), .unset, .unset, .unset, .unset, .unset] [(.int p1), (.ref b7)]))
  obtain ⟨cq14, kq14, q14a, q14b, q14c⟩ := isOf hZ rfl fq12_0
  obtain ⟨_, _, ⟨T14, L14, k14, n14⟩, -, X14, ⟨Lc14, hQ14, l14, y14, z14⟩, st14⟩ := X12.virtualBack hx (y := (⟨"com/example/nestor/nestor/IntOverlay", "add", "(I)V"⟩ : MethodName)) (z := (⟨"com/example/nestor/nestor/IntOverlay", "add", "(I)V"⟩ : MethodName)) hown (mvT hZ (hw _ (List.mem_of_getElem? (i := 17) rfl))) (mvT hZ (hw _ (List.mem_of_getElem? (i := 18) rfl))) (notFace_of_selects (args := #[]) (mvT hZ (hw _ (List.mem_of_getElem? (i := 20) rfl)))) (mvT hZ (hw _ (List.mem_of_getElem? (i := 20) rfl))) (mvT hZ (hw _ (List.mem_of_getElem? (i := 19) rfl))) (by decide) (backOf (W := 0) (rm3_0 l Z a0 hw [] b7 p1 b13 (fun _ => (.int (0 : Int32))) .null (.int (0 : Int32)) T12.heap n0 Z12 fq12_4 fq12_1 fq12_5 fq12_0 g_b7 g_b13 fq12_2 fq12_3) hZ (hw _ (List.mem_of_getElem? (i := 21) rfl)) (hw _ (List.mem_of_getElem? (i := 3) rfl)) (by decide) (by decide)) q14a q14c (g := (mkF m 27 #[.val (.int p1), .val (.int p2), .val (.int p3), .val (.int p4), .val (.int p5), .val (.int p6), .val (.int ((p6 &&& (2147483647 : Int32)) % (4 : Int32))), .val (.int (((p6 &&& (2147483647 : Int32)) % (4 : Int32)) % (3 : Int32))), .val (.ref b7), .unset, .unset, .unset, .unset, .unset] [(.int p1), (.ref b7)])) rfl (by rw [hml]; rfl) (Steps.refl _) (argsL := [(.int p1)]) (rest := []) (lenOf pd_3 rfl) rfl (by show 2 * 0 + _ ≤ _; exact Nat.le_of_eq rfl) (hb hby at_27) (fun _ _ => ⟨rfl, rfl, (by decide : 2 + 0 ≤ _), (by decide : 12 + 0 ≤ _)⟩)
  dsimp only [Pt.U, Pt.locs, Pt.cells, Pt.slots] at X14 l14 y14 z14 st14 hQ14
  subst l14 y14 z14
  obtain ⟨rfl, N14q, K14q, fq14_0, fq14_1, fq14_2, fq14_3, fq14_4, fq14_5⟩ := hQ14
  have N14 := Fr.app N12 N14q
  have Z14 : n0 ≤ T14.heap.size := Nat.le_trans Z12 K14q.1
  refine Run.tr st14 ?_
  show Run p e below s 4 24 (Q_rm0 Z p1 p2 p3 p4 p5 p6 h0 n0) (T14.setTop (mkF m 30 #[.val (.int p1), .val (.int p2), .val (.int p3), .val (.int p4), .val (.int p5), .val (.int p6), .val (.int ((p6 &&& (2147483647 : Int32)) % (4 : Int32))), .val (.int (((p6 &&& (2147483647 : Int32)) % (4 : Int32)) % (3 : Int32))), .val (.ref b7), .unset, .unset, .unset, .unset, .unset] []))
  refine Run.go (fun _ k => XS.aload X14.here hx rfl (hb hby at_30) rfl rfl k) ?_
  show Run p e below s 4 24 (Q_rm0 Z p1 p2 p3 p4 p5 p6 h0 n0) (T14.setTop (mkF m 32 #[.val (.int p1), .val (.int p2), .val (.int p3), .val (.int p4), .val (.int p5), .val (.int p6), .val (.int ((p6 &&& (2147483647 : Int32)) % (4 : Int32))), .val (.int (((p6 &&& (2147483647 : Int32)) % (4 : Int32)) % (3 : Int32))), .val (.ref b7), .unset, .unset, .unset, .unset, .unset] [(.ref b7)]))
  refine Run.go (fun _ k => XS.iloadN X14.here hx rfl (hb hby at_32) rfl  k) ?_
  show Run p e below s 4 24 (Q_rm0 Z p1 p2 p3 p4 p5 p6 h0 n0) (T14.setTop (mkF m 33 #[.val (.int p1), .val (.int p2), .val (.int p3), .val (.int p4), .val (.int p5), .val (.int p6), .val (.int ((p6 &&& (2147483647 : Int32)) % (4 : Int32))), .val (.int (((p6 &&& (2147483647 : Int32)) % (4 : Int32)) % (3 : Int32))), .val (.ref b7), .unset, .unset, .unset, .unset, .unset] [(.int p2), (.ref b7)]))
  obtain ⟨cq15, kq15, q15a, q15b, q15c⟩ := isOf hZ rfl fq14_2
  obtain ⟨_, _, ⟨T15, L15, k15, n15⟩, -, X15, ⟨Lc15, hQ15, l15, y15, z15⟩, st15⟩ := X14.virtualBack hx (y := (⟨"com/example/nestor/nestor/IntOverlay", "add", "(I)V"⟩ : MethodName)) (z := (⟨"com/example/nestor/nestor/IntOverlay", "add", "(I)V"⟩ : MethodName)) hown (mvT hZ (hw _ (List.mem_of_getElem? (i := 17) rfl))) (mvT hZ (hw _ (List.mem_of_getElem? (i := 18) rfl))) (notFace_of_selects (args := #[]) (mvT hZ (hw _ (List.mem_of_getElem? (i := 20) rfl)))) (mvT hZ (hw _ (List.mem_of_getElem? (i := 20) rfl))) (mvT hZ (hw _ (List.mem_of_getElem? (i := 19) rfl))) (by decide) (backOf (W := 0) (rm3_1 l Z a0 hw [] b7 p2 b13 (fun i => if i = 0 then (.int p1) else (fun _ => (.int (0 : Int32))) i) .null (.int (0 : Int32)) T14.heap n0 Z14 fq14_0 fq14_1 fq14_5 fq14_2 g_b7 g_b13 fq14_3 fq14_4) hZ (hw _ (List.mem_of_getElem? (i := 21) rfl)) (hw _ (List.mem_of_getElem? (i := 3) rfl)) (by decide) (by decide)) q15a q15c (g := (mkF m 33 #[.val (.int p1), .val (.int p2), .val (.int p3), .val (.int p4), .val (.int p5), .val (.int p6), .val (.int ((p6 &&& (2147483647 : Int32)) % (4 : Int32))), .val (.int (((p6 &&& (2147483647 : Int32)) % (4 : Int32)) % (3 : Int32))), .val (.ref b7), .unset, .unset, .unset, .unset, .unset] [(.int p2), (.ref b7)])) rfl (by rw [hml]; rfl) (Steps.refl _) (argsL := [(.int p2)]) (rest := []) (lenOf pd_3 rfl) rfl (by show 2 * 0 + _ ≤ _; exact Nat.le_of_eq rfl) (hb hby at_33) (fun _ _ => ⟨rfl, rfl, (by decide : 2 + 0 ≤ _), (by decide : 12 + 0 ≤ _)⟩)
  dsimp only [Pt.U, Pt.locs, Pt.cells, Pt.slots] at X15 l15 y15 z15 st15 hQ15
  subst l15 y15 z15
  obtain ⟨rfl, N15q, K15q, fq15_0, fq15_1, fq15_2, fq15_3, fq15_4, fq15_5⟩ := hQ15
  have N15 := Fr.app N14 N15q
  have Z15 : n0 ≤ T15.heap.size := Nat.le_trans Z14 K15q.1
  refine Run.tr st15 ?_
  show Run p e below s 4 24 (Q_rm0 Z p1 p2 p3 p4 p5 p6 h0 n0) (T15.setTop (mkF m 36 #[.val (.int p1), .val (.int p2), .val (.int p3), .val (.int p4), .val (.int p5), .val (.int p6), .val (.int ((p6 &&& (2147483647 : Int32)) % (4 : Int32))), .val (.int (((p6 &&& (2147483647 : Int32)) % (4 : Int32)) % (3 : Int32))), .val (.ref b7), .unset, .unset, .unset, .unset, .unset] []))
  obtain ⟨T16, h16, X16, e16, E16, A16, D16, -, st16⟩ := newO X15 hx hZ hown (hw _ (List.mem_of_getElem? (i := 1) rfl)) (hw _ (List.mem_of_getElem? (i := 2) rfl)) (hw _ (List.mem_of_getElem? (i := 3) rfl)) rfl (g := (mkF m 36 #[.val (.int p1), .val (.int p2), .val (.int p3), .val (.int p4), .val (.int p5), .val (.int p6), .val (.int ((p6 &&& (2147483647 : Int32)) % (4 : Int32))), .val (.int (((p6 &&& (2147483647 : Int32)) % (4 : Int32)) % (3 : Int32))), .val (.ref b7), .unset, .unset, .unset, .unset, .unset] [])) rfl (hb hby at_36) (by decide) (by decide)
  obtain ⟨b16, g16⟩ : ∃ z, z = T15.heap.size := ⟨_, rfl⟩
  rw [← g16] at A16 D16 st16
  have g_b16 : n0 ≤ b16 := Nat.le_trans Z15 (Nat.le_of_eq g16.symm)
  have Z16 : n0 ≤ h16.size := Nat.le_trans Z15 E16.1
  have ne_b7_b16 : b7 ≠ b16 := Nat.ne_of_lt (Nat.lt_of_lt_of_le fq15_2.lt (Nat.le_of_eq g16.symm))
  have ne_b13_b16 : b13 ≠ b16 := Nat.ne_of_lt (Nat.lt_of_lt_of_le fq15_5.lt (Nat.le_of_eq g16.symm))
  have fx17 : Fld Z h16 b16 "com/example/nestor/nestor/IntOverlay" "own" "[I" .null := D16 (Or.inl (hw _ (List.mem_of_getElem? (i := 12) rfl))) (ty := (.array .int)) (by decide)
  have fx18 : Fld Z h16 b16 "com/example/nestor/nestor/IntOverlay" "base" "Lcom/example/nestor/nestor/IntOverlay;" .null := D16 (Or.inr (hw _ (List.mem_of_getElem? (i := 14) rfl))) (ty := (.object "com/example/nestor/nestor/IntOverlay")) (by decide)
  have fx19 : Fld Z h16 b16 "com/example/nestor/nestor/IntOverlay" "baseSize" "I" (.int (0 : Int32)) := D16 (Or.inr (hw _ (List.mem_of_getElem? (i := 16) rfl))) (ty := .int) (by decide)
  have fx20 : Fld Z h16 b16 "com/example/nestor/nestor/IntOverlay" "ownSize" "I" (.int (0 : Int32)) := D16 (Or.inl (hw _ (List.mem_of_getElem? (i := 23) rfl))) (ty := .int) (by decide)
  refine Run.go st16 ?_
  show Run p e below s 4 24 (Q_rm0 Z p1 p2 p3 p4 p5 p6 h0 n0) (T16.setTop (mkF m 39 #[.val (.int p1), .val (.int p2), .val (.int p3), .val (.int p4), .val (.int p5), .val (.int p6), .val (.int ((p6 &&& (2147483647 : Int32)) % (4 : Int32))), .val (.int (((p6 &&& (2147483647 : Int32)) % (4 : Int32)) % (3 : Int32))), .val (.ref b7), .unset, .unset, .unset, .unset, .unset] [(.ref b16)]))
  refine Run.go (fun _ k => XS.dup X16.here hx rfl (hb hby at_39) rfl rfl k) ?_
  show Run p e below s 4 24 (Q_rm0 Z p1 p2 p3 p4 p5 p6 h0 n0) (T16.setTop (mkF m 40 #[.val (.int p1), .val (.int p2), .val (.int p3), .val (.int p4), .val (.int p5), .val (.int p6), .val (.int ((p6 &&& (2147483647 : Int32)) % (4 : Int32))), .val (.int (((p6 &&& (2147483647 : Int32)) % (4 : Int32)) % (3 : Int32))), .val (.ref b7), .unset, .unset, .unset, .unset, .unset] [(.ref b16), (.ref b16)]))
  refine Run.go (fun _ k => XS.aload X16.here hx rfl (hb hby at_40) rfl rfl k) ?_
  show Run p e below s 4 24 (Q_rm0 Z p1 p2 p3 p4 p5 p6 h0 n0) (T16.setTop (mkF m 42 #[.val (.int p1), .val (.int p2), .val (.int p3), .val (.int p4), .val (.int p5), .val (.int p6), .val (.int ((p6 &&& (2147483647 : Int32)) % (4 : Int32))), .val (.int (((p6 &&& (2147483647 : Int32)) % (4 : Int32)) % (3 : Int32))), .val (.ref b7), .unset, .unset, .unset, .unset, .unset] [(.ref b7), (.ref b16), (.ref b16)]))
  have fx22 := (fq15_4.ext E16)
  have fx23 := (fq15_0.ext E16)
  have fx24 := (fq15_2.ext E16)
  have fx25 := (fq15_5.ext E16)
  obtain ⟨_, _, ⟨T21, L21, k21, n21⟩, -, X21, ⟨Lc21, hQ21, l21, y21, z21⟩, st21⟩ := X16.specialBack hx (y := (⟨"com/example/nestor/nestor/IntOverlay", "<init>", "(Lcom/example/nestor/nestor/IntOverlay;)V"⟩ : MethodName)) rfl hown (mvT hZ (hw _ (List.mem_of_getElem? (i := 24) rfl))) (mvT hZ (hw _ (List.mem_of_getElem? (i := 25) rfl))) (mvT hZ (hw _ (List.mem_of_getElem? (i := 26) rfl))) (by decide) (backOf (W := 1) (rm4 l Z a0 hw [] b16 b7 .null .null (0 : Int32) (2 : Int32) (.int (0 : Int32)) (.int (0 : Int32)) h16 n0 Z16 A16 fx17 g_b16 fx18 fx22 fx23 ne_b7_b16 fx24 fx19 fx20) hZ (hw _ (List.mem_of_getElem? (i := 26) rfl)) (hw _ (List.mem_of_getElem? (i := 3) rfl)) (by decide) (by decide)) (g := (mkF m 42 #[.val (.int p1), .val (.int p2), .val (.int p3), .val (.int p4), .val (.int p5), .val (.int p6), .val (.int ((p6 &&& (2147483647 : Int32)) % (4 : Int32))), .val (.int (((p6 &&& (2147483647 : Int32)) % (4 : Int32)) % (3 : Int32))), .val (.ref b7), .unset, .unset, .unset, .unset, .unset] [(.ref b7), (.ref b16), (.ref b16)])) rfl (by rw [hml]; rfl) (Steps.refl _) (a := b16) (argsL := [(.ref b7)]) (rest := [(.ref b16)]) (lenOf pd_4 rfl) rfl (by show 2 * 0 + _ ≤ _; exact Nat.le_of_eq rfl) (hb hby at_42) (fun _ _ => ⟨rfl, e16, (by decide : 3 + 1 ≤ _), (by decide : 16 + 8 ≤ _)⟩)
  dsimp only [Pt.U, Pt.locs, Pt.cells, Pt.slots] at X21 l21 y21 z21 st21 hQ21
  subst l21 y21 z21
  obtain ⟨b26, rfl, N21q, K21q, s_b26, fq21_0, fq21_1, fq21_2, fq21_3, fq21_4, fq21_5⟩ := hQ21
  have N21 := Fr.app N15 N21q
  have g_b26 : n0 ≤ b26 := Nat.le_trans Z16 s_b26
  have ne_b7_b26 : b7 ≠ b26 := Nat.ne_of_lt (Nat.lt_of_lt_of_le fx24.lt s_b26)
  have ne_b13_b26 : b13 ≠ b26 := Nat.ne_of_lt (Nat.lt_of_lt_of_le fx25.lt s_b26)
  have ne_b16_b26 : b16 ≠ b26 := Nat.ne_of_lt (Nat.lt_of_lt_of_le A16.lt s_b26)
  have Z21 : n0 ≤ T21.heap.size := Nat.le_trans Z16 K21q.1
  refine Run.tr st21 ?_
  show Run p e below s 4 24 (Q_rm0 Z p1 p2 p3 p4 p5 p6 h0 n0) (T21.setTop (mkF m 45 #[.val (.int p1), .val (.int p2), .val (.int p3), .val (.int p4), .val (.int p5), .val (.int p6), .val (.int ((p6 &&& (2147483647 : Int32)) % (4 : Int32))), .val (.int (((p6 &&& (2147483647 : Int32)) % (4 : Int32)) % (3 : Int32))), .val (.ref b7), .unset, .unset, .unset, .unset, .unset] [(.ref b16)]))
  refine Run.go (fun _ k => XS.astore X21.here hx rfl (hb hby at_45) rfl rfl (l' := #[.val (.int p1), .val (.int p2), .val (.int p3), .val (.int p4), .val (.int p5), .val (.int p6), .val (.int ((p6 &&& (2147483647 : Int32)) % (4 : Int32))), .val (.int (((p6 &&& (2147483647 : Int32)) % (4 : Int32)) % (3 : Int32))), .val (.ref b7), .val (.ref b16), .unset, .unset, .unset, .unset]) rfl k) ?_
  show Run p e below s 4 24 (Q_rm0 Z p1 p2 p3 p4 p5 p6 h0 n0) (T21.setTop (mkF m 47 #[.val (.int p1), .val (.int p2), .val (.int p3), .val (.int p4), .val (.int p5), .val (.int p6), .val (.int ((p6 &&& (2147483647 : Int32)) % (4 : Int32))), .val (.int (((p6 &&& (2147483647 : Int32)) % (4 : Int32)) % (3 : Int32))), .val (.ref b7), .val (.ref b16), .unset, .unset, .unset, .unset] []))
  refine Run.go (fun _ k => XS.aload X21.here hx rfl (hb hby at_47) rfl rfl k) ?_
  show Run p e below s 4 24 (Q_rm0 Z p1 p2 p3 p4 p5 p6 h0 n0) (T21.setTop (mkF m 49 #[.val (.int p1), .val (.int p2), .val (.int p3), .val (.int p4), .val (.int p5), .val (.int p6), .val (.int ((p6 &&& (2147483647 : Int32)) % (4 : Int32))), .val (.int (((p6 &&& (2147483647 : Int32)) % (4 : Int32)) % (3 : Int32))), .val (.ref b7), .val (.ref b16), .unset, .unset, .unset, .unset] [(.ref b16)]))
  refine Run.go (fun _ k => XS.iloadN X21.here hx rfl (hb hby at_49) rfl  k) ?_
  show Run p e below s 4 24 (Q_rm0 Z p1 p2 p3 p4 p5 p6 h0 n0) (T21.setTop (mkF m 50 #[.val (.int p1), .val (.int p2), .val (.int p3), .val (.int p4), .val (.int p5), .val (.int p6), .val (.int ((p6 &&& (2147483647 : Int32)) % (4 : Int32))), .val (.int (((p6 &&& (2147483647 : Int32)) % (4 : Int32)) % (3 : Int32))), .val (.ref b7), .val (.ref b16), .unset, .unset, .unset, .unset] [(.int p3), (.ref b16)]))
  obtain ⟨cq27, kq27, q27a, q27b, q27c⟩ := isOf hZ rfl fq21_0
  obtain ⟨_, _, ⟨T27, L27, k27, n27⟩, -, X27, ⟨Lc27, hQ27, l27, y27, z27⟩, st27⟩ := X21.virtualBack hx (y := (⟨"com/example/nestor/nestor/IntOverlay", "add", "(I)V"⟩ : MethodName)) (z := (⟨"com/example/nestor/nestor/IntOverlay", "add", "(I)V"⟩ : MethodName)) hown (mvT hZ (hw _ (List.mem_of_getElem? (i := 17) rfl))) (mvT hZ (hw _ (List.mem_of_getElem? (i := 18) rfl))) (notFace_of_selects (args := #[]) (mvT hZ (hw _ (List.mem_of_getElem? (i := 20) rfl)))) (mvT hZ (hw _ (List.mem_of_getElem? (i := 20) rfl))) (mvT hZ (hw _ (List.mem_of_getElem? (i := 19) rfl))) (by decide) (backOf (W := 0) (rm3_0 l Z a0 hw [] b16 p3 b26 (fun _ => (.int (0 : Int32))) (.ref b7) (.int (2 : Int32)) T21.heap n0 Z21 fq21_4 fq21_1 fq21_5 fq21_0 g_b16 g_b26 fq21_2 fq21_3) hZ (hw _ (List.mem_of_getElem? (i := 21) rfl)) (hw _ (List.mem_of_getElem? (i := 3) rfl)) (by decide) (by decide)) q27a q27c (g := (mkF m 50 #[.val (.int p1), .val (.int p2), .val (.int p3), .val (.int p4), .val (.int p5), .val (.int p6), .val (.int ((p6 &&& (2147483647 : Int32)) % (4 : Int32))), .val (.int (((p6 &&& (2147483647 : Int32)) % (4 : Int32)) % (3 : Int32))), .val (.ref b7), .val (.ref b16), .unset, .unset, .unset, .unset] [(.int p3), (.ref b16)])) rfl (by rw [hml]; rfl) (Steps.refl _) (argsL := [(.int p3)]) (rest := []) (lenOf pd_3 rfl) rfl (by show 2 * 0 + _ ≤ _; exact Nat.le_of_eq rfl) (hb hby at_50) (fun _ _ => ⟨rfl, rfl, (by decide : 4 + 0 ≤ _), (by decide : 24 + 0 ≤ _)⟩)
  dsimp only [Pt.U, Pt.locs, Pt.cells, Pt.slots] at X27 l27 y27 z27 st27 hQ27
  subst l27 y27 z27
  obtain ⟨rfl, N27q, K27q, fq27_0, fq27_1, fq27_2, fq27_3, fq27_4, fq27_5⟩ := hQ27
  have N27 := Fr.app N21 N27q
  have Z27 : n0 ≤ T27.heap.size := Nat.le_trans Z21 K27q.1
  refine Run.tr st27 ?_
  show Run p e below s 4 24 (Q_rm0 Z p1 p2 p3 p4 p5 p6 h0 n0) (T27.setTop (mkF m 53 #[.val (.int p1), .val (.int p2), .val (.int p3), .val (.int p4), .val (.int p5), .val (.int p6), .val (.int ((p6 &&& (2147483647 : Int32)) % (4 : Int32))), .val (.int (((p6 &&& (2147483647 : Int32)) % (4 : Int32)) % (3 : Int32))), .val (.ref b7), .val (.ref b16), .unset, .unset, .unset, .unset] []))
  refine Run.go (fun _ k => XS.aload X27.here hx rfl (hb hby at_53) rfl rfl k) ?_
  show Run p e below s 4 24 (Q_rm0 Z p1 p2 p3 p4 p5 p6 h0 n0) (T27.setTop (mkF m 55 #[.val (.int p1), .val (.int p2), .val (.int p3), .val (.int p4), .val (.int p5), .val (.int p6), .val (.int ((p6 &&& (2147483647 : Int32)) % (4 : Int32))), .val (.int (((p6 &&& (2147483647 : Int32)) % (4 : Int32)) % (3 : Int32))), .val (.ref b7), .val (.ref b16), .unset, .unset, .unset, .unset] [(.ref b7)]))
  refine Run.go (fun _ k => XS.iloadN X27.here hx rfl (hb hby at_55) rfl  k) ?_
  show Run p e below s 4 24 (Q_rm0 Z p1 p2 p3 p4 p5 p6 h0 n0) (T27.setTop (mkF m 56 #[.val (.int p1), .val (.int p2), .val (.int p3), .val (.int p4), .val (.int p5), .val (.int p6), .val (.int ((p6 &&& (2147483647 : Int32)) % (4 : Int32))), .val (.int (((p6 &&& (2147483647 : Int32)) % (4 : Int32)) % (3 : Int32))), .val (.ref b7), .val (.ref b16), .unset, .unset, .unset, .unset] [(.int p4), (.ref b7)]))
  have fx29 := ((fx25.keep K21q (ninS ne_b13_b16 nin0)).keep K27q (ninS ne_b13_b16 (ninS ne_b13_b26 nin0)))
  have fx30 := ((fx23.keep K21q (ninS ne_b7_b16 nin0)).keep K27q (ninS ne_b7_b16 (ninS ne_b7_b26 nin0)))
  have fx31 := (((fq15_1.ext E16).keep K21q (ninS ne_b7_b16 nin0)).keep K27q (ninS ne_b7_b16 (ninS ne_b7_b26 nin0)))
  have fx32 := ((fx24.keep K21q).keep K27q)
  have fx33 := (((fq15_3.ext E16).keep K21q (ninS ne_b7_b16 nin0)).keep K27q (ninS ne_b7_b16 (ninS ne_b7_b26 nin0)))
  have fx34 := ((fx22.keep K21q (ninS ne_b7_b16 nin0)).keep K27q (ninS ne_b7_b16 (ninS ne_b7_b26 nin0)))
  obtain ⟨cq28, kq28, q28a, q28b, q28c⟩ := isOf hZ rfl fx32
  obtain ⟨_, _, ⟨T28, L28, k28, n28⟩, -, X28, ⟨Lc28, hQ28, l28, y28, z28⟩, st28⟩ := X27.virtualBack hx (y := (⟨"com/example/nestor/nestor/IntOverlay", "add", "(I)V"⟩ : MethodName)) (z := (⟨"com/example/nestor/nestor/IntOverlay", "add", "(I)V"⟩ : MethodName)) hown (mvT hZ (hw _ (List.mem_of_getElem? (i := 17) rfl))) (mvT hZ (hw _ (List.mem_of_getElem? (i := 18) rfl))) (notFace_of_selects (args := #[]) (mvT hZ (hw _ (List.mem_of_getElem? (i := 20) rfl)))) (mvT hZ (hw _ (List.mem_of_getElem? (i := 20) rfl))) (mvT hZ (hw _ (List.mem_of_getElem? (i := 19) rfl))) (by decide) (backOf (W := 0) (rm3_2 l Z a0 hw [] b7 p4 b13 (fun i => if i = 1 then (.int p2) else (fun i => if i = 0 then (.int p1) else (fun _ => (.int (0 : Int32))) i) i) .null (.int (0 : Int32)) T27.heap n0 Z27 fx30 fx31 fx29 fx32 g_b7 g_b13 fx33 fx34) hZ (hw _ (List.mem_of_getElem? (i := 21) rfl)) (hw _ (List.mem_of_getElem? (i := 3) rfl)) (by decide) (by decide)) q28a q28c (g := (mkF m 56 #[.val (.int p1), .val (.int p2), .val (.int p3), .val (.int p4), .val (.int p5), .val (.int p6), .val (.int ((p6 &&& (2147483647 : Int32)) % (4 : Int32))), .val (.int (((p6 &&& (2147483647 : Int32)) % (4 : Int32)) % (3 : Int32))), .val (.ref b7), .val (.ref b16), .unset, .unset, .unset, .unset] [(.int p4), (.ref b7)])) rfl (by rw [hml]; rfl) (Steps.refl _) (argsL := [(.int p4)]) (rest := []) (lenOf pd_3 rfl) rfl (by show 2 * 0 + _ ≤ _; exact Nat.le_of_eq rfl) (hb hby at_56) (fun _ _ => ⟨rfl, rfl, (by decide : 4 + 0 ≤ _), (by decide : 24 + 0 ≤ _)⟩)
  dsimp only [Pt.U, Pt.locs, Pt.cells, Pt.slots] at X28 l28 y28 z28 st28 hQ28
  subst l28 y28 z28
  obtain ⟨rfl, N28q, K28q, fq28_0, fq28_1, fq28_2, fq28_3, fq28_4, fq28_5⟩ := hQ28
  have N28 := Fr.app N27 N28q
  have Z28 : n0 ≤ T28.heap.size := Nat.le_trans Z27 K28q.1
  refine Run.tr st28 ?_
  show Run p e below s 4 24 (Q_rm0 Z p1 p2 p3 p4 p5 p6 h0 n0) (T28.setTop (mkF m 59 #[.val (.int p1), .val (.int p2), .val (.int p3), .val (.int p4), .val (.int p5), .val (.int p6), .val (.int ((p6 &&& (2147483647 : Int32)) % (4 : Int32))), .val (.int (((p6 &&& (2147483647 : Int32)) % (4 : Int32)) % (3 : Int32))), .val (.ref b7), .val (.ref b16), .unset, .unset, .unset, .unset] []))
  refine Run.go (fun _ k => XS.aload X28.here hx rfl (hb hby at_59) rfl rfl k) ?_
  show Run p e below s 4 24 (Q_rm0 Z p1 p2 p3 p4 p5 p6 h0 n0) (T28.setTop (mkF m 61 #[.val (.int p1), .val (.int p2), .val (.int p3), .val (.int p4), .val (.int p5), .val (.int p6), .val (.int ((p6 &&& (2147483647 : Int32)) % (4 : Int32))), .val (.int (((p6 &&& (2147483647 : Int32)) % (4 : Int32)) % (3 : Int32))), .val (.ref b7), .val (.ref b16), .unset, .unset, .unset, .unset] [(.ref b16)]))
  refine Run.go (fun _ k => XS.iload X28.here hx rfl (hb hby at_61) rfl  k) ?_
  show Run p e below s 4 24 (Q_rm0 Z p1 p2 p3 p4 p5 p6 h0 n0) (T28.setTop (mkF m 63 #[.val (.int p1), .val (.int p2), .val (.int p3), .val (.int p4), .val (.int p5), .val (.int p6), .val (.int ((p6 &&& (2147483647 : Int32)) % (4 : Int32))), .val (.int (((p6 &&& (2147483647 : Int32)) % (4 : Int32)) % (3 : Int32))), .val (.ref b7), .val (.ref b16), .unset, .unset, .unset, .unset] [(.int p5), (.ref b16)]))
  have fx36 := (fq27_5.keep K28q (ninS (Ne.symm ne_b7_b26) (ninS (Ne.symm ne_b13_b26) nin0)))
  have fx37 := (fq27_0.keep K28q (ninS (Ne.symm ne_b7_b16) (ninS (Ne.symm ne_b13_b16) nin0)))
  have fx38 := (fq27_1.keep K28q (ninS (Ne.symm ne_b7_b16) (ninS (Ne.symm ne_b13_b16) nin0)))
  have fx39 := (fq27_2.keep K28q)
  have fx40 := (fq27_3.keep K28q (ninS (Ne.symm ne_b7_b16) (ninS (Ne.symm ne_b13_b16) nin0)))
  have fx41 := (fq27_4.keep K28q (ninS (Ne.symm ne_b7_b16) (ninS (Ne.symm ne_b13_b16) nin0)))
  obtain ⟨cq35, kq35, q35a, q35b, q35c⟩ := isOf hZ rfl fx39
  obtain ⟨_, _, ⟨T35, L35, k35, n35⟩, -, X35, ⟨Lc35, hQ35, l35, y35, z35⟩, st35⟩ := X28.virtualBack hx (y := (⟨"com/example/nestor/nestor/IntOverlay", "add", "(I)V"⟩ : MethodName)) (z := (⟨"com/example/nestor/nestor/IntOverlay", "add", "(I)V"⟩ : MethodName)) hown (mvT hZ (hw _ (List.mem_of_getElem? (i := 17) rfl))) (mvT hZ (hw _ (List.mem_of_getElem? (i := 18) rfl))) (notFace_of_selects (args := #[]) (mvT hZ (hw _ (List.mem_of_getElem? (i := 20) rfl)))) (mvT hZ (hw _ (List.mem_of_getElem? (i := 20) rfl))) (mvT hZ (hw _ (List.mem_of_getElem? (i := 19) rfl))) (by decide) (backOf (W := 0) (rm3_1 l Z a0 hw [] b16 p5 b26 (fun i => if i = 0 then (.int p3) else (fun _ => (.int (0 : Int32))) i) (.ref b7) (.int (2 : Int32)) T28.heap n0 Z28 fx37 fx38 fx36 fx39 g_b16 g_b26 fx40 fx41) hZ (hw _ (List.mem_of_getElem? (i := 21) rfl)) (hw _ (List.mem_of_getElem? (i := 3) rfl)) (by decide) (by decide)) q35a q35c (g := (mkF m 63 #[.val (.int p1), .val (.int p2), .val (.int p3), .val (.int p4), .val (.int p5), .val (.int p6), .val (.int ((p6 &&& (2147483647 : Int32)) % (4 : Int32))), .val (.int (((p6 &&& (2147483647 : Int32)) % (4 : Int32)) % (3 : Int32))), .val (.ref b7), .val (.ref b16), .unset, .unset, .unset, .unset] [(.int p5), (.ref b16)])) rfl (by rw [hml]; rfl) (Steps.refl _) (argsL := [(.int p5)]) (rest := []) (lenOf pd_3 rfl) rfl (by show 2 * 0 + _ ≤ _; exact Nat.le_of_eq rfl) (hb hby at_63) (fun _ _ => ⟨rfl, rfl, (by decide : 4 + 0 ≤ _), (by decide : 24 + 0 ≤ _)⟩)
  dsimp only [Pt.U, Pt.locs, Pt.cells, Pt.slots] at X35 l35 y35 z35 st35 hQ35
  subst l35 y35 z35
  obtain ⟨rfl, N35q, K35q, fq35_0, fq35_1, fq35_2, fq35_3, fq35_4, fq35_5⟩ := hQ35
  have N35 := Fr.app N28 N35q
  have Z35 : n0 ≤ T35.heap.size := Nat.le_trans Z28 K35q.1
  refine Run.tr st35 ?_
  show Run p e below s 4 24 (Q_rm0 Z p1 p2 p3 p4 p5 p6 h0 n0) (T35.setTop (mkF m 66 #[.val (.int p1), .val (.int p2), .val (.int p3), .val (.int p4), .val (.int p5), .val (.int p6), .val (.int ((p6 &&& (2147483647 : Int32)) % (4 : Int32))), .val (.int (((p6 &&& (2147483647 : Int32)) % (4 : Int32)) % (3 : Int32))), .val (.ref b7), .val (.ref b16), .unset, .unset, .unset, .unset] []))
  obtain hk42 | hk42 | hk42 | hk42 := own_c p6
  · rw [hk42]
    show Run p e below s 4 24 (Q_rm0 Z p1 p2 p3 p4 p5 p6 h0 n0) (T35.setTop (mkF m 66 #[.val (.int p1), .val (.int p2), .val (.int p3), .val (.int p4), .val (.int p5), .val (.int p6), .val (.int (0 : Int32)), .val (.int (0 : Int32)), .val (.ref b7), .val (.ref b16), .unset, .unset, .unset, .unset] []))
    refine Run.go (fun _ k => XS.iload X35.here hx rfl (hb hby at_66) rfl  k) ?_
    show Run p e below s 4 24 (Q_rm0 Z p1 p2 p3 p4 p5 p6 h0 n0) (T35.setTop (mkF m 68 #[.val (.int p1), .val (.int p2), .val (.int p3), .val (.int p4), .val (.int p5), .val (.int p6), .val (.int (0 : Int32)), .val (.int (0 : Int32)), .val (.ref b7), .val (.ref b16), .unset, .unset, .unset, .unset] [(.int (0 : Int32))]))
    refine Run.go (fun _ k => XS.ifNo X35.here hx rfl (hb hby at_68) rfl ((if0 _ _).trans (teq (rfl : (0 : Int32) = (0 : Int32))).2) k) ?_
    show Run p e below s 4 24 (Q_rm0 Z p1 p2 p3 p4 p5 p6 h0 n0) (T35.setTop (mkF m 71 #[.val (.int p1), .val (.int p2), .val (.int p3), .val (.int p4), .val (.int p5), .val (.int p6), .val (.int (0 : Int32)), .val (.int (0 : Int32)), .val (.ref b7), .val (.ref b16), .unset, .unset, .unset, .unset] []))
    refine Run.go (fun _ k => XS.iloadN X35.here hx rfl (hb hby at_71) rfl  k) ?_
    show Run p e below s 4 24 (Q_rm0 Z p1 p2 p3 p4 p5 p6 h0 n0) (T35.setTop (mkF m 72 #[.val (.int p1), .val (.int p2), .val (.int p3), .val (.int p4), .val (.int p5), .val (.int p6), .val (.int (0 : Int32)), .val (.int (0 : Int32)), .val (.ref b7), .val (.ref b16), .unset, .unset, .unset, .unset] [(.int p1)]))
    refine Run.go (fun _ k => XS.istore X35.here hx rfl (hb hby at_72) rfl (l' := #[.val (.int p1), .val (.int p2), .val (.int p3), .val (.int p4), .val (.int p5), .val (.int p6), .val (.int (0 : Int32)), .val (.int (0 : Int32)), .val (.ref b7), .val (.ref b16), .val (.int p1), .unset, .unset, .unset]) rfl k) ?_
    show Run p e below s 4 24 (Q_rm0 Z p1 p2 p3 p4 p5 p6 h0 n0) (T35.setTop (mkF m 74 #[.val (.int p1), .val (.int p2), .val (.int p3), .val (.int p4), .val (.int p5), .val (.int p6), .val (.int (0 : Int32)), .val (.int (0 : Int32)), .val (.ref b7), .val (.ref b16), .val (.int p1), .unset, .unset, .unset] []))
    refine Run.go (fun _ k => XS.goto X35.here hx rfl (pc0 := 74) (pc' := 105) rfl (hb hby at_74) (by decide) (by decide) k) ?_
    show Run p e below s 4 24 (Q_rm0 Z p1 p2 p3 p4 p5 p6 h0 n0) (T35.setTop (mkF m 105 #[.val (.int p1), .val (.int p2), .val (.int p3), .val (.int p4), .val (.int p5), .val (.int p6), .val (.int (0 : Int32)), .val (.int (0 : Int32)), .val (.ref b7), .val (.ref b16), .val (.int p1), .unset, .unset, .unset] []))
    refine Run.go (fun _ k => XS.iload X35.here hx rfl (hb hby at_105) rfl  k) ?_
    show Run p e below s 4 24 (Q_rm0 Z p1 p2 p3 p4 p5 p6 h0 n0) (T35.setTop (mkF m 107 #[.val (.int p1), .val (.int p2), .val (.int p3), .val (.int p4), .val (.int p5), .val (.int p6), .val (.int (0 : Int32)), .val (.int (0 : Int32)), .val (.ref b7), .val (.ref b16), .val (.int p1), .unset, .unset, .unset] [(.int (0 : Int32))]))
    refine Run.go (fun _ k => XS.ifNo X35.here hx rfl (hb hby at_107) rfl ((if0 _ _).trans (teq (rfl : (0 : Int32) = (0 : Int32))).2) k) ?_
    show Run p e below s 4 24 (Q_rm0 Z p1 p2 p3 p4 p5 p6 h0 n0) (T35.setTop (mkF m 110 #[.val (.int p1), .val (.int p2), .val (.int p3), .val (.int p4), .val (.int p5), .val (.int p6), .val (.int (0 : Int32)), .val (.int (0 : Int32)), .val (.ref b7), .val (.ref b16), .val (.int p1), .unset, .unset, .unset] []))
    refine Run.go (fun _ k => XS.iloadN X35.here hx rfl (hb hby at_110) rfl  k) ?_
    show Run p e below s 4 24 (Q_rm0 Z p1 p2 p3 p4 p5 p6 h0 n0) (T35.setTop (mkF m 111 #[.val (.int p1), .val (.int p2), .val (.int p3), .val (.int p4), .val (.int p5), .val (.int p6), .val (.int (0 : Int32)), .val (.int (0 : Int32)), .val (.ref b7), .val (.ref b16), .val (.int p1), .unset, .unset, .unset] [(.int p1)]))
    refine Run.go (fun _ k => XS.istore X35.here hx rfl (hb hby at_111) rfl (l' := #[.val (.int p1), .val (.int p2), .val (.int p3), .val (.int p4), .val (.int p5), .val (.int p6), .val (.int (0 : Int32)), .val (.int (0 : Int32)), .val (.ref b7), .val (.ref b16), .val (.int p1), .val (.int p1), .unset, .unset]) rfl k) ?_
    show Run p e below s 4 24 (Q_rm0 Z p1 p2 p3 p4 p5 p6 h0 n0) (T35.setTop (mkF m 113 #[.val (.int p1), .val (.int p2), .val (.int p3), .val (.int p4), .val (.int p5), .val (.int p6), .val (.int (0 : Int32)), .val (.int (0 : Int32)), .val (.ref b7), .val (.ref b16), .val (.int p1), .val (.int p1), .unset, .unset] []))
    refine Run.go (fun _ k => XS.goto X35.here hx rfl (pc0 := 113) (pc' := 131) rfl (hb hby at_113) (by decide) (by decide) k) ?_
    show Run p e below s 4 24 (Q_rm0 Z p1 p2 p3 p4 p5 p6 h0 n0) (T35.setTop (mkF m 131 #[.val (.int p1), .val (.int p2), .val (.int p3), .val (.int p4), .val (.int p5), .val (.int p6), .val (.int (0 : Int32)), .val (.int (0 : Int32)), .val (.ref b7), .val (.ref b16), .val (.int p1), .val (.int p1), .unset, .unset] []))
    refine Run.go (fun _ k => XS.aload X35.here hx rfl (hb hby at_131) rfl rfl k) ?_
    show Run p e below s 4 24 (Q_rm0 Z p1 p2 p3 p4 p5 p6 h0 n0) (T35.setTop (mkF m 133 #[.val (.int p1), .val (.int p2), .val (.int p3), .val (.int p4), .val (.int p5), .val (.int p6), .val (.int (0 : Int32)), .val (.int (0 : Int32)), .val (.ref b7), .val (.ref b16), .val (.int p1), .val (.int p1), .unset, .unset] [(.ref b16)]))
    refine Run.go (fun _ k => XS.iload X35.here hx rfl (hb hby at_133) rfl  k) ?_
    show Run p e below s 4 24 (Q_rm0 Z p1 p2 p3 p4 p5 p6 h0 n0) (T35.setTop (mkF m 135 #[.val (.int p1), .val (.int p2), .val (.int p3), .val (.int p4), .val (.int p5), .val (.int p6), .val (.int (0 : Int32)), .val (.int (0 : Int32)), .val (.ref b7), .val (.ref b16), .val (.int p1), .val (.int p1), .unset, .unset] [(.int (0 : Int32)), (.ref b16)]))
    have fx44 := (fq28_5.keep K35q (ninS ne_b13_b16 (ninS ne_b13_b26 nin0)))
    have fx45 := (fq28_4.keep K35q (ninS ne_b7_b16 (ninS ne_b7_b26 nin0)))
    have fx46 := (fq28_1.keep K35q (ninS ne_b7_b16 (ninS ne_b7_b26 nin0)))
    have fx47 := (fq28_2.keep K35q)
    obtain ⟨cq43, kq43, q43a, q43b, q43c⟩ := isOf hZ rfl fq35_2
    obtain ⟨_, _, ⟨T43, L43, k43, n43⟩, -, X43, ⟨Lc43, hQ43, l43, y43, z43⟩, st43⟩ := X35.virtualBack hx (y := (⟨"com/example/nestor/nestor/IntOverlay", "get", "(I)I"⟩ : MethodName)) (z := (⟨"com/example/nestor/nestor/IntOverlay", "get", "(I)I"⟩ : MethodName)) hown (mvT hZ (hw _ (List.mem_of_getElem? (i := 32) rfl))) (mvT hZ (hw _ (List.mem_of_getElem? (i := 33) rfl))) (notFace_of_selects (args := #[]) (mvT hZ (hw _ (List.mem_of_getElem? (i := 35) rfl)))) (mvT hZ (hw _ (List.mem_of_getElem? (i := 35) rfl))) (mvT hZ (hw _ (List.mem_of_getElem? (i := 34) rfl))) (by decide) (backOf (W := 0) (rm6_2_0 l Z a0 hw [] b16 b7 b13 (fun i => if i = 2 then (.int p4) else (fun i => if i = 1 then (.int p2) else (fun i => if i = 0 then (.int p1) else (fun _ => (.int (0 : Int32))) i) i) i) p1 T35.heap n0 Z35 fq35_4 fq35_3 fx45 fx46 fx44 rfl fx47) hZ (hw _ (List.mem_of_getElem? (i := 36) rfl)) (hw _ (List.mem_of_getElem? (i := 3) rfl)) (by decide) (by decide)) q43a q43c (g := (mkF m 135 #[.val (.int p1), .val (.int p2), .val (.int p3), .val (.int p4), .val (.int p5), .val (.int p6), .val (.int (0 : Int32)), .val (.int (0 : Int32)), .val (.ref b7), .val (.ref b16), .val (.int p1), .val (.int p1), .unset, .unset] [(.int (0 : Int32)), (.ref b16)])) rfl (by rw [hml]; rfl) (Steps.refl _) (argsL := [(.int (0 : Int32))]) (rest := []) (lenOf pd_1 rfl) rfl (by show 2 * 0 + _ ≤ _; exact Nat.le_of_eq rfl) (hb hby at_135) (fun _ _ => ⟨rfl, rfl, (by decide : 4 + 0 ≤ _), (by decide : 24 + 0 ≤ _)⟩)
    dsimp only [Pt.U, Pt.locs, Pt.cells, Pt.slots] at X43 l43 y43 z43 st43 hQ43
    subst l43 y43 z43
    obtain ⟨rfl, N43q, e43q⟩ := hQ43
    have N43 := Fr.app N35 N43q
    refine Run.tr st43 ?_
    show Run p e below s 4 24 (Q_rm0 Z p1 p2 p3 p4 p5 p6 h0 n0) (T43.setTop (mkF m 138 #[.val (.int p1), .val (.int p2), .val (.int p3), .val (.int p4), .val (.int p5), .val (.int p6), .val (.int (0 : Int32)), .val (.int (0 : Int32)), .val (.ref b7), .val (.ref b16), .val (.int p1), .val (.int p1), .unset, .unset] [(.int p1)]))
    refine Run.go (fun _ k => XS.istore X43.here hx rfl (hb hby at_138) rfl (l' := #[.val (.int p1), .val (.int p2), .val (.int p3), .val (.int p4), .val (.int p5), .val (.int p6), .val (.int (0 : Int32)), .val (.int (0 : Int32)), .val (.ref b7), .val (.ref b16), .val (.int p1), .val (.int p1), .val (.int p1), .unset]) rfl k) ?_
    show Run p e below s 4 24 (Q_rm0 Z p1 p2 p3 p4 p5 p6 h0 n0) (T43.setTop (mkF m 140 #[.val (.int p1), .val (.int p2), .val (.int p3), .val (.int p4), .val (.int p5), .val (.int p6), .val (.int (0 : Int32)), .val (.int (0 : Int32)), .val (.ref b7), .val (.ref b16), .val (.int p1), .val (.int p1), .val (.int p1), .unset] []))
    refine Run.go (fun _ k => XS.aload X43.here hx rfl (hb hby at_140) rfl rfl k) ?_
    show Run p e below s 4 24 (Q_rm0 Z p1 p2 p3 p4 p5 p6 h0 n0) (T43.setTop (mkF m 142 #[.val (.int p1), .val (.int p2), .val (.int p3), .val (.int p4), .val (.int p5), .val (.int p6), .val (.int (0 : Int32)), .val (.int (0 : Int32)), .val (.ref b7), .val (.ref b16), .val (.int p1), .val (.int p1), .val (.int p1), .unset] [(.ref b7)]))
    refine Run.go (fun _ k => XS.iload X43.here hx rfl (hb hby at_142) rfl  k) ?_
    show Run p e below s 4 24 (Q_rm0 Z p1 p2 p3 p4 p5 p6 h0 n0) (T43.setTop (mkF m 144 #[.val (.int p1), .val (.int p2), .val (.int p3), .val (.int p4), .val (.int p5), .val (.int p6), .val (.int (0 : Int32)), .val (.int (0 : Int32)), .val (.ref b7), .val (.ref b16), .val (.int p1), .val (.int p1), .val (.int p1), .unset] [(.int (0 : Int32)), (.ref b7)]))
    obtain ⟨cq48, kq48, q48a, q48b, q48c⟩ := isOf hZ e43q fx47
    obtain ⟨_, _, ⟨T48, L48, k48, n48⟩, -, X48, ⟨Lc48, hQ48, l48, y48, z48⟩, st48⟩ := X43.virtualBack hx (y := (⟨"com/example/nestor/nestor/IntOverlay", "get", "(I)I"⟩ : MethodName)) (z := (⟨"com/example/nestor/nestor/IntOverlay", "get", "(I)I"⟩ : MethodName)) hown (mvT hZ (hw _ (List.mem_of_getElem? (i := 32) rfl))) (mvT hZ (hw _ (List.mem_of_getElem? (i := 33) rfl))) (notFace_of_selects (args := #[]) (mvT hZ (hw _ (List.mem_of_getElem? (i := 35) rfl)))) (mvT hZ (hw _ (List.mem_of_getElem? (i := 35) rfl))) (mvT hZ (hw _ (List.mem_of_getElem? (i := 34) rfl))) (by decide) (backOf (W := 0) (rm6_0_0 l Z a0 hw [] b7 b13 (fun i => if i = 2 then (.int p4) else (fun i => if i = 1 then (.int p2) else (fun i => if i = 0 then (.int p1) else (fun _ => (.int (0 : Int32))) i) i) i) p1 T35.heap n0 Z35 fx45 fx46 fx44 rfl) hZ (hw _ (List.mem_of_getElem? (i := 36) rfl)) (hw _ (List.mem_of_getElem? (i := 3) rfl)) (by decide) (by decide)) q48a q48c (g := (mkF m 144 #[.val (.int p1), .val (.int p2), .val (.int p3), .val (.int p4), .val (.int p5), .val (.int p6), .val (.int (0 : Int32)), .val (.int (0 : Int32)), .val (.ref b7), .val (.ref b16), .val (.int p1), .val (.int p1), .val (.int p1), .unset] [(.int (0 : Int32)), (.ref b7)])) rfl (by rw [hml]; rfl) (Steps.refl _) (argsL := [(.int (0 : Int32))]) (rest := []) (lenOf pd_1 rfl) rfl (by show 2 * 0 + _ ≤ _; exact Nat.le_of_eq rfl) (hb hby at_144) (fun _ _ => ⟨rfl, e43q, (by decide : 4 + 0 ≤ _), (by decide : 24 + 0 ≤ _)⟩)
    dsimp only [Pt.U, Pt.locs, Pt.cells, Pt.slots] at X48 l48 y48 z48 st48 hQ48
    subst l48 y48 z48
    obtain ⟨rfl, N48q, e48q⟩ := hQ48
    have N48 := Fr.app N43 N48q
    refine Run.tr st48 ?_
    show Run p e below s 4 24 (Q_rm0 Z p1 p2 p3 p4 p5 p6 h0 n0) (T48.setTop (mkF m 147 #[.val (.int p1), .val (.int p2), .val (.int p3), .val (.int p4), .val (.int p5), .val (.int p6), .val (.int (0 : Int32)), .val (.int (0 : Int32)), .val (.ref b7), .val (.ref b16), .val (.int p1), .val (.int p1), .val (.int p1), .unset] [(.int p1)]))
    refine Run.go (fun _ k => XS.istore X48.here hx rfl (hb hby at_147) rfl (l' := #[.val (.int p1), .val (.int p2), .val (.int p3), .val (.int p4), .val (.int p5), .val (.int p6), .val (.int (0 : Int32)), .val (.int (0 : Int32)), .val (.ref b7), .val (.ref b16), .val (.int p1), .val (.int p1), .val (.int p1), .val (.int p1)]) rfl k) ?_
    show Run p e below s 4 24 (Q_rm0 Z p1 p2 p3 p4 p5 p6 h0 n0) (T48.setTop (mkF m 149 #[.val (.int p1), .val (.int p2), .val (.int p3), .val (.int p4), .val (.int p5), .val (.int p6), .val (.int (0 : Int32)), .val (.int (0 : Int32)), .val (.ref b7), .val (.ref b16), .val (.int p1), .val (.int p1), .val (.int p1), .val (.int p1)] []))
    refine Run.go (fun _ k => XS.iload X48.here hx rfl (hb hby at_149) rfl  k) ?_
    show Run p e below s 4 24 (Q_rm0 Z p1 p2 p3 p4 p5 p6 h0 n0) (T48.setTop (mkF m 151 #[.val (.int p1), .val (.int p2), .val (.int p3), .val (.int p4), .val (.int p5), .val (.int p6), .val (.int (0 : Int32)), .val (.int (0 : Int32)), .val (.ref b7), .val (.ref b16), .val (.int p1), .val (.int p1), .val (.int p1), .val (.int p1)] [(.int p1)]))
    refine Run.go (fun _ k => XS.iload X48.here hx rfl (hb hby at_151) rfl  k) ?_
    show Run p e below s 4 24 (Q_rm0 Z p1 p2 p3 p4 p5 p6 h0 n0) (T48.setTop (mkF m 153 #[.val (.int p1), .val (.int p2), .val (.int p3), .val (.int p4), .val (.int p5), .val (.int p6), .val (.int (0 : Int32)), .val (.int (0 : Int32)), .val (.ref b7), .val (.ref b16), .val (.int p1), .val (.int p1), .val (.int p1), .val (.int p1)] [(.int p1), (.int p1)]))
    refine Run.go (fun _ k => XS.icmpNo X48.here hx rfl (hb hby at_153) rfl (teq (rfl : p1 = p1)).2 k) ?_
    show Run p e below s 4 24 (Q_rm0 Z p1 p2 p3 p4 p5 p6 h0 n0) (T48.setTop (mkF m 156 #[.val (.int p1), .val (.int p2), .val (.int p3), .val (.int p4), .val (.int p5), .val (.int p6), .val (.int (0 : Int32)), .val (.int (0 : Int32)), .val (.ref b7), .val (.ref b16), .val (.int p1), .val (.int p1), .val (.int p1), .val (.int p1)] []))
    refine Run.go (fun _ k => XS.iload X48.here hx rfl (hb hby at_156) rfl  k) ?_
    show Run p e below s 4 24 (Q_rm0 Z p1 p2 p3 p4 p5 p6 h0 n0) (T48.setTop (mkF m 158 #[.val (.int p1), .val (.int p2), .val (.int p3), .val (.int p4), .val (.int p5), .val (.int p6), .val (.int (0 : Int32)), .val (.int (0 : Int32)), .val (.ref b7), .val (.ref b16), .val (.int p1), .val (.int p1), .val (.int p1), .val (.int p1)] [(.int p1)]))
    refine Run.go (fun _ k => XS.iload X48.here hx rfl (hb hby at_158) rfl  k) ?_
    show Run p e below s 4 24 (Q_rm0 Z p1 p2 p3 p4 p5 p6 h0 n0) (T48.setTop (mkF m 160 #[.val (.int p1), .val (.int p2), .val (.int p3), .val (.int p4), .val (.int p5), .val (.int p6), .val (.int (0 : Int32)), .val (.int (0 : Int32)), .val (.ref b7), .val (.ref b16), .val (.int p1), .val (.int p1), .val (.int p1), .val (.int p1)] [(.int p1), (.int p1)]))
    refine Run.go (fun _ k => XS.icmpNo X48.here hx rfl (hb hby at_160) rfl (teq (rfl : p1 = p1)).2 k) ?_
    show Run p e below s 4 24 (Q_rm0 Z p1 p2 p3 p4 p5 p6 h0 n0) (T48.setTop (mkF m 163 #[.val (.int p1), .val (.int p2), .val (.int p3), .val (.int p4), .val (.int p5), .val (.int p6), .val (.int (0 : Int32)), .val (.int (0 : Int32)), .val (.ref b7), .val (.ref b16), .val (.int p1), .val (.int p1), .val (.int p1), .val (.int p1)] []))
    refine Run.go (fun _ k => XS.iconst X48.here hx rfl (hb hby at_163) k) ?_
    show Run p e below s 4 24 (Q_rm0 Z p1 p2 p3 p4 p5 p6 h0 n0) (T48.setTop (mkF m 164 #[.val (.int p1), .val (.int p2), .val (.int p3), .val (.int p4), .val (.int p5), .val (.int p6), .val (.int (0 : Int32)), .val (.int (0 : Int32)), .val (.ref b7), .val (.ref b16), .val (.int p1), .val (.int p1), .val (.int p1), .val (.int p1)] [(.int (1 : Int32))]))
    refine Run.go (fun _ k => XS.goto X48.here hx rfl (pc0 := 164) (pc' := 168) rfl (hb hby at_164) (by decide) (by decide) k) ?_
    show Run p e below s 4 24 (Q_rm0 Z p1 p2 p3 p4 p5 p6 h0 n0) (T48.setTop (mkF m 168 #[.val (.int p1), .val (.int p2), .val (.int p3), .val (.int p4), .val (.int p5), .val (.int p6), .val (.int (0 : Int32)), .val (.int (0 : Int32)), .val (.ref b7), .val (.ref b16), .val (.int p1), .val (.int p1), .val (.int p1), .val (.int p1)] [(.int (1 : Int32))]))
    exact Run.retN (y := 1) X48 hx (t := .boolean) Bd.returns (by simp) rfl Bd.notSynchronized (hb hby at_168) (by decide) (by decide) ⟨rfl, N48⟩
  · rw [hk42]
    show Run p e below s 4 24 (Q_rm0 Z p1 p2 p3 p4 p5 p6 h0 n0) (T35.setTop (mkF m 66 #[.val (.int p1), .val (.int p2), .val (.int p3), .val (.int p4), .val (.int p5), .val (.int p6), .val (.int (1 : Int32)), .val (.int (1 : Int32)), .val (.ref b7), .val (.ref b16), .unset, .unset, .unset, .unset] []))
    refine Run.go (fun _ k => XS.iload X35.here hx rfl (hb hby at_66) rfl  k) ?_
    show Run p e below s 4 24 (Q_rm0 Z p1 p2 p3 p4 p5 p6 h0 n0) (T35.setTop (mkF m 68 #[.val (.int p1), .val (.int p2), .val (.int p3), .val (.int p4), .val (.int p5), .val (.int p6), .val (.int (1 : Int32)), .val (.int (1 : Int32)), .val (.ref b7), .val (.ref b16), .unset, .unset, .unset, .unset] [(.int (1 : Int32))]))
    refine Run.go (fun _ k => XS.ifYes X35.here hx rfl (pc0 := 68) (pc' := 77) rfl (hb hby at_68) rfl ((if0 _ _).trans (feq (by decide)).2) (by decide) (by decide) k) ?_
    show Run p e below s 4 24 (Q_rm0 Z p1 p2 p3 p4 p5 p6 h0 n0) (T35.setTop (mkF m 77 #[.val (.int p1), .val (.int p2), .val (.int p3), .val (.int p4), .val (.int p5), .val (.int p6), .val (.int (1 : Int32)), .val (.int (1 : Int32)), .val (.ref b7), .val (.ref b16), .unset, .unset, .unset, .unset] []))
    refine Run.go (fun _ k => XS.iload X35.here hx rfl (hb hby at_77) rfl  k) ?_
    show Run p e below s 4 24 (Q_rm0 Z p1 p2 p3 p4 p5 p6 h0 n0) (T35.setTop (mkF m 79 #[.val (.int p1), .val (.int p2), .val (.int p3), .val (.int p4), .val (.int p5), .val (.int p6), .val (.int (1 : Int32)), .val (.int (1 : Int32)), .val (.ref b7), .val (.ref b16), .unset, .unset, .unset, .unset] [(.int (1 : Int32))]))
    refine Run.go (fun _ k => XS.iconst X35.here hx rfl (hb hby at_79) k) ?_
    show Run p e below s 4 24 (Q_rm0 Z p1 p2 p3 p4 p5 p6 h0 n0) (T35.setTop (mkF m 80 #[.val (.int p1), .val (.int p2), .val (.int p3), .val (.int p4), .val (.int p5), .val (.int p6), .val (.int (1 : Int32)), .val (.int (1 : Int32)), .val (.ref b7), .val (.ref b16), .unset, .unset, .unset, .unset] [(.int (1 : Int32)), (.int (1 : Int32))]))
    refine Run.go (fun _ k => XS.icmpNo X35.here hx rfl (hb hby at_80) rfl (teq (rfl : (1 : Int32) = (1 : Int32))).2 k) ?_
    show Run p e below s 4 24 (Q_rm0 Z p1 p2 p3 p4 p5 p6 h0 n0) (T35.setTop (mkF m 83 #[.val (.int p1), .val (.int p2), .val (.int p3), .val (.int p4), .val (.int p5), .val (.int p6), .val (.int (1 : Int32)), .val (.int (1 : Int32)), .val (.ref b7), .val (.ref b16), .unset, .unset, .unset, .unset] []))
    refine Run.go (fun _ k => XS.iloadN X35.here hx rfl (hb hby at_83) rfl  k) ?_
    show Run p e below s 4 24 (Q_rm0 Z p1 p2 p3 p4 p5 p6 h0 n0) (T35.setTop (mkF m 84 #[.val (.int p1), .val (.int p2), .val (.int p3), .val (.int p4), .val (.int p5), .val (.int p6), .val (.int (1 : Int32)), .val (.int (1 : Int32)), .val (.ref b7), .val (.ref b16), .unset, .unset, .unset, .unset] [(.int p2)]))
    refine Run.go (fun _ k => XS.istore X35.here hx rfl (hb hby at_84) rfl (l' := #[.val (.int p1), .val (.int p2), .val (.int p3), .val (.int p4), .val (.int p5), .val (.int p6), .val (.int (1 : Int32)), .val (.int (1 : Int32)), .val (.ref b7), .val (.ref b16), .val (.int p2), .unset, .unset, .unset]) rfl k) ?_
    show Run p e below s 4 24 (Q_rm0 Z p1 p2 p3 p4 p5 p6 h0 n0) (T35.setTop (mkF m 86 #[.val (.int p1), .val (.int p2), .val (.int p3), .val (.int p4), .val (.int p5), .val (.int p6), .val (.int (1 : Int32)), .val (.int (1 : Int32)), .val (.ref b7), .val (.ref b16), .val (.int p2), .unset, .unset, .unset] []))
    refine Run.go (fun _ k => XS.goto X35.here hx rfl (pc0 := 86) (pc' := 105) rfl (hb hby at_86) (by decide) (by decide) k) ?_
    show Run p e below s 4 24 (Q_rm0 Z p1 p2 p3 p4 p5 p6 h0 n0) (T35.setTop (mkF m 105 #[.val (.int p1), .val (.int p2), .val (.int p3), .val (.int p4), .val (.int p5), .val (.int p6), .val (.int (1 : Int32)), .val (.int (1 : Int32)), .val (.ref b7), .val (.ref b16), .val (.int p2), .unset, .unset, .unset] []))
    refine Run.go (fun _ k => XS.iload X35.here hx rfl (hb hby at_105) rfl  k) ?_
    show Run p e below s 4 24 (Q_rm0 Z p1 p2 p3 p4 p5 p6 h0 n0) (T35.setTop (mkF m 107 #[.val (.int p1), .val (.int p2), .val (.int p3), .val (.int p4), .val (.int p5), .val (.int p6), .val (.int (1 : Int32)), .val (.int (1 : Int32)), .val (.ref b7), .val (.ref b16), .val (.int p2), .unset, .unset, .unset] [(.int (1 : Int32))]))
    refine Run.go (fun _ k => XS.ifYes X35.here hx rfl (pc0 := 107) (pc' := 116) rfl (hb hby at_107) rfl ((if0 _ _).trans (feq (by decide)).2) (by decide) (by decide) k) ?_
    show Run p e below s 4 24 (Q_rm0 Z p1 p2 p3 p4 p5 p6 h0 n0) (T35.setTop (mkF m 116 #[.val (.int p1), .val (.int p2), .val (.int p3), .val (.int p4), .val (.int p5), .val (.int p6), .val (.int (1 : Int32)), .val (.int (1 : Int32)), .val (.ref b7), .val (.ref b16), .val (.int p2), .unset, .unset, .unset] []))
    refine Run.go (fun _ k => XS.iload X35.here hx rfl (hb hby at_116) rfl  k) ?_
    show Run p e below s 4 24 (Q_rm0 Z p1 p2 p3 p4 p5 p6 h0 n0) (T35.setTop (mkF m 118 #[.val (.int p1), .val (.int p2), .val (.int p3), .val (.int p4), .val (.int p5), .val (.int p6), .val (.int (1 : Int32)), .val (.int (1 : Int32)), .val (.ref b7), .val (.ref b16), .val (.int p2), .unset, .unset, .unset] [(.int (1 : Int32))]))
    refine Run.go (fun _ k => XS.iconst X35.here hx rfl (hb hby at_118) k) ?_
    show Run p e below s 4 24 (Q_rm0 Z p1 p2 p3 p4 p5 p6 h0 n0) (T35.setTop (mkF m 119 #[.val (.int p1), .val (.int p2), .val (.int p3), .val (.int p4), .val (.int p5), .val (.int p6), .val (.int (1 : Int32)), .val (.int (1 : Int32)), .val (.ref b7), .val (.ref b16), .val (.int p2), .unset, .unset, .unset] [(.int (1 : Int32)), (.int (1 : Int32))]))
    refine Run.go (fun _ k => XS.icmpNo X35.here hx rfl (hb hby at_119) rfl (teq (rfl : (1 : Int32) = (1 : Int32))).2 k) ?_
    show Run p e below s 4 24 (Q_rm0 Z p1 p2 p3 p4 p5 p6 h0 n0) (T35.setTop (mkF m 122 #[.val (.int p1), .val (.int p2), .val (.int p3), .val (.int p4), .val (.int p5), .val (.int p6), .val (.int (1 : Int32)), .val (.int (1 : Int32)), .val (.ref b7), .val (.ref b16), .val (.int p2), .unset, .unset, .unset] []))
    refine Run.go (fun _ k => XS.iloadN X35.here hx rfl (hb hby at_122) rfl  k) ?_
    show Run p e below s 4 24 (Q_rm0 Z p1 p2 p3 p4 p5 p6 h0 n0) (T35.setTop (mkF m 123 #[.val (.int p1), .val (.int p2), .val (.int p3), .val (.int p4), .val (.int p5), .val (.int p6), .val (.int (1 : Int32)), .val (.int (1 : Int32)), .val (.ref b7), .val (.ref b16), .val (.int p2), .unset, .unset, .unset] [(.int p2)]))
    refine Run.go (fun _ k => XS.istore X35.here hx rfl (hb hby at_123) rfl (l' := #[.val (.int p1), .val (.int p2), .val (.int p3), .val (.int p4), .val (.int p5), .val (.int p6), .val (.int (1 : Int32)), .val (.int (1 : Int32)), .val (.ref b7), .val (.ref b16), .val (.int p2), .val (.int p2), .unset, .unset]) rfl k) ?_
    show Run p e below s 4 24 (Q_rm0 Z p1 p2 p3 p4 p5 p6 h0 n0) (T35.setTop (mkF m 125 #[.val (.int p1), .val (.int p2), .val (.int p3), .val (.int p4), .val (.int p5), .val (.int p6), .val (.int (1 : Int32)), .val (.int (1 : Int32)), .val (.ref b7), .val (.ref b16), .val (.int p2), .val (.int p2), .unset, .unset] []))
    refine Run.go (fun _ k => XS.goto X35.here hx rfl (pc0 := 125) (pc' := 131) rfl (hb hby at_125) (by decide) (by decide) k) ?_
    show Run p e below s 4 24 (Q_rm0 Z p1 p2 p3 p4 p5 p6 h0 n0) (T35.setTop (mkF m 131 #[.val (.int p1), .val (.int p2), .val (.int p3), .val (.int p4), .val (.int p5), .val (.int p6), .val (.int (1 : Int32)), .val (.int (1 : Int32)), .val (.ref b7), .val (.ref b16), .val (.int p2), .val (.int p2), .unset, .unset] []))
    refine Run.go (fun _ k => XS.aload X35.here hx rfl (hb hby at_131) rfl rfl k) ?_
    show Run p e below s 4 24 (Q_rm0 Z p1 p2 p3 p4 p5 p6 h0 n0) (T35.setTop (mkF m 133 #[.val (.int p1), .val (.int p2), .val (.int p3), .val (.int p4), .val (.int p5), .val (.int p6), .val (.int (1 : Int32)), .val (.int (1 : Int32)), .val (.ref b7), .val (.ref b16), .val (.int p2), .val (.int p2), .unset, .unset] [(.ref b16)]))
    refine Run.go (fun _ k => XS.iload X35.here hx rfl (hb hby at_133) rfl  k) ?_
    show Run p e below s 4 24 (Q_rm0 Z p1 p2 p3 p4 p5 p6 h0 n0) (T35.setTop (mkF m 135 #[.val (.int p1), .val (.int p2), .val (.int p3), .val (.int p4), .val (.int p5), .val (.int p6), .val (.int (1 : Int32)), .val (.int (1 : Int32)), .val (.ref b7), .val (.ref b16), .val (.int p2), .val (.int p2), .unset, .unset] [(.int (1 : Int32)), (.ref b16)]))
    have fx50 := (fq28_5.keep K35q (ninS ne_b13_b16 (ninS ne_b13_b26 nin0)))
    have fx51 := (fq28_4.keep K35q (ninS ne_b7_b16 (ninS ne_b7_b26 nin0)))
    have fx52 := (fq28_1.keep K35q (ninS ne_b7_b16 (ninS ne_b7_b26 nin0)))
    have fx53 := (fq28_2.keep K35q)
    obtain ⟨cq49, kq49, q49a, q49b, q49c⟩ := isOf hZ rfl fq35_2
    obtain ⟨_, _, ⟨T49, L49, k49, n49⟩, -, X49, ⟨Lc49, hQ49, l49, y49, z49⟩, st49⟩ := X35.virtualBack hx (y := (⟨"com/example/nestor/nestor/IntOverlay", "get", "(I)I"⟩ : MethodName)) (z := (⟨"com/example/nestor/nestor/IntOverlay", "get", "(I)I"⟩ : MethodName)) hown (mvT hZ (hw _ (List.mem_of_getElem? (i := 32) rfl))) (mvT hZ (hw _ (List.mem_of_getElem? (i := 33) rfl))) (notFace_of_selects (args := #[]) (mvT hZ (hw _ (List.mem_of_getElem? (i := 35) rfl)))) (mvT hZ (hw _ (List.mem_of_getElem? (i := 35) rfl))) (mvT hZ (hw _ (List.mem_of_getElem? (i := 34) rfl))) (by decide) (backOf (W := 0) (rm6_2_1 l Z a0 hw [] b16 b7 b13 (fun i => if i = 2 then (.int p4) else (fun i => if i = 1 then (.int p2) else (fun i => if i = 0 then (.int p1) else (fun _ => (.int (0 : Int32))) i) i) i) p2 T35.heap n0 Z35 fq35_4 fq35_3 fx51 fx52 fx50 rfl fx53) hZ (hw _ (List.mem_of_getElem? (i := 36) rfl)) (hw _ (List.mem_of_getElem? (i := 3) rfl)) (by decide) (by decide)) q49a q49c (g := (mkF m 135 #[.val (.int p1), .val (.int p2), .val (.int p3), .val (.int p4), .val (.int p5), .val (.int p6), .val (.int (1 : Int32)), .val (.int (1 : Int32)), .val (.ref b7), .val (.ref b16), .val (.int p2), .val (.int p2), .unset, .unset] [(.int (1 : Int32)), (.ref b16)])) rfl (by rw [hml]; rfl) (Steps.refl _) (argsL := [(.int (1 : Int32))]) (rest := []) (lenOf pd_1 rfl) rfl (by show 2 * 0 + _ ≤ _; exact Nat.le_of_eq rfl) (hb hby at_135) (fun _ _ => ⟨rfl, rfl, (by decide : 4 + 0 ≤ _), (by decide : 24 + 0 ≤ _)⟩)
    dsimp only [Pt.U, Pt.locs, Pt.cells, Pt.slots] at X49 l49 y49 z49 st49 hQ49
    subst l49 y49 z49
    obtain ⟨rfl, N49q, e49q⟩ := hQ49
    have N49 := Fr.app N35 N49q
    refine Run.tr st49 ?_
    show Run p e below s 4 24 (Q_rm0 Z p1 p2 p3 p4 p5 p6 h0 n0) (T49.setTop (mkF m 138 #[.val (.int p1), .val (.int p2), .val (.int p3), .val (.int p4), .val (.int p5), .val (.int p6), .val (.int (1 : Int32)), .val (.int (1 : Int32)), .val (.ref b7), .val (.ref b16), .val (.int p2), .val (.int p2), .unset, .unset] [(.int p2)]))
    refine Run.go (fun _ k => XS.istore X49.here hx rfl (hb hby at_138) rfl (l' := #[.val (.int p1), .val (.int p2), .val (.int p3), .val (.int p4), .val (.int p5), .val (.int p6), .val (.int (1 : Int32)), .val (.int (1 : Int32)), .val (.ref b7), .val (.ref b16), .val (.int p2), .val (.int p2), .val (.int p2), .unset]) rfl k) ?_
    show Run p e below s 4 24 (Q_rm0 Z p1 p2 p3 p4 p5 p6 h0 n0) (T49.setTop (mkF m 140 #[.val (.int p1), .val (.int p2), .val (.int p3), .val (.int p4), .val (.int p5), .val (.int p6), .val (.int (1 : Int32)), .val (.int (1 : Int32)), .val (.ref b7), .val (.ref b16), .val (.int p2), .val (.int p2), .val (.int p2), .unset] []))
    refine Run.go (fun _ k => XS.aload X49.here hx rfl (hb hby at_140) rfl rfl k) ?_
    show Run p e below s 4 24 (Q_rm0 Z p1 p2 p3 p4 p5 p6 h0 n0) (T49.setTop (mkF m 142 #[.val (.int p1), .val (.int p2), .val (.int p3), .val (.int p4), .val (.int p5), .val (.int p6), .val (.int (1 : Int32)), .val (.int (1 : Int32)), .val (.ref b7), .val (.ref b16), .val (.int p2), .val (.int p2), .val (.int p2), .unset] [(.ref b7)]))
    refine Run.go (fun _ k => XS.iload X49.here hx rfl (hb hby at_142) rfl  k) ?_
    show Run p e below s 4 24 (Q_rm0 Z p1 p2 p3 p4 p5 p6 h0 n0) (T49.setTop (mkF m 144 #[.val (.int p1), .val (.int p2), .val (.int p3), .val (.int p4), .val (.int p5), .val (.int p6), .val (.int (1 : Int32)), .val (.int (1 : Int32)), .val (.ref b7), .val (.ref b16), .val (.int p2), .val (.int p2), .val (.int p2), .unset] [(.int (1 : Int32)), (.ref b7)]))
    obtain ⟨cq54, kq54, q54a, q54b, q54c⟩ := isOf hZ e49q fx53
    obtain ⟨_, _, ⟨T54, L54, k54, n54⟩, -, X54, ⟨Lc54, hQ54, l54, y54, z54⟩, st54⟩ := X49.virtualBack hx (y := (⟨"com/example/nestor/nestor/IntOverlay", "get", "(I)I"⟩ : MethodName)) (z := (⟨"com/example/nestor/nestor/IntOverlay", "get", "(I)I"⟩ : MethodName)) hown (mvT hZ (hw _ (List.mem_of_getElem? (i := 32) rfl))) (mvT hZ (hw _ (List.mem_of_getElem? (i := 33) rfl))) (notFace_of_selects (args := #[]) (mvT hZ (hw _ (List.mem_of_getElem? (i := 35) rfl)))) (mvT hZ (hw _ (List.mem_of_getElem? (i := 35) rfl))) (mvT hZ (hw _ (List.mem_of_getElem? (i := 34) rfl))) (by decide) (backOf (W := 0) (rm6_0_1 l Z a0 hw [] b7 b13 (fun i => if i = 2 then (.int p4) else (fun i => if i = 1 then (.int p2) else (fun i => if i = 0 then (.int p1) else (fun _ => (.int (0 : Int32))) i) i) i) p2 T35.heap n0 Z35 fx51 fx52 fx50 rfl) hZ (hw _ (List.mem_of_getElem? (i := 36) rfl)) (hw _ (List.mem_of_getElem? (i := 3) rfl)) (by decide) (by decide)) q54a q54c (g := (mkF m 144 #[.val (.int p1), .val (.int p2), .val (.int p3), .val (.int p4), .val (.int p5), .val (.int p6), .val (.int (1 : Int32)), .val (.int (1 : Int32)), .val (.ref b7), .val (.ref b16), .val (.int p2), .val (.int p2), .val (.int p2), .unset] [(.int (1 : Int32)), (.ref b7)])) rfl (by rw [hml]; rfl) (Steps.refl _) (argsL := [(.int (1 : Int32))]) (rest := []) (lenOf pd_1 rfl) rfl (by show 2 * 0 + _ ≤ _; exact Nat.le_of_eq rfl) (hb hby at_144) (fun _ _ => ⟨rfl, e49q, (by decide : 4 + 0 ≤ _), (by decide : 24 + 0 ≤ _)⟩)
    dsimp only [Pt.U, Pt.locs, Pt.cells, Pt.slots] at X54 l54 y54 z54 st54 hQ54
    subst l54 y54 z54
    obtain ⟨rfl, N54q, e54q⟩ := hQ54
    have N54 := Fr.app N49 N54q
    refine Run.tr st54 ?_
    show Run p e below s 4 24 (Q_rm0 Z p1 p2 p3 p4 p5 p6 h0 n0) (T54.setTop (mkF m 147 #[.val (.int p1), .val (.int p2), .val (.int p3), .val (.int p4), .val (.int p5), .val (.int p6), .val (.int (1 : Int32)), .val (.int (1 : Int32)), .val (.ref b7), .val (.ref b16), .val (.int p2), .val (.int p2), .val (.int p2), .unset] [(.int p2)]))
    refine Run.go (fun _ k => XS.istore X54.here hx rfl (hb hby at_147) rfl (l' := #[.val (.int p1), .val (.int p2), .val (.int p3), .val (.int p4), .val (.int p5), .val (.int p6), .val (.int (1 : Int32)), .val (.int (1 : Int32)), .val (.ref b7), .val (.ref b16), .val (.int p2), .val (.int p2), .val (.int p2), .val (.int p2)]) rfl k) ?_
    show Run p e below s 4 24 (Q_rm0 Z p1 p2 p3 p4 p5 p6 h0 n0) (T54.setTop (mkF m 149 #[.val (.int p1), .val (.int p2), .val (.int p3), .val (.int p4), .val (.int p5), .val (.int p6), .val (.int (1 : Int32)), .val (.int (1 : Int32)), .val (.ref b7), .val (.ref b16), .val (.int p2), .val (.int p2), .val (.int p2), .val (.int p2)] []))
    refine Run.go (fun _ k => XS.iload X54.here hx rfl (hb hby at_149) rfl  k) ?_
    show Run p e below s 4 24 (Q_rm0 Z p1 p2 p3 p4 p5 p6 h0 n0) (T54.setTop (mkF m 151 #[.val (.int p1), .val (.int p2), .val (.int p3), .val (.int p4), .val (.int p5), .val (.int p6), .val (.int (1 : Int32)), .val (.int (1 : Int32)), .val (.ref b7), .val (.ref b16), .val (.int p2), .val (.int p2), .val (.int p2), .val (.int p2)] [(.int p2)]))
    refine Run.go (fun _ k => XS.iload X54.here hx rfl (hb hby at_151) rfl  k) ?_
    show Run p e below s 4 24 (Q_rm0 Z p1 p2 p3 p4 p5 p6 h0 n0) (T54.setTop (mkF m 153 #[.val (.int p1), .val (.int p2), .val (.int p3), .val (.int p4), .val (.int p5), .val (.int p6), .val (.int (1 : Int32)), .val (.int (1 : Int32)), .val (.ref b7), .val (.ref b16), .val (.int p2), .val (.int p2), .val (.int p2), .val (.int p2)] [(.int p2), (.int p2)]))
    refine Run.go (fun _ k => XS.icmpNo X54.here hx rfl (hb hby at_153) rfl (teq (rfl : p2 = p2)).2 k) ?_
    show Run p e below s 4 24 (Q_rm0 Z p1 p2 p3 p4 p5 p6 h0 n0) (T54.setTop (mkF m 156 #[.val (.int p1), .val (.int p2), .val (.int p3), .val (.int p4), .val (.int p5), .val (.int p6), .val (.int (1 : Int32)), .val (.int (1 : Int32)), .val (.ref b7), .val (.ref b16), .val (.int p2), .val (.int p2), .val (.int p2), .val (.int p2)] []))
    refine Run.go (fun _ k => XS.iload X54.here hx rfl (hb hby at_156) rfl  k) ?_
    show Run p e below s 4 24 (Q_rm0 Z p1 p2 p3 p4 p5 p6 h0 n0) (T54.setTop (mkF m 158 #[.val (.int p1), .val (.int p2), .val (.int p3), .val (.int p4), .val (.int p5), .val (.int p6), .val (.int (1 : Int32)), .val (.int (1 : Int32)), .val (.ref b7), .val (.ref b16), .val (.int p2), .val (.int p2), .val (.int p2), .val (.int p2)] [(.int p2)]))
    refine Run.go (fun _ k => XS.iload X54.here hx rfl (hb hby at_158) rfl  k) ?_
    show Run p e below s 4 24 (Q_rm0 Z p1 p2 p3 p4 p5 p6 h0 n0) (T54.setTop (mkF m 160 #[.val (.int p1), .val (.int p2), .val (.int p3), .val (.int p4), .val (.int p5), .val (.int p6), .val (.int (1 : Int32)), .val (.int (1 : Int32)), .val (.ref b7), .val (.ref b16), .val (.int p2), .val (.int p2), .val (.int p2), .val (.int p2)] [(.int p2), (.int p2)]))
    refine Run.go (fun _ k => XS.icmpNo X54.here hx rfl (hb hby at_160) rfl (teq (rfl : p2 = p2)).2 k) ?_
    show Run p e below s 4 24 (Q_rm0 Z p1 p2 p3 p4 p5 p6 h0 n0) (T54.setTop (mkF m 163 #[.val (.int p1), .val (.int p2), .val (.int p3), .val (.int p4), .val (.int p5), .val (.int p6), .val (.int (1 : Int32)), .val (.int (1 : Int32)), .val (.ref b7), .val (.ref b16), .val (.int p2), .val (.int p2), .val (.int p2), .val (.int p2)] []))
    refine Run.go (fun _ k => XS.iconst X54.here hx rfl (hb hby at_163) k) ?_
    show Run p e below s 4 24 (Q_rm0 Z p1 p2 p3 p4 p5 p6 h0 n0) (T54.setTop (mkF m 164 #[.val (.int p1), .val (.int p2), .val (.int p3), .val (.int p4), .val (.int p5), .val (.int p6), .val (.int (1 : Int32)), .val (.int (1 : Int32)), .val (.ref b7), .val (.ref b16), .val (.int p2), .val (.int p2), .val (.int p2), .val (.int p2)] [(.int (1 : Int32))]))
    refine Run.go (fun _ k => XS.goto X54.here hx rfl (pc0 := 164) (pc' := 168) rfl (hb hby at_164) (by decide) (by decide) k) ?_
    show Run p e below s 4 24 (Q_rm0 Z p1 p2 p3 p4 p5 p6 h0 n0) (T54.setTop (mkF m 168 #[.val (.int p1), .val (.int p2), .val (.int p3), .val (.int p4), .val (.int p5), .val (.int p6), .val (.int (1 : Int32)), .val (.int (1 : Int32)), .val (.ref b7), .val (.ref b16), .val (.int p2), .val (.int p2), .val (.int p2), .val (.int p2)] [(.int (1 : Int32))]))
    exact Run.retN (y := 1) X54 hx (t := .boolean) Bd.returns (by simp) rfl Bd.notSynchronized (hb hby at_168) (by decide) (by decide) ⟨rfl, N54⟩
  · rw [hk42]
    show Run p e below s 4 24 (Q_rm0 Z p1 p2 p3 p4 p5 p6 h0 n0) (T35.setTop (mkF m 66 #[.val (.int p1), .val (.int p2), .val (.int p3), .val (.int p4), .val (.int p5), .val (.int p6), .val (.int (2 : Int32)), .val (.int (2 : Int32)), .val (.ref b7), .val (.ref b16), .unset, .unset, .unset, .unset] []))
    refine Run.go (fun _ k => XS.iload X35.here hx rfl (hb hby at_66) rfl  k) ?_
    show Run p e below s 4 24 (Q_rm0 Z p1 p2 p3 p4 p5 p6 h0 n0) (T35.setTop (mkF m 68 #[.val (.int p1), .val (.int p2), .val (.int p3), .val (.int p4), .val (.int p5), .val (.int p6), .val (.int (2 : Int32)), .val (.int (2 : Int32)), .val (.ref b7), .val (.ref b16), .unset, .unset, .unset, .unset] [(.int (2 : Int32))]))
    refine Run.go (fun _ k => XS.ifYes X35.here hx rfl (pc0 := 68) (pc' := 77) rfl (hb hby at_68) rfl ((if0 _ _).trans (feq (by decide)).2) (by decide) (by decide) k) ?_
    show Run p e below s 4 24 (Q_rm0 Z p1 p2 p3 p4 p5 p6 h0 n0) (T35.setTop (mkF m 77 #[.val (.int p1), .val (.int p2), .val (.int p3), .val (.int p4), .val (.int p5), .val (.int p6), .val (.int (2 : Int32)), .val (.int (2 : Int32)), .val (.ref b7), .val (.ref b16), .unset, .unset, .unset, .unset] []))
    refine Run.go (fun _ k => XS.iload X35.here hx rfl (hb hby at_77) rfl  k) ?_
    show Run p e below s 4 24 (Q_rm0 Z p1 p2 p3 p4 p5 p6 h0 n0) (T35.setTop (mkF m 79 #[.val (.int p1), .val (.int p2), .val (.int p3), .val (.int p4), .val (.int p5), .val (.int p6), .val (.int (2 : Int32)), .val (.int (2 : Int32)), .val (.ref b7), .val (.ref b16), .unset, .unset, .unset, .unset] [(.int (2 : Int32))]))
    refine Run.go (fun _ k => XS.iconst X35.here hx rfl (hb hby at_79) k) ?_
    show Run p e below s 4 24 (Q_rm0 Z p1 p2 p3 p4 p5 p6 h0 n0) (T35.setTop (mkF m 80 #[.val (.int p1), .val (.int p2), .val (.int p3), .val (.int p4), .val (.int p5), .val (.int p6), .val (.int (2 : Int32)), .val (.int (2 : Int32)), .val (.ref b7), .val (.ref b16), .unset, .unset, .unset, .unset] [(.int (1 : Int32)), (.int (2 : Int32))]))
    refine Run.go (fun _ k => XS.icmpYes X35.here hx rfl (pc0 := 80) (pc' := 89) rfl (hb hby at_80) rfl (feq (by decide)).2 (by decide) (by decide) k) ?_
    show Run p e below s 4 24 (Q_rm0 Z p1 p2 p3 p4 p5 p6 h0 n0) (T35.setTop (mkF m 89 #[.val (.int p1), .val (.int p2), .val (.int p3), .val (.int p4), .val (.int p5), .val (.int p6), .val (.int (2 : Int32)), .val (.int (2 : Int32)), .val (.ref b7), .val (.ref b16), .unset, .unset, .unset, .unset] []))
    refine Run.go (fun _ k => XS.iload X35.here hx rfl (hb hby at_89) rfl  k) ?_
    show Run p e below s 4 24 (Q_rm0 Z p1 p2 p3 p4 p5 p6 h0 n0) (T35.setTop (mkF m 91 #[.val (.int p1), .val (.int p2), .val (.int p3), .val (.int p4), .val (.int p5), .val (.int p6), .val (.int (2 : Int32)), .val (.int (2 : Int32)), .val (.ref b7), .val (.ref b16), .unset, .unset, .unset, .unset] [(.int (2 : Int32))]))
    refine Run.go (fun _ k => XS.iconst X35.here hx rfl (hb hby at_91) k) ?_
    show Run p e below s 4 24 (Q_rm0 Z p1 p2 p3 p4 p5 p6 h0 n0) (T35.setTop (mkF m 92 #[.val (.int p1), .val (.int p2), .val (.int p3), .val (.int p4), .val (.int p5), .val (.int p6), .val (.int (2 : Int32)), .val (.int (2 : Int32)), .val (.ref b7), .val (.ref b16), .unset, .unset, .unset, .unset] [(.int (2 : Int32)), (.int (2 : Int32))]))
    refine Run.go (fun _ k => XS.icmpNo X35.here hx rfl (hb hby at_92) rfl (teq (rfl : (2 : Int32) = (2 : Int32))).2 k) ?_
    show Run p e below s 4 24 (Q_rm0 Z p1 p2 p3 p4 p5 p6 h0 n0) (T35.setTop (mkF m 95 #[.val (.int p1), .val (.int p2), .val (.int p3), .val (.int p4), .val (.int p5), .val (.int p6), .val (.int (2 : Int32)), .val (.int (2 : Int32)), .val (.ref b7), .val (.ref b16), .unset, .unset, .unset, .unset] []))
    refine Run.go (fun _ k => XS.iloadN X35.here hx rfl (hb hby at_95) rfl  k) ?_
    show Run p e below s 4 24 (Q_rm0 Z p1 p2 p3 p4 p5 p6 h0 n0) (T35.setTop (mkF m 96 #[.val (.int p1), .val (.int p2), .val (.int p3), .val (.int p4), .val (.int p5), .val (.int p6), .val (.int (2 : Int32)), .val (.int (2 : Int32)), .val (.ref b7), .val (.ref b16), .unset, .unset, .unset, .unset] [(.int p3)]))
    refine Run.go (fun _ k => XS.istore X35.here hx rfl (hb hby at_96) rfl (l' := #[.val (.int p1), .val (.int p2), .val (.int p3), .val (.int p4), .val (.int p5), .val (.int p6), .val (.int (2 : Int32)), .val (.int (2 : Int32)), .val (.ref b7), .val (.ref b16), .val (.int p3), .unset, .unset, .unset]) rfl k) ?_
    show Run p e below s 4 24 (Q_rm0 Z p1 p2 p3 p4 p5 p6 h0 n0) (T35.setTop (mkF m 98 #[.val (.int p1), .val (.int p2), .val (.int p3), .val (.int p4), .val (.int p5), .val (.int p6), .val (.int (2 : Int32)), .val (.int (2 : Int32)), .val (.ref b7), .val (.ref b16), .val (.int p3), .unset, .unset, .unset] []))
    refine Run.go (fun _ k => XS.goto X35.here hx rfl (pc0 := 98) (pc' := 105) rfl (hb hby at_98) (by decide) (by decide) k) ?_
    show Run p e below s 4 24 (Q_rm0 Z p1 p2 p3 p4 p5 p6 h0 n0) (T35.setTop (mkF m 105 #[.val (.int p1), .val (.int p2), .val (.int p3), .val (.int p4), .val (.int p5), .val (.int p6), .val (.int (2 : Int32)), .val (.int (2 : Int32)), .val (.ref b7), .val (.ref b16), .val (.int p3), .unset, .unset, .unset] []))
    refine Run.go (fun _ k => XS.iload X35.here hx rfl (hb hby at_105) rfl  k) ?_
    show Run p e below s 4 24 (Q_rm0 Z p1 p2 p3 p4 p5 p6 h0 n0) (T35.setTop (mkF m 107 #[.val (.int p1), .val (.int p2), .val (.int p3), .val (.int p4), .val (.int p5), .val (.int p6), .val (.int (2 : Int32)), .val (.int (2 : Int32)), .val (.ref b7), .val (.ref b16), .val (.int p3), .unset, .unset, .unset] [(.int (2 : Int32))]))
    refine Run.go (fun _ k => XS.ifYes X35.here hx rfl (pc0 := 107) (pc' := 116) rfl (hb hby at_107) rfl ((if0 _ _).trans (feq (by decide)).2) (by decide) (by decide) k) ?_
    show Run p e below s 4 24 (Q_rm0 Z p1 p2 p3 p4 p5 p6 h0 n0) (T35.setTop (mkF m 116 #[.val (.int p1), .val (.int p2), .val (.int p3), .val (.int p4), .val (.int p5), .val (.int p6), .val (.int (2 : Int32)), .val (.int (2 : Int32)), .val (.ref b7), .val (.ref b16), .val (.int p3), .unset, .unset, .unset] []))
    refine Run.go (fun _ k => XS.iload X35.here hx rfl (hb hby at_116) rfl  k) ?_
    show Run p e below s 4 24 (Q_rm0 Z p1 p2 p3 p4 p5 p6 h0 n0) (T35.setTop (mkF m 118 #[.val (.int p1), .val (.int p2), .val (.int p3), .val (.int p4), .val (.int p5), .val (.int p6), .val (.int (2 : Int32)), .val (.int (2 : Int32)), .val (.ref b7), .val (.ref b16), .val (.int p3), .unset, .unset, .unset] [(.int (2 : Int32))]))
    refine Run.go (fun _ k => XS.iconst X35.here hx rfl (hb hby at_118) k) ?_
    show Run p e below s 4 24 (Q_rm0 Z p1 p2 p3 p4 p5 p6 h0 n0) (T35.setTop (mkF m 119 #[.val (.int p1), .val (.int p2), .val (.int p3), .val (.int p4), .val (.int p5), .val (.int p6), .val (.int (2 : Int32)), .val (.int (2 : Int32)), .val (.ref b7), .val (.ref b16), .val (.int p3), .unset, .unset, .unset] [(.int (1 : Int32)), (.int (2 : Int32))]))
    refine Run.go (fun _ k => XS.icmpYes X35.here hx rfl (pc0 := 119) (pc' := 128) rfl (hb hby at_119) rfl (feq (by decide)).2 (by decide) (by decide) k) ?_
    show Run p e below s 4 24 (Q_rm0 Z p1 p2 p3 p4 p5 p6 h0 n0) (T35.setTop (mkF m 128 #[.val (.int p1), .val (.int p2), .val (.int p3), .val (.int p4), .val (.int p5), .val (.int p6), .val (.int (2 : Int32)), .val (.int (2 : Int32)), .val (.ref b7), .val (.ref b16), .val (.int p3), .unset, .unset, .unset] []))
    refine Run.go (fun _ k => XS.iloadN X35.here hx rfl (hb hby at_128) rfl  k) ?_
    show Run p e below s 4 24 (Q_rm0 Z p1 p2 p3 p4 p5 p6 h0 n0) (T35.setTop (mkF m 129 #[.val (.int p1), .val (.int p2), .val (.int p3), .val (.int p4), .val (.int p5), .val (.int p6), .val (.int (2 : Int32)), .val (.int (2 : Int32)), .val (.ref b7), .val (.ref b16), .val (.int p3), .unset, .unset, .unset] [(.int p4)]))
    refine Run.go (fun _ k => XS.istore X35.here hx rfl (hb hby at_129) rfl (l' := #[.val (.int p1), .val (.int p2), .val (.int p3), .val (.int p4), .val (.int p5), .val (.int p6), .val (.int (2 : Int32)), .val (.int (2 : Int32)), .val (.ref b7), .val (.ref b16), .val (.int p3), .val (.int p4), .unset, .unset]) rfl k) ?_
    show Run p e below s 4 24 (Q_rm0 Z p1 p2 p3 p4 p5 p6 h0 n0) (T35.setTop (mkF m 131 #[.val (.int p1), .val (.int p2), .val (.int p3), .val (.int p4), .val (.int p5), .val (.int p6), .val (.int (2 : Int32)), .val (.int (2 : Int32)), .val (.ref b7), .val (.ref b16), .val (.int p3), .val (.int p4), .unset, .unset] []))
    refine Run.go (fun _ k => XS.aload X35.here hx rfl (hb hby at_131) rfl rfl k) ?_
    show Run p e below s 4 24 (Q_rm0 Z p1 p2 p3 p4 p5 p6 h0 n0) (T35.setTop (mkF m 133 #[.val (.int p1), .val (.int p2), .val (.int p3), .val (.int p4), .val (.int p5), .val (.int p6), .val (.int (2 : Int32)), .val (.int (2 : Int32)), .val (.ref b7), .val (.ref b16), .val (.int p3), .val (.int p4), .unset, .unset] [(.ref b16)]))
    refine Run.go (fun _ k => XS.iload X35.here hx rfl (hb hby at_133) rfl  k) ?_
    show Run p e below s 4 24 (Q_rm0 Z p1 p2 p3 p4 p5 p6 h0 n0) (T35.setTop (mkF m 135 #[.val (.int p1), .val (.int p2), .val (.int p3), .val (.int p4), .val (.int p5), .val (.int p6), .val (.int (2 : Int32)), .val (.int (2 : Int32)), .val (.ref b7), .val (.ref b16), .val (.int p3), .val (.int p4), .unset, .unset] [(.int (2 : Int32)), (.ref b16)]))
    obtain ⟨cq55, kq55, q55a, q55b, q55c⟩ := isOf hZ rfl fq35_2
    obtain ⟨_, _, ⟨T55, L55, k55, n55⟩, -, X55, ⟨Lc55, hQ55, l55, y55, z55⟩, st55⟩ := X35.virtualBack hx (y := (⟨"com/example/nestor/nestor/IntOverlay", "get", "(I)I"⟩ : MethodName)) (z := (⟨"com/example/nestor/nestor/IntOverlay", "get", "(I)I"⟩ : MethodName)) hown (mvT hZ (hw _ (List.mem_of_getElem? (i := 32) rfl))) (mvT hZ (hw _ (List.mem_of_getElem? (i := 33) rfl))) (notFace_of_selects (args := #[]) (mvT hZ (hw _ (List.mem_of_getElem? (i := 35) rfl)))) (mvT hZ (hw _ (List.mem_of_getElem? (i := 35) rfl))) (mvT hZ (hw _ (List.mem_of_getElem? (i := 34) rfl))) (by decide) (backOf (W := 0) (rm6_2_2 l Z a0 hw [] b16 b26 (fun i => if i = 1 then (.int p5) else (fun i => if i = 0 then (.int p3) else (fun _ => (.int (0 : Int32))) i) i) p3 T35.heap n0 Z35 fq35_4 fq35_1 fq35_5 rfl) hZ (hw _ (List.mem_of_getElem? (i := 36) rfl)) (hw _ (List.mem_of_getElem? (i := 3) rfl)) (by decide) (by decide)) q55a q55c (g := (mkF m 135 #[.val (.int p1), .val (.int p2), .val (.int p3), .val (.int p4), .val (.int p5), .val (.int p6), .val (.int (2 : Int32)), .val (.int (2 : Int32)), .val (.ref b7), .val (.ref b16), .val (.int p3), .val (.int p4), .unset, .unset] [(.int (2 : Int32)), (.ref b16)])) rfl (by rw [hml]; rfl) (Steps.refl _) (argsL := [(.int (2 : Int32))]) (rest := []) (lenOf pd_1 rfl) rfl (by show 2 * 0 + _ ≤ _; exact Nat.le_of_eq rfl) (hb hby at_135) (fun _ _ => ⟨rfl, rfl, (by decide : 4 + 0 ≤ _), (by decide : 24 + 0 ≤ _)⟩)
    dsimp only [Pt.U, Pt.locs, Pt.cells, Pt.slots] at X55 l55 y55 z55 st55 hQ55
    subst l55 y55 z55
    obtain ⟨rfl, N55q, e55q⟩ := hQ55
    have N55 := Fr.app N35 N55q
    refine Run.tr st55 ?_
    show Run p e below s 4 24 (Q_rm0 Z p1 p2 p3 p4 p5 p6 h0 n0) (T55.setTop (mkF m 138 #[.val (.int p1), .val (.int p2), .val (.int p3), .val (.int p4), .val (.int p5), .val (.int p6), .val (.int (2 : Int32)), .val (.int (2 : Int32)), .val (.ref b7), .val (.ref b16), .val (.int p3), .val (.int p4), .unset, .unset] [(.int p3)]))
    refine Run.go (fun _ k => XS.istore X55.here hx rfl (hb hby at_138) rfl (l' := #[.val (.int p1), .val (.int p2), .val (.int p3), .val (.int p4), .val (.int p5), .val (.int p6), .val (.int (2 : Int32)), .val (.int (2 : Int32)), .val (.ref b7), .val (.ref b16), .val (.int p3), .val (.int p4), .val (.int p3), .unset]) rfl k) ?_
    show Run p e below s 4 24 (Q_rm0 Z p1 p2 p3 p4 p5 p6 h0 n0) (T55.setTop (mkF m 140 #[.val (.int p1), .val (.int p2), .val (.int p3), .val (.int p4), .val (.int p5), .val (.int p6), .val (.int (2 : Int32)), .val (.int (2 : Int32)), .val (.ref b7), .val (.ref b16), .val (.int p3), .val (.int p4), .val (.int p3), .unset] []))
    refine Run.go (fun _ k => XS.aload X55.here hx rfl (hb hby at_140) rfl rfl k) ?_
    show Run p e below s 4 24 (Q_rm0 Z p1 p2 p3 p4 p5 p6 h0 n0) (T55.setTop (mkF m 142 #[.val (.int p1), .val (.int p2), .val (.int p3), .val (.int p4), .val (.int p5), .val (.int p6), .val (.int (2 : Int32)), .val (.int (2 : Int32)), .val (.ref b7), .val (.ref b16), .val (.int p3), .val (.int p4), .val (.int p3), .unset] [(.ref b7)]))
    refine Run.go (fun _ k => XS.iload X55.here hx rfl (hb hby at_142) rfl  k) ?_
    show Run p e below s 4 24 (Q_rm0 Z p1 p2 p3 p4 p5 p6 h0 n0) (T55.setTop (mkF m 144 #[.val (.int p1), .val (.int p2), .val (.int p3), .val (.int p4), .val (.int p5), .val (.int p6), .val (.int (2 : Int32)), .val (.int (2 : Int32)), .val (.ref b7), .val (.ref b16), .val (.int p3), .val (.int p4), .val (.int p3), .unset] [(.int (2 : Int32)), (.ref b7)]))
    have fx57 := (fq28_5.keep K35q (ninS ne_b13_b16 (ninS ne_b13_b26 nin0)))
    have fx58 := (fq28_4.keep K35q (ninS ne_b7_b16 (ninS ne_b7_b26 nin0)))
    have fx59 := (fq28_1.keep K35q (ninS ne_b7_b16 (ninS ne_b7_b26 nin0)))
    have fx60 := (fq28_2.keep K35q)
    obtain ⟨cq56, kq56, q56a, q56b, q56c⟩ := isOf hZ e55q fx60
    obtain ⟨_, _, ⟨T56, L56, k56, n56⟩, -, X56, ⟨Lc56, hQ56, l56, y56, z56⟩, st56⟩ := X55.virtualBack hx (y := (⟨"com/example/nestor/nestor/IntOverlay", "get", "(I)I"⟩ : MethodName)) (z := (⟨"com/example/nestor/nestor/IntOverlay", "get", "(I)I"⟩ : MethodName)) hown (mvT hZ (hw _ (List.mem_of_getElem? (i := 32) rfl))) (mvT hZ (hw _ (List.mem_of_getElem? (i := 33) rfl))) (notFace_of_selects (args := #[]) (mvT hZ (hw _ (List.mem_of_getElem? (i := 35) rfl)))) (mvT hZ (hw _ (List.mem_of_getElem? (i := 35) rfl))) (mvT hZ (hw _ (List.mem_of_getElem? (i := 34) rfl))) (by decide) (backOf (W := 0) (rm6_0_2 l Z a0 hw [] b7 b13 (fun i => if i = 2 then (.int p4) else (fun i => if i = 1 then (.int p2) else (fun i => if i = 0 then (.int p1) else (fun _ => (.int (0 : Int32))) i) i) i) p4 T35.heap n0 Z35 fx58 fx59 fx57 rfl) hZ (hw _ (List.mem_of_getElem? (i := 36) rfl)) (hw _ (List.mem_of_getElem? (i := 3) rfl)) (by decide) (by decide)) q56a q56c (g := (mkF m 144 #[.val (.int p1), .val (.int p2), .val (.int p3), .val (.int p4), .val (.int p5), .val (.int p6), .val (.int (2 : Int32)), .val (.int (2 : Int32)), .val (.ref b7), .val (.ref b16), .val (.int p3), .val (.int p4), .val (.int p3), .unset] [(.int (2 : Int32)), (.ref b7)])) rfl (by rw [hml]; rfl) (Steps.refl _) (argsL := [(.int (2 : Int32))]) (rest := []) (lenOf pd_1 rfl) rfl (by show 2 * 0 + _ ≤ _; exact Nat.le_of_eq rfl) (hb hby at_144) (fun _ _ => ⟨rfl, e55q, (by decide : 4 + 0 ≤ _), (by decide : 24 + 0 ≤ _)⟩)
    dsimp only [Pt.U, Pt.locs, Pt.cells, Pt.slots] at X56 l56 y56 z56 st56 hQ56
    subst l56 y56 z56
    obtain ⟨rfl, N56q, e56q⟩ := hQ56
    have N56 := Fr.app N55 N56q
    refine Run.tr st56 ?_
    show Run p e below s 4 24 (Q_rm0 Z p1 p2 p3 p4 p5 p6 h0 n0) (T56.setTop (mkF m 147 #[.val (.int p1), .val (.int p2), .val (.int p3), .val (.int p4), .val (.int p5), .val (.int p6), .val (.int (2 : Int32)), .val (.int (2 : Int32)), .val (.ref b7), .val (.ref b16), .val (.int p3), .val (.int p4), .val (.int p3), .unset] [(.int p4)]))
    refine Run.go (fun _ k => XS.istore X56.here hx rfl (hb hby at_147) rfl (l' := #[.val (.int p1), .val (.int p2), .val (.int p3), .val (.int p4), .val (.int p5), .val (.int p6), .val (.int (2 : Int32)), .val (.int (2 : Int32)), .val (.ref b7), .val (.ref b16), .val (.int p3), .val (.int p4), .val (.int p3), .val (.int p4)]) rfl k) ?_
    show Run p e below s 4 24 (Q_rm0 Z p1 p2 p3 p4 p5 p6 h0 n0) (T56.setTop (mkF m 149 #[.val (.int p1), .val (.int p2), .val (.int p3), .val (.int p4), .val (.int p5), .val (.int p6), .val (.int (2 : Int32)), .val (.int (2 : Int32)), .val (.ref b7), .val (.ref b16), .val (.int p3), .val (.int p4), .val (.int p3), .val (.int p4)] []))
    refine Run.go (fun _ k => XS.iload X56.here hx rfl (hb hby at_149) rfl  k) ?_
    show Run p e below s 4 24 (Q_rm0 Z p1 p2 p3 p4 p5 p6 h0 n0) (T56.setTop (mkF m 151 #[.val (.int p1), .val (.int p2), .val (.int p3), .val (.int p4), .val (.int p5), .val (.int p6), .val (.int (2 : Int32)), .val (.int (2 : Int32)), .val (.ref b7), .val (.ref b16), .val (.int p3), .val (.int p4), .val (.int p3), .val (.int p4)] [(.int p3)]))
    refine Run.go (fun _ k => XS.iload X56.here hx rfl (hb hby at_151) rfl  k) ?_
    show Run p e below s 4 24 (Q_rm0 Z p1 p2 p3 p4 p5 p6 h0 n0) (T56.setTop (mkF m 153 #[.val (.int p1), .val (.int p2), .val (.int p3), .val (.int p4), .val (.int p5), .val (.int p6), .val (.int (2 : Int32)), .val (.int (2 : Int32)), .val (.ref b7), .val (.ref b16), .val (.int p3), .val (.int p4), .val (.int p3), .val (.int p4)] [(.int p3), (.int p3)]))
    refine Run.go (fun _ k => XS.icmpNo X56.here hx rfl (hb hby at_153) rfl (teq (rfl : p3 = p3)).2 k) ?_
    show Run p e below s 4 24 (Q_rm0 Z p1 p2 p3 p4 p5 p6 h0 n0) (T56.setTop (mkF m 156 #[.val (.int p1), .val (.int p2), .val (.int p3), .val (.int p4), .val (.int p5), .val (.int p6), .val (.int (2 : Int32)), .val (.int (2 : Int32)), .val (.ref b7), .val (.ref b16), .val (.int p3), .val (.int p4), .val (.int p3), .val (.int p4)] []))
    refine Run.go (fun _ k => XS.iload X56.here hx rfl (hb hby at_156) rfl  k) ?_
    show Run p e below s 4 24 (Q_rm0 Z p1 p2 p3 p4 p5 p6 h0 n0) (T56.setTop (mkF m 158 #[.val (.int p1), .val (.int p2), .val (.int p3), .val (.int p4), .val (.int p5), .val (.int p6), .val (.int (2 : Int32)), .val (.int (2 : Int32)), .val (.ref b7), .val (.ref b16), .val (.int p3), .val (.int p4), .val (.int p3), .val (.int p4)] [(.int p4)]))
    refine Run.go (fun _ k => XS.iload X56.here hx rfl (hb hby at_158) rfl  k) ?_
    show Run p e below s 4 24 (Q_rm0 Z p1 p2 p3 p4 p5 p6 h0 n0) (T56.setTop (mkF m 160 #[.val (.int p1), .val (.int p2), .val (.int p3), .val (.int p4), .val (.int p5), .val (.int p6), .val (.int (2 : Int32)), .val (.int (2 : Int32)), .val (.ref b7), .val (.ref b16), .val (.int p3), .val (.int p4), .val (.int p3), .val (.int p4)] [(.int p4), (.int p4)]))
    refine Run.go (fun _ k => XS.icmpNo X56.here hx rfl (hb hby at_160) rfl (teq (rfl : p4 = p4)).2 k) ?_
    show Run p e below s 4 24 (Q_rm0 Z p1 p2 p3 p4 p5 p6 h0 n0) (T56.setTop (mkF m 163 #[.val (.int p1), .val (.int p2), .val (.int p3), .val (.int p4), .val (.int p5), .val (.int p6), .val (.int (2 : Int32)), .val (.int (2 : Int32)), .val (.ref b7), .val (.ref b16), .val (.int p3), .val (.int p4), .val (.int p3), .val (.int p4)] []))
    refine Run.go (fun _ k => XS.iconst X56.here hx rfl (hb hby at_163) k) ?_
    show Run p e below s 4 24 (Q_rm0 Z p1 p2 p3 p4 p5 p6 h0 n0) (T56.setTop (mkF m 164 #[.val (.int p1), .val (.int p2), .val (.int p3), .val (.int p4), .val (.int p5), .val (.int p6), .val (.int (2 : Int32)), .val (.int (2 : Int32)), .val (.ref b7), .val (.ref b16), .val (.int p3), .val (.int p4), .val (.int p3), .val (.int p4)] [(.int (1 : Int32))]))
    refine Run.go (fun _ k => XS.goto X56.here hx rfl (pc0 := 164) (pc' := 168) rfl (hb hby at_164) (by decide) (by decide) k) ?_
    show Run p e below s 4 24 (Q_rm0 Z p1 p2 p3 p4 p5 p6 h0 n0) (T56.setTop (mkF m 168 #[.val (.int p1), .val (.int p2), .val (.int p3), .val (.int p4), .val (.int p5), .val (.int p6), .val (.int (2 : Int32)), .val (.int (2 : Int32)), .val (.ref b7), .val (.ref b16), .val (.int p3), .val (.int p4), .val (.int p3), .val (.int p4)] [(.int (1 : Int32))]))
    exact Run.retN (y := 1) X56 hx (t := .boolean) Bd.returns (by simp) rfl Bd.notSynchronized (hb hby at_168) (by decide) (by decide) ⟨rfl, N56⟩
  · rw [hk42]
    show Run p e below s 4 24 (Q_rm0 Z p1 p2 p3 p4 p5 p6 h0 n0) (T35.setTop (mkF m 66 #[.val (.int p1), .val (.int p2), .val (.int p3), .val (.int p4), .val (.int p5), .val (.int p6), .val (.int (3 : Int32)), .val (.int (0 : Int32)), .val (.ref b7), .val (.ref b16), .unset, .unset, .unset, .unset] []))
    refine Run.go (fun _ k => XS.iload X35.here hx rfl (hb hby at_66) rfl  k) ?_
    show Run p e below s 4 24 (Q_rm0 Z p1 p2 p3 p4 p5 p6 h0 n0) (T35.setTop (mkF m 68 #[.val (.int p1), .val (.int p2), .val (.int p3), .val (.int p4), .val (.int p5), .val (.int p6), .val (.int (3 : Int32)), .val (.int (0 : Int32)), .val (.ref b7), .val (.ref b16), .unset, .unset, .unset, .unset] [(.int (3 : Int32))]))
    refine Run.go (fun _ k => XS.ifYes X35.here hx rfl (pc0 := 68) (pc' := 77) rfl (hb hby at_68) rfl ((if0 _ _).trans (feq (by decide)).2) (by decide) (by decide) k) ?_
    show Run p e below s 4 24 (Q_rm0 Z p1 p2 p3 p4 p5 p6 h0 n0) (T35.setTop (mkF m 77 #[.val (.int p1), .val (.int p2), .val (.int p3), .val (.int p4), .val (.int p5), .val (.int p6), .val (.int (3 : Int32)), .val (.int (0 : Int32)), .val (.ref b7), .val (.ref b16), .unset, .unset, .unset, .unset] []))
    refine Run.go (fun _ k => XS.iload X35.here hx rfl (hb hby at_77) rfl  k) ?_
    show Run p e below s 4 24 (Q_rm0 Z p1 p2 p3 p4 p5 p6 h0 n0) (T35.setTop (mkF m 79 #[.val (.int p1), .val (.int p2), .val (.int p3), .val (.int p4), .val (.int p5), .val (.int p6), .val (.int (3 : Int32)), .val (.int (0 : Int32)), .val (.ref b7), .val (.ref b16), .unset, .unset, .unset, .unset] [(.int (3 : Int32))]))
    refine Run.go (fun _ k => XS.iconst X35.here hx rfl (hb hby at_79) k) ?_
    show Run p e below s 4 24 (Q_rm0 Z p1 p2 p3 p4 p5 p6 h0 n0) (T35.setTop (mkF m 80 #[.val (.int p1), .val (.int p2), .val (.int p3), .val (.int p4), .val (.int p5), .val (.int p6), .val (.int (3 : Int32)), .val (.int (0 : Int32)), .val (.ref b7), .val (.ref b16), .unset, .unset, .unset, .unset] [(.int (1 : Int32)), (.int (3 : Int32))]))
    refine Run.go (fun _ k => XS.icmpYes X35.here hx rfl (pc0 := 80) (pc' := 89) rfl (hb hby at_80) rfl (feq (by decide)).2 (by decide) (by decide) k) ?_
    show Run p e below s 4 24 (Q_rm0 Z p1 p2 p3 p4 p5 p6 h0 n0) (T35.setTop (mkF m 89 #[.val (.int p1), .val (.int p2), .val (.int p3), .val (.int p4), .val (.int p5), .val (.int p6), .val (.int (3 : Int32)), .val (.int (0 : Int32)), .val (.ref b7), .val (.ref b16), .unset, .unset, .unset, .unset] []))
    refine Run.go (fun _ k => XS.iload X35.here hx rfl (hb hby at_89) rfl  k) ?_
    show Run p e below s 4 24 (Q_rm0 Z p1 p2 p3 p4 p5 p6 h0 n0) (T35.setTop (mkF m 91 #[.val (.int p1), .val (.int p2), .val (.int p3), .val (.int p4), .val (.int p5), .val (.int p6), .val (.int (3 : Int32)), .val (.int (0 : Int32)), .val (.ref b7), .val (.ref b16), .unset, .unset, .unset, .unset] [(.int (3 : Int32))]))
    refine Run.go (fun _ k => XS.iconst X35.here hx rfl (hb hby at_91) k) ?_
    show Run p e below s 4 24 (Q_rm0 Z p1 p2 p3 p4 p5 p6 h0 n0) (T35.setTop (mkF m 92 #[.val (.int p1), .val (.int p2), .val (.int p3), .val (.int p4), .val (.int p5), .val (.int p6), .val (.int (3 : Int32)), .val (.int (0 : Int32)), .val (.ref b7), .val (.ref b16), .unset, .unset, .unset, .unset] [(.int (2 : Int32)), (.int (3 : Int32))]))
    refine Run.go (fun _ k => XS.icmpYes X35.here hx rfl (pc0 := 92) (pc' := 101) rfl (hb hby at_92) rfl (feq (by decide)).2 (by decide) (by decide) k) ?_
    show Run p e below s 4 24 (Q_rm0 Z p1 p2 p3 p4 p5 p6 h0 n0) (T35.setTop (mkF m 101 #[.val (.int p1), .val (.int p2), .val (.int p3), .val (.int p4), .val (.int p5), .val (.int p6), .val (.int (3 : Int32)), .val (.int (0 : Int32)), .val (.ref b7), .val (.ref b16), .unset, .unset, .unset, .unset] []))
    refine Run.go (fun _ k => XS.iload X35.here hx rfl (hb hby at_101) rfl  k) ?_
    show Run p e below s 4 24 (Q_rm0 Z p1 p2 p3 p4 p5 p6 h0 n0) (T35.setTop (mkF m 103 #[.val (.int p1), .val (.int p2), .val (.int p3), .val (.int p4), .val (.int p5), .val (.int p6), .val (.int (3 : Int32)), .val (.int (0 : Int32)), .val (.ref b7), .val (.ref b16), .unset, .unset, .unset, .unset] [(.int p5)]))
    refine Run.go (fun _ k => XS.istore X35.here hx rfl (hb hby at_103) rfl (l' := #[.val (.int p1), .val (.int p2), .val (.int p3), .val (.int p4), .val (.int p5), .val (.int p6), .val (.int (3 : Int32)), .val (.int (0 : Int32)), .val (.ref b7), .val (.ref b16), .val (.int p5), .unset, .unset, .unset]) rfl k) ?_
    show Run p e below s 4 24 (Q_rm0 Z p1 p2 p3 p4 p5 p6 h0 n0) (T35.setTop (mkF m 105 #[.val (.int p1), .val (.int p2), .val (.int p3), .val (.int p4), .val (.int p5), .val (.int p6), .val (.int (3 : Int32)), .val (.int (0 : Int32)), .val (.ref b7), .val (.ref b16), .val (.int p5), .unset, .unset, .unset] []))
    refine Run.go (fun _ k => XS.iload X35.here hx rfl (hb hby at_105) rfl  k) ?_
    show Run p e below s 4 24 (Q_rm0 Z p1 p2 p3 p4 p5 p6 h0 n0) (T35.setTop (mkF m 107 #[.val (.int p1), .val (.int p2), .val (.int p3), .val (.int p4), .val (.int p5), .val (.int p6), .val (.int (3 : Int32)), .val (.int (0 : Int32)), .val (.ref b7), .val (.ref b16), .val (.int p5), .unset, .unset, .unset] [(.int (0 : Int32))]))
    refine Run.go (fun _ k => XS.ifNo X35.here hx rfl (hb hby at_107) rfl ((if0 _ _).trans (teq (rfl : (0 : Int32) = (0 : Int32))).2) k) ?_
    show Run p e below s 4 24 (Q_rm0 Z p1 p2 p3 p4 p5 p6 h0 n0) (T35.setTop (mkF m 110 #[.val (.int p1), .val (.int p2), .val (.int p3), .val (.int p4), .val (.int p5), .val (.int p6), .val (.int (3 : Int32)), .val (.int (0 : Int32)), .val (.ref b7), .val (.ref b16), .val (.int p5), .unset, .unset, .unset] []))
    refine Run.go (fun _ k => XS.iloadN X35.here hx rfl (hb hby at_110) rfl  k) ?_
    show Run p e below s 4 24 (Q_rm0 Z p1 p2 p3 p4 p5 p6 h0 n0) (T35.setTop (mkF m 111 #[.val (.int p1), .val (.int p2), .val (.int p3), .val (.int p4), .val (.int p5), .val (.int p6), .val (.int (3 : Int32)), .val (.int (0 : Int32)), .val (.ref b7), .val (.ref b16), .val (.int p5), .unset, .unset, .unset] [(.int p1)]))
    refine Run.go (fun _ k => XS.istore X35.here hx rfl (hb hby at_111) rfl (l' := #[.val (.int p1), .val (.int p2), .val (.int p3), .val (.int p4), .val (.int p5), .val (.int p6), .val (.int (3 : Int32)), .val (.int (0 : Int32)), .val (.ref b7), .val (.ref b16), .val (.int p5), .val (.int p1), .unset, .unset]) rfl k) ?_
    show Run p e below s 4 24 (Q_rm0 Z p1 p2 p3 p4 p5 p6 h0 n0) (T35.setTop (mkF m 113 #[.val (.int p1), .val (.int p2), .val (.int p3), .val (.int p4), .val (.int p5), .val (.int p6), .val (.int (3 : Int32)), .val (.int (0 : Int32)), .val (.ref b7), .val (.ref b16), .val (.int p5), .val (.int p1), .unset, .unset] []))
    refine Run.go (fun _ k => XS.goto X35.here hx rfl (pc0 := 113) (pc' := 131) rfl (hb hby at_113) (by decide) (by decide) k) ?_
    show Run p e below s 4 24 (Q_rm0 Z p1 p2 p3 p4 p5 p6 h0 n0) (T35.setTop (mkF m 131 #[.val (.int p1), .val (.int p2), .val (.int p3), .val (.int p4), .val (.int p5), .val (.int p6), .val (.int (3 : Int32)), .val (.int (0 : Int32)), .val (.ref b7), .val (.ref b16), .val (.int p5), .val (.int p1), .unset, .unset] []))
    refine Run.go (fun _ k => XS.aload X35.here hx rfl (hb hby at_131) rfl rfl k) ?_
    show Run p e below s 4 24 (Q_rm0 Z p1 p2 p3 p4 p5 p6 h0 n0) (T35.setTop (mkF m 133 #[.val (.int p1), .val (.int p2), .val (.int p3), .val (.int p4), .val (.int p5), .val (.int p6), .val (.int (3 : Int32)), .val (.int (0 : Int32)), .val (.ref b7), .val (.ref b16), .val (.int p5), .val (.int p1), .unset, .unset] [(.ref b16)]))
    refine Run.go (fun _ k => XS.iload X35.here hx rfl (hb hby at_133) rfl  k) ?_
    show Run p e below s 4 24 (Q_rm0 Z p1 p2 p3 p4 p5 p6 h0 n0) (T35.setTop (mkF m 135 #[.val (.int p1), .val (.int p2), .val (.int p3), .val (.int p4), .val (.int p5), .val (.int p6), .val (.int (3 : Int32)), .val (.int (0 : Int32)), .val (.ref b7), .val (.ref b16), .val (.int p5), .val (.int p1), .unset, .unset] [(.int (3 : Int32)), (.ref b16)]))
    obtain ⟨cq61, kq61, q61a, q61b, q61c⟩ := isOf hZ rfl fq35_2
    obtain ⟨_, _, ⟨T61, L61, k61, n61⟩, -, X61, ⟨Lc61, hQ61, l61, y61, z61⟩, st61⟩ := X35.virtualBack hx (y := (⟨"com/example/nestor/nestor/IntOverlay", "get", "(I)I"⟩ : MethodName)) (z := (⟨"com/example/nestor/nestor/IntOverlay", "get", "(I)I"⟩ : MethodName)) hown (mvT hZ (hw _ (List.mem_of_getElem? (i := 32) rfl))) (mvT hZ (hw _ (List.mem_of_getElem? (i := 33) rfl))) (notFace_of_selects (args := #[]) (mvT hZ (hw _ (List.mem_of_getElem? (i := 35) rfl)))) (mvT hZ (hw _ (List.mem_of_getElem? (i := 35) rfl))) (mvT hZ (hw _ (List.mem_of_getElem? (i := 34) rfl))) (by decide) (backOf (W := 0) (rm6_2_3 l Z a0 hw [] b16 b26 (fun i => if i = 1 then (.int p5) else (fun i => if i = 0 then (.int p3) else (fun _ => (.int (0 : Int32))) i) i) p5 T35.heap n0 Z35 fq35_4 fq35_1 fq35_5 rfl) hZ (hw _ (List.mem_of_getElem? (i := 36) rfl)) (hw _ (List.mem_of_getElem? (i := 3) rfl)) (by decide) (by decide)) q61a q61c (g := (mkF m 135 #[.val (.int p1), .val (.int p2), .val (.int p3), .val (.int p4), .val (.int p5), .val (.int p6), .val (.int (3 : Int32)), .val (.int (0 : Int32)), .val (.ref b7), .val (.ref b16), .val (.int p5), .val (.int p1), .unset, .unset] [(.int (3 : Int32)), (.ref b16)])) rfl (by rw [hml]; rfl) (Steps.refl _) (argsL := [(.int (3 : Int32))]) (rest := []) (lenOf pd_1 rfl) rfl (by show 2 * 0 + _ ≤ _; exact Nat.le_of_eq rfl) (hb hby at_135) (fun _ _ => ⟨rfl, rfl, (by decide : 4 + 0 ≤ _), (by decide : 24 + 0 ≤ _)⟩)
    dsimp only [Pt.U, Pt.locs, Pt.cells, Pt.slots] at X61 l61 y61 z61 st61 hQ61
    subst l61 y61 z61
    obtain ⟨rfl, N61q, e61q⟩ := hQ61
    have N61 := Fr.app N35 N61q
    refine Run.tr st61 ?_
    show Run p e below s 4 24 (Q_rm0 Z p1 p2 p3 p4 p5 p6 h0 n0) (T61.setTop (mkF m 138 #[.val (.int p1), .val (.int p2), .val (.int p3), .val (.int p4), .val (.int p5), .val (.int p6), .val (.int (3 : Int32)), .val (.int (0 : Int32)), .val (.ref b7), .val (.ref b16), .val (.int p5), .val (.int p1), .unset, .unset] [(.int p5)]))
    refine Run.go (fun _ k => XS.istore X61.here hx rfl (hb hby at_138) rfl (l' := #[.val (.int p1), .val (.int p2), .val (.int p3), .val (.int p4), .val (.int p5), .val (.int p6), .val (.int (3 : Int32)), .val (.int (0 : Int32)), .val (.ref b7), .val (.ref b16), .val (.int p5), .val (.int p1), .val (.int p5), .unset]) rfl k) ?_
    show Run p e below s 4 24 (Q_rm0 Z p1 p2 p3 p4 p5 p6 h0 n0) (T61.setTop (mkF m 140 #[.val (.int p1), .val (.int p2), .val (.int p3), .val (.int p4), .val (.int p5), .val (.int p6), .val (.int (3 : Int32)), .val (.int (0 : Int32)), .val (.ref b7), .val (.ref b16), .val (.int p5), .val (.int p1), .val (.int p5), .unset] []))
    refine Run.go (fun _ k => XS.aload X61.here hx rfl (hb hby at_140) rfl rfl k) ?_
    show Run p e below s 4 24 (Q_rm0 Z p1 p2 p3 p4 p5 p6 h0 n0) (T61.setTop (mkF m 142 #[.val (.int p1), .val (.int p2), .val (.int p3), .val (.int p4), .val (.int p5), .val (.int p6), .val (.int (3 : Int32)), .val (.int (0 : Int32)), .val (.ref b7), .val (.ref b16), .val (.int p5), .val (.int p1), .val (.int p5), .unset] [(.ref b7)]))
    refine Run.go (fun _ k => XS.iload X61.here hx rfl (hb hby at_142) rfl  k) ?_
    show Run p e below s 4 24 (Q_rm0 Z p1 p2 p3 p4 p5 p6 h0 n0) (T61.setTop (mkF m 144 #[.val (.int p1), .val (.int p2), .val (.int p3), .val (.int p4), .val (.int p5), .val (.int p6), .val (.int (3 : Int32)), .val (.int (0 : Int32)), .val (.ref b7), .val (.ref b16), .val (.int p5), .val (.int p1), .val (.int p5), .unset] [(.int (0 : Int32)), (.ref b7)]))
    have fx63 := (fq28_5.keep K35q (ninS ne_b13_b16 (ninS ne_b13_b26 nin0)))
    have fx64 := (fq28_4.keep K35q (ninS ne_b7_b16 (ninS ne_b7_b26 nin0)))
    have fx65 := (fq28_1.keep K35q (ninS ne_b7_b16 (ninS ne_b7_b26 nin0)))
    have fx66 := (fq28_2.keep K35q)
    obtain ⟨cq62, kq62, q62a, q62b, q62c⟩ := isOf hZ e61q fx66
    obtain ⟨_, _, ⟨T62, L62, k62, n62⟩, -, X62, ⟨Lc62, hQ62, l62, y62, z62⟩, st62⟩ := X61.virtualBack hx (y := (⟨"com/example/nestor/nestor/IntOverlay", "get", "(I)I"⟩ : MethodName)) (z := (⟨"com/example/nestor/nestor/IntOverlay", "get", "(I)I"⟩ : MethodName)) hown (mvT hZ (hw _ (List.mem_of_getElem? (i := 32) rfl))) (mvT hZ (hw _ (List.mem_of_getElem? (i := 33) rfl))) (notFace_of_selects (args := #[]) (mvT hZ (hw _ (List.mem_of_getElem? (i := 35) rfl)))) (mvT hZ (hw _ (List.mem_of_getElem? (i := 35) rfl))) (mvT hZ (hw _ (List.mem_of_getElem? (i := 34) rfl))) (by decide) (backOf (W := 0) (rm6_0_0 l Z a0 hw [] b7 b13 (fun i => if i = 2 then (.int p4) else (fun i => if i = 1 then (.int p2) else (fun i => if i = 0 then (.int p1) else (fun _ => (.int (0 : Int32))) i) i) i) p1 T35.heap n0 Z35 fx64 fx65 fx63 rfl) hZ (hw _ (List.mem_of_getElem? (i := 36) rfl)) (hw _ (List.mem_of_getElem? (i := 3) rfl)) (by decide) (by decide)) q62a q62c (g := (mkF m 144 #[.val (.int p1), .val (.int p2), .val (.int p3), .val (.int p4), .val (.int p5), .val (.int p6), .val (.int (3 : Int32)), .val (.int (0 : Int32)), .val (.ref b7), .val (.ref b16), .val (.int p5), .val (.int p1), .val (.int p5), .unset] [(.int (0 : Int32)), (.ref b7)])) rfl (by rw [hml]; rfl) (Steps.refl _) (argsL := [(.int (0 : Int32))]) (rest := []) (lenOf pd_1 rfl) rfl (by show 2 * 0 + _ ≤ _; exact Nat.le_of_eq rfl) (hb hby at_144) (fun _ _ => ⟨rfl, e61q, (by decide : 4 + 0 ≤ _), (by decide : 24 + 0 ≤ _)⟩)
    dsimp only [Pt.U, Pt.locs, Pt.cells, Pt.slots] at X62 l62 y62 z62 st62 hQ62
    subst l62 y62 z62
    obtain ⟨rfl, N62q, e62q⟩ := hQ62
    have N62 := Fr.app N61 N62q
    refine Run.tr st62 ?_
    show Run p e below s 4 24 (Q_rm0 Z p1 p2 p3 p4 p5 p6 h0 n0) (T62.setTop (mkF m 147 #[.val (.int p1), .val (.int p2), .val (.int p3), .val (.int p4), .val (.int p5), .val (.int p6), .val (.int (3 : Int32)), .val (.int (0 : Int32)), .val (.ref b7), .val (.ref b16), .val (.int p5), .val (.int p1), .val (.int p5), .unset] [(.int p1)]))
    refine Run.go (fun _ k => XS.istore X62.here hx rfl (hb hby at_147) rfl (l' := #[.val (.int p1), .val (.int p2), .val (.int p3), .val (.int p4), .val (.int p5), .val (.int p6), .val (.int (3 : Int32)), .val (.int (0 : Int32)), .val (.ref b7), .val (.ref b16), .val (.int p5), .val (.int p1), .val (.int p5), .val (.int p1)]) rfl k) ?_
    show Run p e below s 4 24 (Q_rm0 Z p1 p2 p3 p4 p5 p6 h0 n0) (T62.setTop (mkF m 149 #[.val (.int p1), .val (.int p2), .val (.int p3), .val (.int p4), .val (.int p5), .val (.int p6), .val (.int (3 : Int32)), .val (.int (0 : Int32)), .val (.ref b7), .val (.ref b16), .val (.int p5), .val (.int p1), .val (.int p5), .val (.int p1)] []))
    refine Run.go (fun _ k => XS.iload X62.here hx rfl (hb hby at_149) rfl  k) ?_
    show Run p e below s 4 24 (Q_rm0 Z p1 p2 p3 p4 p5 p6 h0 n0) (T62.setTop (mkF m 151 #[.val (.int p1), .val (.int p2), .val (.int p3), .val (.int p4), .val (.int p5), .val (.int p6), .val (.int (3 : Int32)), .val (.int (0 : Int32)), .val (.ref b7), .val (.ref b16), .val (.int p5), .val (.int p1), .val (.int p5), .val (.int p1)] [(.int p5)]))
    refine Run.go (fun _ k => XS.iload X62.here hx rfl (hb hby at_151) rfl  k) ?_
    show Run p e below s 4 24 (Q_rm0 Z p1 p2 p3 p4 p5 p6 h0 n0) (T62.setTop (mkF m 153 #[.val (.int p1), .val (.int p2), .val (.int p3), .val (.int p4), .val (.int p5), .val (.int p6), .val (.int (3 : Int32)), .val (.int (0 : Int32)), .val (.ref b7), .val (.ref b16), .val (.int p5), .val (.int p1), .val (.int p5), .val (.int p1)] [(.int p5), (.int p5)]))
    refine Run.go (fun _ k => XS.icmpNo X62.here hx rfl (hb hby at_153) rfl (teq (rfl : p5 = p5)).2 k) ?_
    show Run p e below s 4 24 (Q_rm0 Z p1 p2 p3 p4 p5 p6 h0 n0) (T62.setTop (mkF m 156 #[.val (.int p1), .val (.int p2), .val (.int p3), .val (.int p4), .val (.int p5), .val (.int p6), .val (.int (3 : Int32)), .val (.int (0 : Int32)), .val (.ref b7), .val (.ref b16), .val (.int p5), .val (.int p1), .val (.int p5), .val (.int p1)] []))
    refine Run.go (fun _ k => XS.iload X62.here hx rfl (hb hby at_156) rfl  k) ?_
    show Run p e below s 4 24 (Q_rm0 Z p1 p2 p3 p4 p5 p6 h0 n0) (T62.setTop (mkF m 158 #[.val (.int p1), .val (.int p2), .val (.int p3), .val (.int p4), .val (.int p5), .val (.int p6), .val (.int (3 : Int32)), .val (.int (0 : Int32)), .val (.ref b7), .val (.ref b16), .val (.int p5), .val (.int p1), .val (.int p5), .val (.int p1)] [(.int p1)]))
    refine Run.go (fun _ k => XS.iload X62.here hx rfl (hb hby at_158) rfl  k) ?_
    show Run p e below s 4 24 (Q_rm0 Z p1 p2 p3 p4 p5 p6 h0 n0) (T62.setTop (mkF m 160 #[.val (.int p1), .val (.int p2), .val (.int p3), .val (.int p4), .val (.int p5), .val (.int p6), .val (.int (3 : Int32)), .val (.int (0 : Int32)), .val (.ref b7), .val (.ref b16), .val (.int p5), .val (.int p1), .val (.int p5), .val (.int p1)] [(.int p1), (.int p1)]))
    refine Run.go (fun _ k => XS.icmpNo X62.here hx rfl (hb hby at_160) rfl (teq (rfl : p1 = p1)).2 k) ?_
    show Run p e below s 4 24 (Q_rm0 Z p1 p2 p3 p4 p5 p6 h0 n0) (T62.setTop (mkF m 163 #[.val (.int p1), .val (.int p2), .val (.int p3), .val (.int p4), .val (.int p5), .val (.int p6), .val (.int (3 : Int32)), .val (.int (0 : Int32)), .val (.ref b7), .val (.ref b16), .val (.int p5), .val (.int p1), .val (.int p5), .val (.int p1)] []))
    refine Run.go (fun _ k => XS.iconst X62.here hx rfl (hb hby at_163) k) ?_
    show Run p e below s 4 24 (Q_rm0 Z p1 p2 p3 p4 p5 p6 h0 n0) (T62.setTop (mkF m 164 #[.val (.int p1), .val (.int p2), .val (.int p3), .val (.int p4), .val (.int p5), .val (.int p6), .val (.int (3 : Int32)), .val (.int (0 : Int32)), .val (.ref b7), .val (.ref b16), .val (.int p5), .val (.int p1), .val (.int p5), .val (.int p1)] [(.int (1 : Int32))]))
    refine Run.go (fun _ k => XS.goto X62.here hx rfl (pc0 := 164) (pc' := 168) rfl (hb hby at_164) (by decide) (by decide) k) ?_
    show Run p e below s 4 24 (Q_rm0 Z p1 p2 p3 p4 p5 p6 h0 n0) (T62.setTop (mkF m 168 #[.val (.int p1), .val (.int p2), .val (.int p3), .val (.int p4), .val (.int p5), .val (.int p6), .val (.int (3 : Int32)), .val (.int (0 : Int32)), .val (.ref b7), .val (.ref b16), .val (.int p5), .val (.int p1), .val (.int p5), .val (.int p1)] [(.int (1 : Int32))]))
    exact Run.retN (y := 1) X62 hx (t := .boolean) Bd.returns (by simp) rfl Bd.notSynchronized (hb hby at_168) (by decide) (by decide) ⟨rfl, N62⟩
set_option maxRecDepth 65536 in
set_option maxHeartbeats 40000000 in
theorem comes_1 {Post : Tables → Env → Array Value → State → Outcome → State → Prop} (hpost : ∀ tb e args s v u, (limb_1_1.after args s (.returned v) u = true ∧ limb_1_2.after args s (.returned v) u = true ∧ True) → FrameEnd s (.returned v) u (Jvm.fieldLocs frame_1_writes args s ++ Jvm.arrayLocs frame_1_arrays args s ++ Jvm.staticLocs frame_1_statics s) 16 128 → Post tb e args s (.returned v) u) :
    ArmFor flags0 classFile x code maxLocals ret World_1 tables_1 room_1 Calls_1 rest_1 Pre_1 Post := by
  intro l hfl _ _ p e ha hc hk s m args below hf hA hF happ hP
  obtain ⟨hcalls, hrest, hpre⟩ := hP
  obtain ⟨-, -, -, hnamed, -, -, -, hat⟩ := (Spec.applies_iff hf).mp happ
  obtain ⟨hg, hn⟩ := and_e (Cond.before_iff.mp (show (Jvm.Cond.and given_1 narrow_1).before args s = true from hpre))
  obtain ⟨g1, g2⟩ := and_e hg
  obtain ⟨g3, g4⟩ := and_e g2
  obtain ⟨g5, g6⟩ := and_e g4
  obtain ⟨g7, g8⟩ := and_e g6
  obtain ⟨g9, g10⟩ := and_e g8
  obtain ⟨g11, g12⟩ := and_e g10
  obtain ⟨w0, w1, w2, w3, w4, w5, rfl⟩ : ∃ w0 w1 w2 w3 w4 w5 : Value, args = #[w0, w1, w2, w3, w4, w5] := by
    have hs : args.size = 6 := by simpa [Cond.value, given_1] using g1
    obtain ⟨L⟩ := args
    match L, hs with
    | [w0, w1, w2, w3, w4, w5], _ => exact ⟨w0, w1, w2, w3, w4, w5, rfl⟩
  have hw := fun d (hd : d ∈ tables_1) => atoms_spec (ws := Jvm.Cond.code x code maxLocals ret :: tables_1) hat d (List.mem_cons_of_mem _ hd)
  have hfit : Fit s := fun {y c} hc i hi => by
    obtain ⟨ha, rfl⟩ := Array.getElem?_eq_some_iff.mp hc
    have q := List.all_eq_true.mp ((Array.all_eq_true_iff_forall_mem.mp hF) _ (Array.getElem_mem ha)) i (List.mem_range.mpr hi)
    simpa [Array.getElem?_eq_getElem hi] using q
  obtain ⟨i0, ei0⟩ := is_v g3
  obtain rfl : w0 = (.int i0) := Option.some.inj ei0
  obtain ⟨i1, ei1⟩ := is_v g5
  obtain rfl : w1 = (.int i1) := Option.some.inj ei1
  obtain ⟨i2, ei2⟩ := is_v g7
  obtain rfl : w2 = (.int i2) := Option.some.inj ei2
  obtain ⟨i3, ei3⟩ := is_v g9
  obtain rfl : w3 = (.int i3) := Option.some.inj ei3
  obtain ⟨i4, ei4⟩ := is_v g11
  obtain rfl : w4 = (.int i4) := Option.some.inj ei4
  obtain ⟨i5, ei5⟩ := is_v g12
  obtain rfl : w5 = (.int i5) := Option.some.inj ei5
  obtain ⟨n, o, h1, h2, h3, _, L, rfl, ⟨rfl, N⟩, hq⟩ := rm0 l s _ hw tables_1 i0 i1 i2 i3 i4 i5 s.heap s.heap.size (Nat.le_refl _)  p e ha hc hk s m _ below hf ((Spec.applies_iff_loose hf).mp happ).1 ⟨rfl, State.Warmed39.refl s, rfl⟩ trivial
  refine ⟨n, _, h1, h2, h3, hpost _ _ _ _ _ _ ⟨Cond.after_iff.mpr rfl, Cond.after_iff.mpr (eq_i res_at (Term.int_eval (1)) rfl), trivial⟩ ⟨hq.1, hq.2.1, (hq.2.2.sift fun y hy => Or.inr (N y hy)).mono (by decide) (by decide)⟩⟩
theorem main_1_1 : Claimed_1_1 := comes_1 fun _ _ _ _ _ _ h hF => ⟨h.1, hF⟩
theorem main_1_2 : Claimed_1_2 := comes_1 fun _ _ _ _ _ _ h hF => ⟨h.2.1, hF⟩
end Jvm.Pilot.@@N@@
namespace Jvm.Pilot.@@N@@
open Jvm Jvm.ClassFile Sem Op Lib Jvm.Free Jvm.Stand Jvm.Pilot.@@N@@.Jvm.D
/-! MADE BY PROGRAM (witnessworld.py) out of the Statement's table words and the real class files: 9 classes; the members and pool entries that the words name. The judged class is class 1, her method 1. -/
namespace start1
open Jvm.ClassFile
def u (s : String) : CpInfo := .utf8 (stringToUtf16 s)
/-- a pool by its gaps: so many unusable entries, then the entry; so many at the end -/
def gap : Nat → List CpInfo → List CpInfo
  | 0, r => r
  | n + 1, r => .unusable :: gap n r
def poolList (es : List (Nat × CpInfo)) (last : Nat) : List CpInfo := es.foldr (fun e r => gap e.1 (e.2 :: r)) (gap last [])
def pool (es : List (Nat × CpInfo)) (last : Nat) : Array CpInfo := ⟨poolList es last⟩
def fileOf (pool : Array CpInfo) (this : Nat) (attrs : Array Attribute := #[]) (ms : Array MethodInfo := #[]) (fl : Nat := 33) (sup : Nat := 0) (ifs : Array Nat := #[]) (fds : Array FieldInfo := #[]) : ClassFile where
  minorVersion := 0
  majorVersion := 65
  constantPool := pool
  accessFlags := fl
  thisClass := this
  superClass := sup
  interfaces := ifs
  fields := fds
  methods := ms
  attributes := attrs
def plain (name : String) (sup : Option ClassId) : Class where
  name := name
  kind := .ordinary
  loader := none
  accessFlags := 33
  super := sup
  interfaces := #[]
  cf := none
  fields := #[]
  methods := #[]
  instanceTypes := #[]
  staticTypes := #[]
  resolved := #[]
  callSites := []
  init := .initialized
  statics := none
  mirror := none

def pool0 : Array CpInfo := pool [(5, u "<init>"), (0, u "()V"), (1, .class_ 10), (1, u "java/lang/Object")] 113

def k0c0 : Code := { maxStack := 0, maxLocals := 1, code := object_method_1_code, exceptionTable := #[], attributes := #[] }
def k0m0 : Method := { name := "<init>", desc := "()V", sig := { parameters := [], returnType := none }, accessFlags := 1, code := some k0c0 }
/-- java/lang/Object -/
def k0 : Class := { plain "java/lang/Object" none with
  accessFlags := 33
  interfaces := #[]
  cf := some (fileOf pool0 8 #[] #[{ accessFlags := 1, nameIndex := 5, descriptorIndex := 6, attributes := #[] }] 33 0 #[] #[])
  fields := #[]
  methods := #[k0m0]
  instanceTypes := #[]
  staticTypes := #[]
  resolved := Array.replicate 124 none
  statics := none }

def pool1 : Array CpInfo := pool [(2, .class_ 4), (0, .nameAndType 5 6), (0, u "java/lang/Object"), (0, u "<init>"), (0, u "()V"), (0, .integer 2147483647), (0, .class_ 9), (0, u "com/example/nestor/nestor/IntOverlay"), (0, .methodref 8 3), (0, .methodref 8 12), (0, .nameAndType 13 14), (0, u "add"), (0, u "(I)V"), (0, .methodref 8 16), (0, .nameAndType 5 17), (0, u "(Lcom/example/nestor/nestor/IntOverlay;)V"), (0, .methodref 8 19), (0, .nameAndType 20 21), (0, u "get"), (0, u "(I)I"), (0, .class_ 23), (0, u "com/example/nestor/nestor/IntOverlayGetPinLaw"), (2, u "law"), (0, u "(IIIIII)Z")] 3

def k1m0 : Method := { name := "<init>", desc := "()V", sig := { parameters := [], returnType := none }, accessFlags := 1, code := none }
def k1c1 : Code := { maxStack := 3, maxLocals := 14, code := code, exceptionTable := #[], attributes := #[] }
def k1m1 : Method := { name := "law", desc := "(IIIIII)Z", sig := { parameters := [.int, .int, .int, .int, .int, .int], returnType := some .boolean }, accessFlags := 9, code := some k1c1 }
/-- com/example/nestor/nestor/IntOverlayGetPinLaw -/
def k1 : Class := { plain "com/example/nestor/nestor/IntOverlayGetPinLaw" (some 0) with
  accessFlags := 49
  interfaces := #[]
  cf := some (fileOf pool1 22 #[] #[{ accessFlags := 1, nameIndex := 5, descriptorIndex := 6, attributes := #[] }, { accessFlags := 9, nameIndex := 26, descriptorIndex := 27, attributes := #[] }] 49 2 #[] #[])
  fields := #[]
  methods := #[k1m0, k1m1]
  instanceTypes := #[]
  staticTypes := #[]
  resolved := Array.replicate 31 none
  statics := none }

def pool2 : Array CpInfo := pool [(1, .methodref 2 3), (0, .class_ 4), (0, .nameAndType 5 6), (0, u "java/lang/Object"), (0, u "<init>"), (0, u "()V"), (0, .fieldref 8 9), (0, .class_ 10), (0, .nameAndType 11 12), (0, u "com/example/nestor/nestor/IntOverlay"), (0, u "own"), (0, u "[I"), (0, .fieldref 8 14), (0, .nameAndType 15 16), (0, u "base"), (0, u "Lcom/example/nestor/nestor/IntOverlay;"), (0, .fieldref 8 18), (0, .nameAndType 19 20), (0, u "baseSize"), (0, u "I"), (0, .methodref 8 22), (0, .nameAndType 23 24), (0, u "size"), (0, u "()I"), (0, .fieldref 8 26), (0, .nameAndType 27 20), (0, u "ownSize"), (6, .methodref 8 35), (0, .nameAndType 36 37), (0, u "get"), (0, u "(I)I"), (9, u "(Lcom/example/nestor/nestor/IntOverlay;)V"), (0, u "add"), (0, u "(I)V")] 6

def k2c0 : Code := { maxStack := 2, maxLocals := 1, code := prog_5_method_1_code, exceptionTable := #[], attributes := #[] }
def k2m0 : Method := { name := "<init>", desc := "()V", sig := { parameters := [], returnType := none }, accessFlags := 1, code := some k2c0 }
def k2c1 : Code := { maxStack := 2, maxLocals := 2, code := prog_5_method_2_code, exceptionTable := #[], attributes := #[] }
def k2m1 : Method := { name := "<init>", desc := "(Lcom/example/nestor/nestor/IntOverlay;)V", sig := { parameters := [(.object "com/example/nestor/nestor/IntOverlay")], returnType := none }, accessFlags := 1, code := some k2c1 }
def k2c2 : Code := { maxStack := 5, maxLocals := 2, code := prog_5_method_3_code, exceptionTable := #[], attributes := #[] }
def k2m2 : Method := { name := "add", desc := "(I)V", sig := { parameters := [.int], returnType := none }, accessFlags := 1, code := some k2c2 }
def k2c3 : Code := { maxStack := 3, maxLocals := 2, code := prog_5_method_4_code, exceptionTable := #[], attributes := #[] }
def k2m3 : Method := { name := "get", desc := "(I)I", sig := { parameters := [.int], returnType := some .int }, accessFlags := 1, code := some k2c3 }
def k2c4 : Code := { maxStack := 2, maxLocals := 1, code := prog_5_method_7_code, exceptionTable := #[], attributes := #[] }
def k2m4 : Method := { name := "size", desc := "()I", sig := { parameters := [], returnType := some .int }, accessFlags := 1, code := some k2c4 }
/-- com/example/nestor/nestor/IntOverlay -/
def k2 : Class := { plain "com/example/nestor/nestor/IntOverlay" (some 0) with
  accessFlags := 49
  interfaces := #[]
  cf := some (fileOf pool2 8 #[] #[{ accessFlags := 1, nameIndex := 5, descriptorIndex := 6, attributes := #[] }, { accessFlags := 1, nameIndex := 5, descriptorIndex := 47, attributes := #[] }, { accessFlags := 1, nameIndex := 48, descriptorIndex := 49, attributes := #[] }, { accessFlags := 1, nameIndex := 36, descriptorIndex := 37, attributes := #[] }, { accessFlags := 1, nameIndex := 23, descriptorIndex := 24, attributes := #[] }] 49 2 #[] #[{ accessFlags := 18, nameIndex := 15, descriptorIndex := 16, attributes := #[] }, { accessFlags := 18, nameIndex := 19, descriptorIndex := 20, attributes := #[] }, { accessFlags := 2, nameIndex := 11, descriptorIndex := 12, attributes := #[] }, { accessFlags := 2, nameIndex := 27, descriptorIndex := 20, attributes := #[] }])
  fields := #[{ name := "base", type := (.object "com/example/nestor/nestor/IntOverlay"), accessFlags := 18, slot := 0, constantValue := 0 }, { name := "baseSize", type := .int, accessFlags := 18, slot := 1, constantValue := 0 }, { name := "own", type := (.array .int), accessFlags := 2, slot := 2, constantValue := 0 }, { name := "ownSize", type := .int, accessFlags := 2, slot := 3, constantValue := 0 }]
  methods := #[k2m0, k2m1, k2m2, k2m3, k2m4]
  instanceTypes := #[(.object "com/example/nestor/nestor/IntOverlay"), .int, (.array .int), .int]
  staticTypes := #[]
  resolved := Array.replicate 56 none
  statics := none }

def pool3 : Array CpInfo := pool [(1, u "java/lang/Cloneable"), (0, .class_ 1), (0, u "java/lang/Object"), (0, .class_ 3)] 3

/-- java/lang/Cloneable -/
def k3 : Class := { plain "java/lang/Cloneable" (some 0) with
  accessFlags := 1537
  interfaces := #[]
  cf := some (fileOf pool3 2 #[] #[] 1537 4 #[] #[])
  fields := #[]
  methods := #[]
  instanceTypes := #[]
  staticTypes := #[]
  resolved := Array.replicate 8 none
  statics := none }

def pool4 : Array CpInfo := pool [(1, u "java/io/Serializable"), (0, .class_ 1), (0, u "java/lang/Object"), (0, .class_ 3)] 3

/-- java/io/Serializable -/
def k4 : Class := { plain "java/io/Serializable" (some 0) with
  accessFlags := 1537
  interfaces := #[]
  cf := some (fileOf pool4 2 #[] #[] 1537 4 #[] #[])
  fields := #[]
  methods := #[]
  instanceTypes := #[]
  staticTypes := #[]
  resolved := Array.replicate 8 none
  statics := none }

/-- the primitive byte -/
def k5 : Class := { plain "byte" none with kind := .primitive 'B', accessFlags := 0x411 }
/-- [B -/
def k6 : Class := { plain "[B" (some 0) with kind := .array 5 .byte, interfaces := #[3, 4], accessFlags := 1041 }

/-- the primitive int -/
def k7 : Class := { plain "int" none with kind := .primitive 'I', accessFlags := 0x411 }
/-- [I -/
def k8 : Class := { plain "[I" (some 0) with kind := .array 7 .int, interfaces := #[3, 4], accessFlags := 1041 }

def heap : Heap := #[]
def classes : Array Class := #[k0, k1, k2, k3, k4, k5, k6, k7, k8]
def interned : List (Array UInt16 × Addr) := []
def slotsUsed : Nat := 0
def theMethod : MethodId := ⟨1, 1⟩
def args0 : Array Value := #[.int 3, .int 2, .int 3, .int 2, .int 3, .int 2]
def aboutOver (below : List Frame) : State where
  vm := { classes := classes, interned := interned.toArray }
  heap := heap
  slotsUsed := slotsUsed
  threads := #[{ frames := .invoking theMethod args0 :: below }]
def below0 : List Frame := [.native { method := ⟨0, 0⟩, args := #[] }]
def about1 : State := aboutOver below0
def p0 : Program := .bare "" "" ""
def e0 : Env := launch0.env 0 0 0
theorem w_frames : about1.frames = Frame.invoking theMethod args0 :: below0 := rfl
set_option maxRecDepth 65536 in
theorem w_args : argsFit about1.vm theMethod args0 = true := by decide +kernel
set_option maxRecDepth 65536 in
theorem w_heap : heapFits about1 = true := by decide +kernel
set_option maxRecDepth 65536 in
theorem w_runnable : about1.curStatus? = some .runnable := by decide +kernel
set_option maxRecDepth 65536 in
theorem w_alone : about1.alone = true := by decide +kernel
set_option maxRecDepth 65536 in
theorem w_named : about1.methodNamed? x = some theMethod := by decide +kernel
set_option maxRecDepth 65536 in
theorem w_hears : about1.hears theMethod below0 = true := by decide +kernel
set_option maxRecDepth 65536 in
theorem w_ripe : about1.ripe theMethod args0 below0 = true := by decide +kernel
theorem w_running : about1.status = .running := rfl
set_option maxRecDepth 65536 in
theorem w_room : about1.hasRoom e0.platform room_1 = true :=
  launch0.hasRoom_least _ room_1 (by decide +kernel) (by decide +kernel) (by decide +kernel) (by decide +kernel) (by decide +kernel) (by decide +kernel)
theorem allAtoms_all (ts : List Jvm.Cond) (a : Array Jvm.Value) (st : Jvm.State) : (allAtoms ts).before a st = ts.all (fun c => c.before a st) := by
  induction ts with
  | nil => rfl
  | cons c t ih =>
    show (Jvm.Cond.and c (allAtoms t)).before a st = _
    rw [Jvm.Cond.before_and, ih, List.all_cons]
def words1 : List Jvm.Cond := Jvm.Cond.code x code maxLocals ret :: tables_1
/-- a 'code' word, met by the world's own term for the bytes: nothing is compared byte by byte -/
theorem code_word {y : MethodName} {bytes : ByteArray} {mx : Nat} {rt : Option FieldType} {a : Array Value} {s : State} {m : MethodId} {meth : Method} {c : Code} (h1 : s.methodNamed? y = some m) (h2 : s.vm.method? m = some meth) (h3 : meth.code = some c) (h4 : c.code = bytes)
    (h5 : (c.maxLocals == mx && c.exceptionTable.isEmpty && decide (c.maxStack ≤ mostOperands) && decide (meth.sig.returnType = rt) && !meth.locks && decide (parseMethodDescriptor y.desc = some meth.sig)) = true) : (Jvm.Cond.code y bytes mx rt).before a s = true := by
  simp only [Bool.and_eq_true, beq_iff_eq, Bool.not_eq_true', decide_eq_true_eq] at h5
  obtain ⟨⟨⟨⟨⟨g1, g2⟩, g3⟩, g4⟩, g5⟩, g6⟩ := h5
  simp [Cond.before, Cond.holds, Cond.value, h1, h2, h3, h4, g1, g2, g3, g4, g5, g6]
def isCode : Jvm.Cond → Bool
  | .code _ _ _ _ => true
  | _ => false
theorem all_split {L : List Jvm.Cond} {P : Jvm.Cond → Bool} (h1 : L.all (fun c => isCode c || P c) = true) (h2 : ∀ c ∈ L.filter isCode, P c = true) : L.all P = true := by
  refine List.all_eq_true.mpr fun c hc => ?_
  have h := List.all_eq_true.mp h1 c hc
  rcases Bool.eq_false_or_eq_true (isCode c) with hi | hi
  · exact h2 c (List.mem_filter.mpr ⟨hc, hi⟩)
  · simpa [hi] using h
set_option maxRecDepth 65536 in
theorem w_c0 : (Jvm.Cond.code x code maxLocals ret).before args0 about1 = true := code_word (m := ⟨1, 1⟩) (meth := k1m1) (c := k1c1) (by decide +kernel) rfl rfl rfl (by decide +kernel)
set_option maxRecDepth 65536 in
theorem w_c1 : (Jvm.Cond.code ({ cls := "com/example/nestor/nestor/IntOverlay", name := "<init>", desc := "()V" } : Jvm.MethodName) prog_5_method_1_code (1 : Nat) (Option.none : Option Jvm.ClassFile.FieldType)).before args0 about1 = true := code_word (m := ⟨2, 0⟩) (meth := k2m0) (c := k2c0) (by decide +kernel) rfl rfl rfl (by decide +kernel)
set_option maxRecDepth 65536 in
theorem w_c2 : (Jvm.Cond.code ({ cls := "java/lang/Object", name := "<init>", desc := "()V" } : Jvm.MethodName) object_method_1_code (1 : Nat) (Option.none : Option Jvm.ClassFile.FieldType)).before args0 about1 = true := code_word (m := ⟨0, 0⟩) (meth := k0m0) (c := k0c0) (by decide +kernel) rfl rfl rfl (by decide +kernel)
set_option maxRecDepth 65536 in
theorem w_c3 : (Jvm.Cond.code ({ cls := "com/example/nestor/nestor/IntOverlay", name := "add", desc := "(I)V" } : Jvm.MethodName) prog_5_method_3_code (2 : Nat) (Option.none : Option Jvm.ClassFile.FieldType)).before args0 about1 = true := code_word (m := ⟨2, 2⟩) (meth := k2m2) (c := k2c2) (by decide +kernel) rfl rfl rfl (by decide +kernel)
set_option maxRecDepth 65536 in
theorem w_c4 : (Jvm.Cond.code ({ cls := "com/example/nestor/nestor/IntOverlay", name := "<init>", desc := "(Lcom/example/nestor/nestor/IntOverlay;)V" } : Jvm.MethodName) prog_5_method_2_code (2 : Nat) (Option.none : Option Jvm.ClassFile.FieldType)).before args0 about1 = true := code_word (m := ⟨2, 1⟩) (meth := k2m1) (c := k2c1) (by decide +kernel) rfl rfl rfl (by decide +kernel)
set_option maxRecDepth 65536 in
theorem w_c5 : (Jvm.Cond.code ({ cls := "com/example/nestor/nestor/IntOverlay", name := "size", desc := "()I" } : Jvm.MethodName) prog_5_method_7_code (1 : Nat) (Option.some Jvm.ClassFile.FieldType.int)).before args0 about1 = true := code_word (m := ⟨2, 4⟩) (meth := k2m4) (c := k2c4) (by decide +kernel) rfl rfl rfl (by decide +kernel)
set_option maxRecDepth 65536 in
theorem w_c6 : (Jvm.Cond.code ({ cls := "com/example/nestor/nestor/IntOverlay", name := "get", desc := "(I)I" } : Jvm.MethodName) prog_5_method_4_code (2 : Nat) (Option.some Jvm.ClassFile.FieldType.int)).before args0 about1 = true := code_word (m := ⟨2, 3⟩) (meth := k2m3) (c := k2c3) (by decide +kernel) rfl rfl rfl (by decide +kernel)
def codes1 : List Jvm.Cond := [Jvm.Cond.code x code maxLocals ret, Jvm.Cond.code ({ cls := "com/example/nestor/nestor/IntOverlay", name := "<init>", desc := "()V" } : Jvm.MethodName) prog_5_method_1_code (1 : Nat) (Option.none : Option Jvm.ClassFile.FieldType), Jvm.Cond.code ({ cls := "java/lang/Object", name := "<init>", desc := "()V" } : Jvm.MethodName) object_method_1_code (1 : Nat) (Option.none : Option Jvm.ClassFile.FieldType), Jvm.Cond.code ({ cls := "com/example/nestor/nestor/IntOverlay", name := "add", desc := "(I)V" } : Jvm.MethodName) prog_5_method_3_code (2 : Nat) (Option.none : Option Jvm.ClassFile.FieldType), Jvm.Cond.code ({ cls := "com/example/nestor/nestor/IntOverlay", name := "<init>", desc := "(Lcom/example/nestor/nestor/IntOverlay;)V" } : Jvm.MethodName) prog_5_method_2_code (2 : Nat) (Option.none : Option Jvm.ClassFile.FieldType), Jvm.Cond.code ({ cls := "com/example/nestor/nestor/IntOverlay", name := "size", desc := "()I" } : Jvm.MethodName) prog_5_method_7_code (1 : Nat) (Option.some Jvm.ClassFile.FieldType.int), Jvm.Cond.code ({ cls := "com/example/nestor/nestor/IntOverlay", name := "get", desc := "(I)I" } : Jvm.MethodName) prog_5_method_4_code (2 : Nat) (Option.some Jvm.ClassFile.FieldType.int)]
set_option maxRecDepth 65536 in
theorem codes_eq : words1.filter isCode = codes1 := rfl
theorem w_codes : ∀ c ∈ words1.filter isCode, c.before args0 about1 = true := by
  rw [codes_eq]
  intro c hc
  simp only [codes1, List.mem_cons, List.not_mem_nil, or_false] at hc
  rcases hc with rfl | rfl | rfl | rfl | rfl | rfl | rfl
  · exact w_c0
  · exact w_c1
  · exact w_c2
  · exact w_c3
  · exact w_c4
  · exact w_c5
  · exact w_c6
set_option maxRecDepth 65536 in
theorem w_t1 : (words1.take 24).all (fun c => isCode c || c.before args0 about1) = true := by decide +kernel
set_option maxRecDepth 65536 in
theorem w_t2 : (words1.drop 24).all (fun c => isCode c || c.before args0 about1) = true := by decide +kernel
theorem w_tables : (allAtoms (Jvm.Cond.code x code maxLocals ret :: tables_1)).before args0 about1 = true := by
  rw [allAtoms_all]
  show words1.all (fun c => c.before args0 about1) = true
  refine all_split ?_ w_codes
  rw [← List.take_append_drop 24 words1, List.all_append, w_t1, w_t2]
  rfl
set_option maxRecDepth 65536 in
theorem w_case : (Jvm.Cond.and given_1 narrow_1).before args0 about1 = true := by decide +kernel
theorem w_applies : (headSpec (Jvm.Cond.code x code maxLocals ret :: tables_1) room_1).applies x e0.platform about1 = true :=
  (Spec.applies_iff w_frames).mpr ⟨w_running, w_runnable, w_alone, w_named, w_hears, w_ripe, w_room, w_tables⟩
theorem atStart : AtStart classFile x code maxLocals ret World_1 tables_1 room_1 Calls_1 rest_1 Pre_1 launch0 p0 e0 about1 theMethod args0 below0 :=
  ⟨lists_1, trivial, launch0.admits_env _ _ _, launch0.least_env, fairChoices_fair.cas, fairChoices_fair.clock, w_frames, w_args, w_heap, w_applies, trivial, trivial, w_case⟩
end start1
theorem witness_1 : WitnessClaimed_1 := ⟨start1.p0, start1.e0, start1.about1, start1.theMethod, start1.args0, start1.below0, start1.atStart⟩
end Jvm.Pilot.@@N@@
