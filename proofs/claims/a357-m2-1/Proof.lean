import JvmDerived
import JvmDerived.Pilot.@@N@@Statement
import JvmDerived.Pilot.@@N@@Code
set_option linter.unusedVariables false
set_option linter.unusedSimpArgs false
namespace Jvm.Pilot.@@N@@
open Jvm Jvm.ClassFile Sem Op Lib Jvm.Free Jvm.Stand Jvm.LawKit Jvm.RoadKit Bundle Jvm.Pilot.@@N@@.Jvm.D
section Own
variable {p : Program} {l : Launch} {e : Env} {R : Room} {s : State} {m : MethodId} {args : Array Value} {below : List Frame} {meth : Method} {c : Code} {T : State} {locs : List Loc} {cells slots : Nat} {Z : State} {h h' : Heap}
def Run (p : Program) (e : Env) (below : List Frame) (s : State) (C N : Nat) (Q : Option Value → Heap → List Loc → Prop) (S : State) : Prop :=
  ∃ s₂ o, Steps p.tables e below S s₂ ∧ s₂.status = .running ∧ Ended s₂ below o ∧ ∃ v L, o = .returned v ∧ Q v s₂.heap L ∧ FrameEnd s o s₂ L C N
variable {C N : Nat} {Q : Option Value → Heap → List Loc → Prop} {S S' : State}
theorem Run.go (k : ∀ t, Steps p.tables e below S' t → Steps p.tables e below S t) (r : Run p e below s C N Q S') : Run p e below s C N Q S := by
  obtain ⟨s₂, o, h1, r⟩ := r
  exact ⟨s₂, o, k _ h1, r⟩
theorem Run.tr (k : Steps p.tables e below S S') (r : Run p e below s C N Q S') : Run p e below s C N Q S := by
  obtain ⟨s₂, o, h1, r⟩ := r
  exact ⟨s₂, o, k.trans h1, r⟩
theorem Run.retI (X : Stand p l e R s m args below meth c T locs cells slots) (hx : p.tables.exec = Jvm.exec) {pc : Nat} {Ls : Array Slot} {z : Int32} {rest : List Value} (hret : meth.sig.returnType = some .int) (hlk : meth.locks = false) (hd : decode c.code pc = .ok (.ireturn, 1)) (hc : cells ≤ C) (hn : slots ≤ N)
    (hQ : Q (some (.int z)) T.heap locs) : Run p e below s C N Q (T.setTop (mkF m pc Ls (.int z :: rest))) := by
  obtain ⟨fs, hr, hrun, hended, hW, hsame⟩ := X.leave (v := some (.int z)) (fun q => by rw [hret] at q; cases q)
  refine ⟨_, _, ?_, hrun, hended, _, _, rfl, hQ, ⟨_, rfl⟩, hW, hsame.mono hc hn⟩
  have hm' : T.vm.method? m = some meth := X.method'
  have hn : narrow .int (.int z) = .int z := rfl
  show Steps p.tables e below (T.setTop { method := m, pc := pc, locals := Ls, stack := _ :: rest, locked := none }) _
  jvm_step X.here [X.here.top, hx, hd, hm', hret, hn]
  first | (intro acts; rw [hr _ acts rfl rfl rfl]) | rw [hr _ _ rfl rfl rfl]
  exact Steps.refl _
theorem Run.retN (X : Stand p l e R s m args below meth c T locs cells slots) (hx : p.tables.exec = Jvm.exec) {pc : Nat} {Ls : Array Slot} {z y : Int32} {t : FieldType} {rest : List Value} (hret : meth.sig.returnType = some t) (ht : t = .boolean ∨ t = .byte ∨ t = .char ∨ t = .short) (hy : nar t z = y) (hlk : meth.locks = false) (hd : decode c.code pc = .ok (.ireturn, 1)) (hc : cells ≤ C) (hn : slots ≤ N)
    (hQ : Q (some (.int y)) T.heap locs) : Run p e below s C N Q (T.setTop (mkF m pc Ls (.int z :: rest))) := by
  subst hy
  obtain ⟨fs, hr, hrun, hended, hW, hsame⟩ := X.leave (v := some (.int (nar t z))) (fun q => by rw [hret] at q; cases q)
  exact ⟨_, _, Jvm.RoadKit.retN X hx hret ht hd hr, hrun, hended, _, _, rfl, hQ, ⟨_, rfl⟩, hW, hsame.mono hc hn⟩
theorem Run.retJ (X : Stand p l e R s m args below meth c T locs cells slots) (hx : p.tables.exec = Jvm.exec) {pc : Nat} {Ls : Array Slot} {z : Int64} {rest : List Value} (hret : meth.sig.returnType = some .long) (hlk : meth.locks = false) (hd : decode c.code pc = .ok (.lreturn, 1)) (hc : cells ≤ C) (hn : slots ≤ N)
    (hQ : Q (some (.long z)) T.heap locs) : Run p e below s C N Q (T.setTop (mkF m pc Ls (.long z :: rest))) := by
  obtain ⟨fs, hr, hrun, hended, hW, hsame⟩ := X.leave (v := some (.long z)) (fun q => by rw [hret] at q; cases q)
  refine ⟨_, _, ?_, hrun, hended, _, _, rfl, hQ, ⟨_, rfl⟩, hW, hsame.mono hc hn⟩
  have hm' : T.vm.method? m = some meth := X.method'
  show Steps p.tables e below (T.setTop { method := m, pc := pc, locals := Ls, stack := _ :: rest, locked := none }) _
  jvm_step X.here [X.here.top, hx, hd, hm', hret, narrow]
  first | (intro acts; rw [hr _ acts rfl rfl rfl]) | rw [hr _ _ rfl rfl rfl]
  exact Steps.refl _
theorem Run.retA (X : Stand p l e R s m args below meth c T locs cells slots) (hx : p.tables.exec = Jvm.exec) {pc : Nat} {Ls : Array Slot} {w : Value} {t : FieldType} {rest : List Value} (hw : w.isRef = true) (hret : meth.sig.returnType = some t) (ht : t.isReference = true) (hlk : meth.locks = false) (hd : decode c.code pc = .ok (.areturn, 1)) (hc : cells ≤ C) (hn : slots ≤ N)
    (hQ : Q (some w) T.heap locs) : Run p e below s C N Q (T.setTop (mkF m pc Ls (w :: rest))) := by
  obtain ⟨fs, hr, hrun, hended, hW, hsame⟩ := X.leave (v := some w) (fun q => by rw [hret] at q; cases q)
  refine ⟨_, _, ?_, hrun, hended, _, _, rfl, hQ, ⟨_, rfl⟩, hW, hsame.mono hc hn⟩
  have hm' : T.vm.method? m = some meth := X.method'
  show Steps p.tables e below (T.setTop { method := m, pc := pc, locals := Ls, stack := _ :: rest, locked := none }) _
  rcases ref_cases hw with rfl | ⟨a, rfl⟩
  all_goals
    jvm_step X.here [X.here.top, hx, hd, hm', hret, Value.isRef, ht]
    first | (intro acts; rw [hr _ acts rfl rfl rfl]) | rw [hr _ _ rfl rfl rfl]
    exact Steps.refl _
theorem Run.ret0 (X : Stand p l e R s m args below meth c T locs cells slots) (hx : p.tables.exec = Jvm.exec) {pc : Nat} {Ls : Array Slot} (hret : meth.sig.returnType = none) (hlk : meth.locks = false) (hd : decode c.code pc = .ok (.return_, 1)) (hc : cells ≤ C) (hn : slots ≤ N)
    (hQ : Q none T.heap locs) : Run p e below s C N Q (T.setTop (mkF m pc Ls [])) := by
  obtain ⟨fs, hr, hrun, hended, hW, hsame⟩ := X.leave (v := none) (fun _ => rfl)
  exact ⟨_, _, X.returnOut hx hret hd hr, hrun, hended, _, _, rfl, hQ, ⟨_, rfl⟩, hW, hsame.mono hc hn⟩
theorem Sta.keep {C n d : String} {w : Value} {ws : List Addr} (F : Sta Z h C n d w) (K : Keep h h' ws) (q : ∀ x ∈ ws, ∀ c : Cell, h[x]? = some c → c.vm.isStatics = false) : Sta Z h' C n d w := by
  obtain ⟨cf, i, k, f, st, cell, h1, h2, h3, h4, h5, h6, h7⟩ := F
  refine ⟨cf, i, k, f, st, cell, h1, h2, h3, h4, K.2.1 st cell h5 (fun hm => ?_), h6, h7⟩
  rw [q st hm cell h5] at h6; cases h6
theorem Exa.nst {a : Addr} {C : String} (F : Exa Z h a C) : ∀ c : Cell, h[a]? = some c → c.vm.isStatics = false := fun c q => by
  obtain ⟨cell, k, h1, -, -, h4, -⟩ := F
  cases h1.symm.trans q; exact h4
/-- an array of n elements, the i-th is f i -/
def Ary (Z : State) (h : Heap) (a : Addr) (ty : FieldType) (n : Nat) (f : Nat → Value) : Prop := ∃ c : Cell, Arr Z h a c ty ∧ c.slots.size = n ∧ ∀ i, i < n → c.slots[i]? = some (f i)
variable {a b : Addr} {ty : FieldType} {n sl : Nat} {f : Nat → Value} {v : Value} {ws : List Addr}
theorem Ary.lt (F : Ary Z h a ty n f) : a < h.size := by obtain ⟨c, A, -⟩ := F; exact A.lt
theorem Ary.ext (F : Ary Z h a ty n f) (E : Ext h h') : Ary Z h' a ty n f := by obtain ⟨c, A, r⟩ := F; exact ⟨c, A.ext E, r⟩
theorem Ary.other (F : Ary Z h b ty n f) (W : Wr h h' a sl v) (q : b ≠ a) : Ary Z h' b ty n f := by obtain ⟨c, A, r⟩ := F; exact ⟨c, A.other W q, r⟩
theorem Ary.keep (F : Ary Z h a ty n f) (K : Keep h h' ws) (q : a ∉ ws) : Ary Z h' a ty n f := by obtain ⟨c, A, r⟩ := F; exact ⟨c, ⟨K.2.1 a c A.1 q, A.2⟩, r⟩
theorem Ary.ne {C : String} {a0 : Array Value} {k : Nat} (F : Ary Z h a ty n f) (G : Exa Z h b C) (wi : (Jvm.Cond.instantiable C k).before a0 Z = true) : a ≠ b := by
  obtain ⟨c, A, r⟩ := F; exact (ne_arr G wi A).symm
theorem Ary.same (F : Ary Z h a ty n f) (W : Wr h h' a sl v) : Ary Z h' a ty n (fun i => if i = sl then v else f i) := by
  obtain ⟨c, A, hs, hf⟩ := F
  obtain ⟨c1, q1, q2, q3, q4⟩ := W
  obtain rfl := Option.some.inj (q1.symm.trans A.1)
  refine ⟨c1.setSlot sl v, A.same ⟨c1, q1, q2, q3, q4⟩, by simp [Cell.setSlot, hs], fun i hi => ?_⟩
  by_cases e : i = sl
  · subst e; simp [Cell.setSlot, q3]
  · simp only [if_neg e]; rw [← hf i hi]; exact Array.getElem?_setIfInBounds_ne (Ne.symm e)
theorem Ary.nst (F : Ary Z h a ty n f) : ∀ c : Cell, h[a]? = some c → c.vm.isStatics = false := fun c q => by
  obtain ⟨cl, A, -⟩ := F
  cases A.1.symm.trans q; exact A.plain
theorem Ary.congr {g : Nat → Value} (F : Ary Z h a ty n f) (q : ∀ i, i < n → f i = g i) : Ary Z h a ty n g := by
  obtain ⟨c, A, hs, hf⟩ := F; exact ⟨c, A, hs, fun i hi => by rw [hf i hi, q i hi]⟩
theorem Ary.new {k : ClassId} {z : Int32} (A : Arr Z h a (newA k ty z) ty) (q : z.toNatClampNeg = n) : Ary Z h a ty n (fun _ => defaultValue ty) := by
  subst q
  exact ⟨_, A, sz_new _ _ _, fun i hi => by simp [newA, hi]⟩
theorem out_of {j : Int32} {c : Cell} (hs : c.slots.size = n) (h0 : ¬ j < 0) (hj : j.toNatClampNeg < n) : ¬ (j < 0 ∨ c.slots.size ≤ j.toNatClampNeg) := by
  rw [hs]; exact fun q => q.elim h0 (fun q => absurd hj (Nat.not_lt.mpr q))
/-- an array of references: besides, its class is that of arrays over C -/
def ArR (Z : State) (h : Heap) (a : Addr) (C : String) (n : Nat) (f : Nat → Value) : Prop := ∃ c : Cell, Arr Z h a c (.object C) ∧ Ovr Z c.cls C ∧ c.slots.size = n ∧ ∀ i, i < n → c.slots[i]? = some (f i)
variable {K : String}
theorem ArR.lt (F : ArR Z h a K n f) : a < h.size := by obtain ⟨c, A, -⟩ := F; exact A.lt
theorem ArR.ext (F : ArR Z h a K n f) (E : Ext h h') : ArR Z h' a K n f := by obtain ⟨c, A, r⟩ := F; exact ⟨c, A.ext E, r⟩
theorem ArR.other (F : ArR Z h b K n f) (W : Wr h h' a sl v) (q : b ≠ a) : ArR Z h' b K n f := by obtain ⟨c, A, r⟩ := F; exact ⟨c, A.other W q, r⟩
theorem ArR.keep (F : ArR Z h a K n f) (k : Keep h h' ws) (q : a ∉ ws) : ArR Z h' a K n f := by obtain ⟨c, A, r⟩ := F; exact ⟨c, ⟨k.2.1 a c A.1 q, A.2⟩, r⟩
theorem ArR.ary (F : ArR Z h a K n f) : Ary Z h a (.object K) n f := by obtain ⟨c, A, -, r⟩ := F; exact ⟨c, A, r⟩
theorem ArR.same (F : ArR Z h a K n f) (W : Wr h h' a sl v) : ArR Z h' a K n (fun i => if i = sl then v else f i) := by
  obtain ⟨c, A, o, hs, hf⟩ := F
  obtain ⟨c1, q1, q2, q3, q4⟩ := W
  obtain rfl := Option.some.inj (q1.symm.trans A.1)
  refine ⟨c1.setSlot sl v, A.same ⟨c1, q1, q2, q3, q4⟩, o, by simp [Cell.setSlot, hs], fun i hi => ?_⟩
  by_cases e : i = sl
  · subst e; simp [Cell.setSlot, q3]
  · simp only [if_neg e]; rw [← hf i hi]; exact Array.getElem?_setIfInBounds_ne (Ne.symm e)
theorem ArR.new {k : ClassId} {z : Int32} (A : Arr Z h a (newA k (.object K) z) (.object K)) (O : Ovr Z k K) (q : z.toNatClampNeg = n) : ArR Z h a K n (fun _ => .null) := by
  subst q
  exact ⟨_, A, O, sz_new _ _ _, fun i hi => by simp [newA, hi]; rfl⟩
section Arrays
theorem ary_iget (X : Stand p l e R s m args below meth c T locs cells slots) (hx : p.tables.exec = Jvm.exec) (hZ : Z.Warmed39 s.vm) (eT : T.heap = h) (A : Ary Z h a .int n f) {j : Int32} (h0 : ¬ j < 0) (hj : j.toNatClampNeg < n) {g : JFrame} (hg : g.method = m) {rest : List Value} (hs : g.stack = .int j :: .ref a :: rest) (hd : decode c.code g.pc = .ok (.iaload, 1)) {v : Value} (hv : f j.toNatClampNeg = v) (target : State)
    (k : Steps p.tables e below (T.setTop { g with pc := g.pc + 1, stack := v :: rest }) target) : Steps p.tables e below (T.setTop g) target := by
  subst hv; obtain ⟨cl, A, q, F⟩ := A
  exact X.iaload hx (by rw [eT]; exact A.1) (State.isArrayOf_alike hZ.alike A.2.1) A.2.2 (out_of q h0 hj) (F _ hj) hg hs hd target k
theorem ary_lget (X : Stand p l e R s m args below meth c T locs cells slots) (hx : p.tables.exec = Jvm.exec) (hZ : Z.Warmed39 s.vm) (eT : T.heap = h) (A : Ary Z h a .long n f) {j : Int32} (h0 : ¬ j < 0) (hj : j.toNatClampNeg < n) {g : JFrame} (hg : g.method = m) {rest : List Value} (hs : g.stack = .int j :: .ref a :: rest) (hd : decode c.code g.pc = .ok (.laload, 1)) {v : Value} (hv : f j.toNatClampNeg = v) (target : State)
    (k : Steps p.tables e below (T.setTop { g with pc := g.pc + 1, stack := v :: rest }) target) : Steps p.tables e below (T.setTop g) target := by
  subst hv; obtain ⟨cl, A, q, F⟩ := A
  exact X.laload hx (by rw [eT]; exact A.1) (State.isArrayOf_alike hZ.alike A.2.1) A.2.2 (out_of q h0 hj) (F _ hj) hg hs hd target k
theorem ary_bget (X : Stand p l e R s m args below meth c T locs cells slots) (hx : p.tables.exec = Jvm.exec) (hZ : Z.Warmed39 s.vm) (eT : T.heap = h) (A : Ary Z h a .byte n f) {j : Int32} (h0 : ¬ j < 0) (hj : j.toNatClampNeg < n) {g : JFrame} (hg : g.method = m) {rest : List Value} (hs : g.stack = .int j :: .ref a :: rest) (hd : decode c.code g.pc = .ok (.baload, 1)) {v : Value} (hv : f j.toNatClampNeg = v) (target : State)
    (k : Steps p.tables e below (T.setTop { g with pc := g.pc + 1, stack := v :: rest }) target) : Steps p.tables e below (T.setTop g) target := by
  subst hv; obtain ⟨cl, A, q, F⟩ := A
  exact X.baloadBytes hx (by rw [eT]; exact A.1) (State.isArrayOf_alike hZ.alike A.2.1) A.2.2 (out_of q h0 hj) (F _ hj) hg hs hd target k
theorem ary_cget (X : Stand p l e R s m args below meth c T locs cells slots) (hx : p.tables.exec = Jvm.exec) (hZ : Z.Warmed39 s.vm) (eT : T.heap = h) (A : Ary Z h a .char n f) {j : Int32} (h0 : ¬ j < 0) (hj : j.toNatClampNeg < n) {g : JFrame} (hg : g.method = m) {rest : List Value} (hs : g.stack = .int j :: .ref a :: rest) (hd : decode c.code g.pc = .ok (.caload, 1)) {v : Value} (hv : f j.toNatClampNeg = v) (target : State)
    (k : Steps p.tables e below (T.setTop { g with pc := g.pc + 1, stack := v :: rest }) target) : Steps p.tables e below (T.setTop g) target := by
  subst hv; obtain ⟨cl, A, q, F⟩ := A
  exact X.caload hx (by rw [eT]; exact A.1) (State.isArrayOf_alike hZ.alike A.2.1) A.2.2 (out_of q h0 hj) (F _ hj) hg hs hd target k
theorem ary_aget (X : Stand p l e R s m args below meth c T locs cells slots) (hx : p.tables.exec = Jvm.exec) (hZ : Z.Warmed39 s.vm) (eT : T.heap = h) (A : Ary Z h a ty n f) (hr : ty.isReference = true) {j : Int32} (h0 : ¬ j < 0) (hj : j.toNatClampNeg < n) {g : JFrame} (hg : g.method = m) {rest : List Value} (hs : g.stack = .int j :: .ref a :: rest) (hd : decode c.code g.pc = .ok (.aaload, 1)) {v : Value} (hv : f j.toNatClampNeg = v) (target : State)
    (k : Steps p.tables e below (T.setTop { g with pc := g.pc + 1, stack := v :: rest }) target) : Steps p.tables e below (T.setTop g) target := by
  subst hv; obtain ⟨cl, A, q, F⟩ := A
  exact X.aaload hx (by rw [eT]; exact A.1) (State.isArrayOf_alike hZ.alike A.2.1) hr A.2.2 (out_of q h0 hj) (F _ hj) hg hs hd target k
theorem ary_len (X : Stand p l e R s m args below meth c T locs cells slots) (hx : p.tables.exec = Jvm.exec) (hZ : Z.Warmed39 s.vm) (eT : T.heap = h) (A : Ary Z h a ty n f) {g : JFrame} (hg : g.method = m) {rest : List Value} (hs : g.stack = .ref a :: rest) (hd : decode c.code g.pc = .ok (.arraylength, 1)) {z : Int32} (hv : n.toInt32 = z) (target : State)
    (k : Steps p.tables e below (T.setTop { g with pc := g.pc + 1, stack := .int z :: rest }) target) : Steps p.tables e below (T.setTop g) target := by
  subst hv; obtain ⟨cl, A, q, F⟩ := A
  subst q
  exact X.arraylength hx (by rw [eT]; exact A.1) (State.isArrayOf_alike hZ.alike A.2.1) hg hs hd target k
theorem ary_iset (X : Stand p l e R s m args below meth c T locs cells slots) (hx : p.tables.exec = Jvm.exec) (hZ : Z.Warmed39 s.vm) (eT : T.heap = h) (A : Ary Z h a .int n f) {j x : Int32} (h0 : ¬ j < 0) (hj : j.toNatClampNeg < n) {g : JFrame} (hg : g.method = m) {rest : List Value} (hs : g.stack = .int x :: .int j :: .ref a :: rest) (hd : decode c.code g.pc = .ok (.iastore, 1)) :
    ∃ T' h', Stand p l e R s m args below meth c T' (locs ++ [⟨a, j.toNatClampNeg⟩]) cells slots ∧ T'.heap = h' ∧ Wr h h' a j.toNatClampNeg (.int x) ∧ ∀ target, Steps p.tables e below (T'.setTop { g with pc := g.pc + 1, stack := rest }) target → Steps p.tables e below (T.setTop g) target := by
  obtain ⟨cl, A, q, F⟩ := A
  exact stI X hx hZ eT A (out_of q h0 hj) hg hs hd
theorem ary_lset (X : Stand p l e R s m args below meth c T locs cells slots) (hx : p.tables.exec = Jvm.exec) (hZ : Z.Warmed39 s.vm) (eT : T.heap = h) (A : Ary Z h a .long n f) {j : Int32} {x : Int64} (h0 : ¬ j < 0) (hj : j.toNatClampNeg < n) {g : JFrame} (hg : g.method = m) {rest : List Value} (hs : g.stack = .long x :: .int j :: .ref a :: rest) (hd : decode c.code g.pc = .ok (.lastore, 1)) :
    ∃ T' h', Stand p l e R s m args below meth c T' (locs ++ [⟨a, j.toNatClampNeg⟩]) cells slots ∧ T'.heap = h' ∧ Wr h h' a j.toNatClampNeg (.long x) ∧ ∀ target, Steps p.tables e below (T'.setTop { g with pc := g.pc + 1, stack := rest }) target → Steps p.tables e below (T.setTop g) target := by
  obtain ⟨cl, A, q, F⟩ := A
  exact stJ X hx hZ eT A (out_of q h0 hj) hg hs hd
theorem ary_bset (X : Stand p l e R s m args below meth c T locs cells slots) (hx : p.tables.exec = Jvm.exec) (hZ : Z.Warmed39 s.vm) (eT : T.heap = h) (A : Ary Z h a .byte n f) {j x y : Int32} (h0 : ¬ j < 0) (hj : j.toNatClampNeg < n) {g : JFrame} (hg : g.method = m) {rest : List Value} (hs : g.stack = .int x :: .int j :: .ref a :: rest) (hd : decode c.code g.pc = .ok (.bastore, 1)) (hy : x.toInt8.toInt32 = y) :
    ∃ T' h', Stand p l e R s m args below meth c T' (locs ++ [⟨a, j.toNatClampNeg⟩]) cells slots ∧ T'.heap = h' ∧ Wr h h' a j.toNatClampNeg (.int y) ∧ ∀ target, Steps p.tables e below (T'.setTop { g with pc := g.pc + 1, stack := rest }) target → Steps p.tables e below (T.setTop g) target := by
  subst hy; obtain ⟨cl, A, q, F⟩ := A
  exact stB X hx hZ eT A (out_of q h0 hj) hg hs hd
theorem ary_cset (X : Stand p l e R s m args below meth c T locs cells slots) (hx : p.tables.exec = Jvm.exec) (hZ : Z.Warmed39 s.vm) (eT : T.heap = h) (A : Ary Z h a .char n f) {j x y : Int32} (h0 : ¬ j < 0) (hj : j.toNatClampNeg < n) {g : JFrame} (hg : g.method = m) {rest : List Value} (hs : g.stack = .int x :: .int j :: .ref a :: rest) (hd : decode c.code g.pc = .ok (.castore, 1)) (hy : nar .char x = y) :
    ∃ T' h', Stand p l e R s m args below meth c T' (locs ++ [⟨a, j.toNatClampNeg⟩]) cells slots ∧ T'.heap = h' ∧ Wr h h' a j.toNatClampNeg (.int y) ∧ ∀ target, Steps p.tables e below (T'.setTop { g with pc := g.pc + 1, stack := rest }) target → Steps p.tables e below (T.setTop g) target := by
  subst hy; obtain ⟨cl, A, q, F⟩ := A
  exact stC X hx hZ eT A (out_of q h0 hj) hg hs hd
theorem arr_set (X : Stand p l e R s m args below meth c T locs cells slots) (hx : p.tables.exec = Jvm.exec) (hZ : Z.Warmed39 s.vm) (eT : T.heap = h) (A : ArR Z h a K n f) {j : Int32} {y : Addr} (I : Ins Z h y K true) (h0 : ¬ j < 0) (hj : j.toNatClampNeg < n) {g : JFrame} (hg : g.method = m) {rest : List Value} (hs : g.stack = .ref y :: .int j :: .ref a :: rest) (hd : decode c.code g.pc = .ok (.aastore, 1)) :
    ∃ T' h', Stand p l e R s m args below meth c T' (locs ++ [⟨a, j.toNatClampNeg⟩]) cells slots ∧ T'.heap = h' ∧ Wr h h' a j.toNatClampNeg (.ref y) ∧ ∀ target, Steps p.tables e below (T'.setTop { g with pc := g.pc + 1, stack := rest }) target → Steps p.tables e below (T.setTop g) target := by
  obtain ⟨cl, A, O, q, F⟩ := A
  exact stR X hx hZ eT A (out_of q h0 hj) rfl (Sto.of A O I) hg hs hd
end Arrays
theorem nar_ite (P : Prop) [Decidable P] : nar .boolean (if P then (1 : Int32) else 0) = if P then 1 else 0 := by by_cases q : P <;> simp [q] <;> rfl
theorem b_idem (x : Int32) : x.toInt8.toInt32.toInt8.toInt32 = x.toInt8.toInt32 := by rw [Int8.toInt8_toInt32]
theorem isI_c (x : Int32) : ∀ n : Nat, ∃ y, (fun _ => Value.int x) n = Value.int y := fun _ => ⟨x, rfl⟩
theorem isI_s {f : Nat → Value} (q : ∀ n, ∃ y, f n = Value.int y) (k : Nat) (x : Int32) : ∀ n, ∃ y, (fun i => if i = k then Value.int x else f i) n = Value.int y := fun n => by
  by_cases e : n = k
  · exact ⟨x, if_pos e⟩
  · obtain ⟨y, hy⟩ := q n
    exact ⟨y, (if_neg e).trans hy⟩
end Own
theorem d1_0 : decode prog_69_method_1_code 0 = .ok (.aload_n 0, 1) := by decide +kernel
theorem d1_1 : decode prog_69_method_1_code 1 = .ok (.invokespecial 1, 3) := by decide +kernel
theorem d1_4 : decode prog_69_method_1_code 4 = .ok (.aload_n 0, 1) := by decide +kernel
theorem d1_5 : decode prog_69_method_1_code 5 = .ok (.lload_n 1, 1) := by decide +kernel
theorem d1_6 : decode prog_69_method_1_code 6 = .ok (.putfield 7, 3) := by decide +kernel
theorem d1_9 : decode prog_69_method_1_code 9 = .ok (.return_, 1) := by decide +kernel
def Q_rm1 (Z : State) (a1 : Addr) (q2 : Int64) (u_cap_a1 : Value) (u_counted_a1 : Value) (h0 : Heap) (n0 : Nat) (v : Option Value) (h : Heap) (L : List Loc) : Prop := v = none ∧ Fr n0 L ∧ Keep h0 h [a1] ∧ Exa Z h a1 "com/example/exact_table/exacttable/SizeCap" ∧ Fld Z h a1 "com/example/exact_table/exacttable/SizeCap" "cap" "J" (.long q2) ∧ Fld Z h a1 "com/example/exact_table/exacttable/SizeCap" "counted" "J" u_counted_a1
theorem ef_rm1 (m : MethodId) (x0 : Addr) (x1 : Int64) : entryFrame m #[(.ref x0), (.long x1)] 3 = mkF m 0 #[.val (.ref x0), .val (.long x1), .second] [] := by first | (simp [entryFrame, mkF, argsToLocals, Value.category]; done) | rfl
theorem pn_0 : plainName "com/example/exact_table/exacttable/SizeCap" = true := by first | (simp [plainName, overriddenIn]; done) | decide +kernel
set_option maxRecDepth 65536 in
set_option maxHeartbeats 40000000 in
theorem rm1 (l : Launch) (Z : State) (a0 : Array Value) (hw : ∀ d ∈ tables_1, d.before a0 Z = true) (ws : List Jvm.Cond) (a1 : Addr) (q2 : Int64) (u_cap_a1 : Value) (u_counted_a1 : Value) (h0 : Heap) (n0 : Nat) (Z0 : n0 ≤ h0.size) (E_a1 : Exa Z h0 a1 "com/example/exact_table/exacttable/SizeCap") (F_cap_a1 : Fld Z h0 a1 "com/example/exact_table/exacttable/SizeCap" "cap" "J" u_cap_a1) (g_a1 : n0 ≤ a1) (F_counted_a1 : Fld Z h0 a1 "com/example/exact_table/exacttable/SizeCap" "counted" "J" u_counted_a1) :
    MetFree l (⟨"com/example/exact_table/exacttable/SizeCap", "<init>", "(J)V"⟩ : MethodName) (head1 (Jvm.Cond.code (⟨"com/example/exact_table/exacttable/SizeCap", "<init>", "(J)V"⟩ : MethodName) prog_69_method_1_code 3 none :: ws) ({ frames := 1, cells := 0, slots := 0, locals := 12 } : Room)) (fun a U => a = #[(.ref a1), (.long q2)] ∧ Z.Warmed39 U.vm ∧ U.heap = h0) (fun _ _ _ _ _ => True) (fun _ U o U' => ∃ v L, o = .returned v ∧ Q_rm1 Z a1 q2 u_cap_a1 u_counted_a1 h0 n0 v U'.heap L ∧ FrameEnd U o U' L ({ frames := 1, cells := 0, slots := 0, locals := 12 } : Room).cells ({ frames := 1, cells := 0, slots := 0, locals := 12 } : Room).slots) := by
  refine MetFree.of_bodySF (plainFor_of_name pn_0) hisR ?_
  intro p e s m args below meth c s₁ Bd hml0 hP hK
  obtain ⟨rfl, hZ, hh⟩ := hP
  have hx := Bd.exec
  have hby := Bd.bytes
  have hml : c.maxLocals = 3 := hml0
  have hown : s.vm.findClass "com/example/exact_table/exacttable/SizeCap" = some m.cls := findClass_of_methodNamed Bd.named
  have hnm := (name_of_methodNamed Bd.named Bd.method).1
  have X0 : Stand p l e ({ frames := 1, cells := 0, slots := 0, locals := 12 } : Room) s m #[(.ref a1), (.long q2)] below meth c s₁ [] 0 0 := Stand.of_body Bd
  have e0 : s₁.heap = h0 := by rw [← hh, Bd.state]; rfl
  have N0 := Fr.nil n0
  show Run p e below s 0 0 (Q_rm1 Z a1 q2 u_cap_a1 u_counted_a1 h0 n0) (s₁.setTop (entryFrame m #[(.ref a1), (.long q2)] 3))
  refine Run.go (fun _ k => castTop (ef_rm1 m a1 q2) k) ?_
  show Run p e below s 0 0 (Q_rm1 Z a1 q2 u_cap_a1 u_counted_a1 h0 n0) (s₁.setTop (mkF m 0 #[.val (.ref a1), .val (.long q2), .second] []))
  refine Run.go (fun _ k => XS.aloadN X0.here hx rfl (hb hby d1_0) rfl rfl k) ?_
  show Run p e below s 0 0 (Q_rm1 Z a1 q2 u_cap_a1 u_counted_a1 h0 n0) (s₁.setTop (mkF m 1 #[.val (.ref a1), .val (.long q2), .second] [(.ref a1)]))
  obtain ⟨T3, X3, e3, st3⟩ := initO X0 hx hZ hown (hw _ (List.mem_of_getElem? (i := 7) rfl)) (hw _ (List.mem_of_getElem? (i := 8) rfl)) (hw _ (List.mem_of_getElem? (i := 9) rfl)) e0 (g := (mkF m 1 #[.val (.ref a1), .val (.long q2), .second] [(.ref a1)])) rfl (by rw [hml]; rfl) rfl (hb hby d1_1) (by decide) (W := 0) (by show 2 * 0 + _ ≤ _; exact Nat.le_of_eq rfl) (by decide)
  refine Run.go st3 ?_
  show Run p e below s 0 0 (Q_rm1 Z a1 q2 u_cap_a1 u_counted_a1 h0 n0) (T3.setTop (mkF m 4 #[.val (.ref a1), .val (.long q2), .second] []))
  refine Run.go (fun _ k => XS.aloadN X3.here hx rfl (hb hby d1_4) rfl rfl k) ?_
  show Run p e below s 0 0 (Q_rm1 Z a1 q2 u_cap_a1 u_counted_a1 h0 n0) (T3.setTop (mkF m 5 #[.val (.ref a1), .val (.long q2), .second] [(.ref a1)]))
  refine Run.go (fun _ k => XS.lloadN X3.here hx rfl (hb hby d1_5) rfl  k) ?_
  show Run p e below s 0 0 (Q_rm1 Z a1 q2 u_cap_a1 u_counted_a1 h0 n0) (T3.setTop (mkF m 6 #[.val (.ref a1), .val (.long q2), .second] [(.long q2), (.ref a1)]))
  obtain ⟨T4, h4, X4, e4, W4, st4⟩ := putF X3 hx hZ hown (host := "") (Or.inl (hw _ (List.mem_of_getElem? (i := 10) rfl))) Via.refl e3 F_cap_a1 E_a1 (Or.inr ⟨(hw _ (List.mem_of_getElem? (i := 11) rfl)), rfl, hnm⟩) (hw _ (List.mem_of_getElem? (i := 2) rfl)) (ty := .long) (by decide) rfl rfl (g := (mkF m 6 #[.val (.ref a1), .val (.long q2), .second] [(.long q2), (.ref a1)])) rfl rfl (hb hby d1_6)
  have N4 := Fr.snoc X4 N0 g_a1
  have Z4 : n0 ≤ h4.size := Nat.le_trans Z0 (Keep.of_wr W4).1
  have K4 : Keep h0 h4 [a1] := (Keep.refl h0 [a1]).wr W4 (Or.inl (List.mem_of_getElem? (i := 0) rfl))
  have fx5 := F_cap_a1.same W4
  refine Run.go st4 ?_
  show Run p e below s 0 0 (Q_rm1 Z a1 q2 u_cap_a1 u_counted_a1 h0 n0) (T4.setTop (mkF m 9 #[.val (.ref a1), .val (.long q2), .second] []))
  refine Run.ret0 X4 hx Bd.returns Bd.notSynchronized (hb hby d1_9) (by decide) (by decide) ?_
  show Q_rm1 Z a1 q2 u_cap_a1 u_counted_a1 h0 n0 _ T4.heap _
  have fx6 := (E_a1.wr W4)
  have fx7 := (F_counted_a1.other W4 (Or.inr (slot_ne (Or.inl (hw _ (List.mem_of_getElem? (i := 18) rfl))) (Or.inr (hw _ (List.mem_of_getElem? (i := 11) rfl))) (by decide) (t := .long) (t' := .long) (by decide) (by decide))))
  rw [e4]
  exact ⟨rfl, N4, K4, fx6, fx5, fx7⟩
theorem d3_0 : decode prog_69_method_3_code 0 = .ok (.aload_n 0, 1) := by decide +kernel
theorem d3_1 : decode prog_69_method_3_code 1 = .ok (.getfield 13, 3) := by decide +kernel
theorem d3_4 : decode prog_69_method_3_code 4 = .ok (.aload_n 0, 1) := by decide +kernel
theorem d3_5 : decode prog_69_method_3_code 5 = .ok (.getfield 7, 3) := by decide +kernel
theorem d3_8 : decode prog_69_method_3_code 8 = .ok (.lcmp, 1) := by decide +kernel
theorem d3_9 : decode prog_69_method_3_code 9 = .ok (.ifCond .lt 7, 3) := by decide +kernel
theorem d3_16 : decode prog_69_method_3_code 16 = .ok (.iconst 0, 1) := by decide +kernel
theorem d3_12 : decode prog_69_method_3_code 12 = .ok (.iconst 1, 1) := by decide +kernel
theorem d3_13 : decode prog_69_method_3_code 13 = .ok (.goto 4, 3) := by decide +kernel
theorem d3_17 : decode prog_69_method_3_code 17 = .ok (.ireturn, 1) := by decide +kernel
def F_rm3 (w2 : Int64) (w4 : Int64) : Int32 := let w7 : Int32 := (if (¬ (w2 < w4)) then (1 : Int32) else 0); w7
def Q_rm3 (Z : State) (a1 : Addr) (w2 : Int64) (w4 : Int64) (h0 : Heap) (n0 : Nat) (v : Option Value) (h : Heap) (L : List Loc) : Prop := v = some (.int (F_rm3 w2 w4)) ∧ Fr n0 L ∧ h = h0
theorem ef_rm3 (m : MethodId) (x0 : Addr) : entryFrame m #[(.ref x0)] 1 = mkF m 0 #[.val (.ref x0)] [] := by first | (simp [entryFrame, mkF, argsToLocals, Value.category]; done) | rfl
set_option maxRecDepth 65536 in
set_option maxHeartbeats 40000000 in
theorem rm3 (l : Launch) (Z : State) (a0 : Array Value) (hw : ∀ d ∈ tables_1, d.before a0 Z = true) (ws : List Jvm.Cond) (a1 : Addr) (w2 : Int64) (w4 : Int64) (h0 : Heap) (n0 : Nat) (Z0 : n0 ≤ h0.size) (F_counted_a1 : Fld Z h0 a1 "com/example/exact_table/exacttable/SizeCap" "counted" "J" (.long w2)) (F_cap_a1 : Fld Z h0 a1 "com/example/exact_table/exacttable/SizeCap" "cap" "J" (.long w4)) :
    MetFree l (⟨"com/example/exact_table/exacttable/SizeCap", "reached", "()Z"⟩ : MethodName) (head1 (Jvm.Cond.code (⟨"com/example/exact_table/exacttable/SizeCap", "reached", "()Z"⟩ : MethodName) prog_69_method_3_code 1 (some .boolean) :: ws) ({ frames := 0, cells := 0, slots := 0, locals := 0 } : Room)) (fun a U => a = #[(.ref a1)] ∧ Z.Warmed39 U.vm ∧ U.heap = h0) (fun _ _ _ _ _ => True) (fun _ U o U' => ∃ v L, o = .returned v ∧ Q_rm3 Z a1 w2 w4 h0 n0 v U'.heap L ∧ FrameEnd U o U' L ({ frames := 0, cells := 0, slots := 0, locals := 0 } : Room).cells ({ frames := 0, cells := 0, slots := 0, locals := 0 } : Room).slots) := by
  refine MetFree.of_bodySF (plainFor_of_name pn_0) hisR ?_
  intro p e s m args below meth c s₁ Bd hml0 hP hK
  obtain ⟨rfl, hZ, hh⟩ := hP
  have hx := Bd.exec
  have hby := Bd.bytes
  have hml : c.maxLocals = 1 := hml0
  have hown : s.vm.findClass "com/example/exact_table/exacttable/SizeCap" = some m.cls := findClass_of_methodNamed Bd.named
  have hnm := (name_of_methodNamed Bd.named Bd.method).1
  have X0 : Stand p l e ({ frames := 0, cells := 0, slots := 0, locals := 0 } : Room) s m #[(.ref a1)] below meth c s₁ [] 0 0 := Stand.of_body Bd
  have e0 : s₁.heap = h0 := by rw [← hh, Bd.state]; rfl
  have N0 := Fr.nil n0
  show Run p e below s 0 0 (Q_rm3 Z a1 w2 w4 h0 n0) (s₁.setTop (entryFrame m #[(.ref a1)] 1))
  refine Run.go (fun _ k => castTop (ef_rm3 m a1) k) ?_
  show Run p e below s 0 0 (Q_rm3 Z a1 w2 w4 h0 n0) (s₁.setTop (mkF m 0 #[.val (.ref a1)] []))
  refine Run.go (fun _ k => XS.aloadN X0.here hx rfl (hb hby d3_0) rfl rfl k) ?_
  show Run p e below s 0 0 (Q_rm3 Z a1 w2 w4 h0 n0) (s₁.setTop (mkF m 1 #[.val (.ref a1)] [(.ref a1)]))
  obtain ⟨T3, X3, e3, st3⟩ := getF X0 hx hZ hown (host := "") (Or.inl (hw _ (List.mem_of_getElem? (i := 17) rfl))) Via.refl e0 F_counted_a1 (g := (mkF m 1 #[.val (.ref a1)] [(.ref a1)])) rfl rfl (hb hby d3_1)
  refine Run.go st3 ?_
  show Run p e below s 0 0 (Q_rm3 Z a1 w2 w4 h0 n0) (T3.setTop (mkF m 4 #[.val (.ref a1)] [(.long w2)]))
  refine Run.go (fun _ k => XS.aloadN X3.here hx rfl (hb hby d3_4) rfl rfl k) ?_
  show Run p e below s 0 0 (Q_rm3 Z a1 w2 w4 h0 n0) (T3.setTop (mkF m 5 #[.val (.ref a1)] [(.ref a1), (.long w2)]))
  obtain ⟨T5, X5, e5, st5⟩ := getF X3 hx hZ hown (host := "") (Or.inl (hw _ (List.mem_of_getElem? (i := 10) rfl))) Via.refl e3 F_cap_a1 (g := (mkF m 5 #[.val (.ref a1)] [(.ref a1), (.long w2)])) rfl rfl (hb hby d3_5)
  refine Run.go st5 ?_
  show Run p e below s 0 0 (Q_rm3 Z a1 w2 w4 h0 n0) (T5.setTop (mkF m 8 #[.val (.ref a1)] [(.long w4), (.long w2)]))
  refine Run.go (fun _ k => XS.lcmp X5.here hx rfl (hb hby d3_8) rfl k) ?_
  show Run p e below s 0 0 (Q_rm3 Z a1 w2 w4 h0 n0) (T5.setTop (mkF m 9 #[.val (.ref a1)] [(.int (lcmpW w2 w4))]))
  have J6 : ∀ (w7 : Int32) (hw7 : w7 = (if (¬ (w2 < w4)) then (1 : Int32) else 0)) (T8 : State) (L8 : List Loc) (X8 : Stand p l e ({ frames := 0, cells := 0, slots := 0, locals := 0 } : Room) s m #[(.ref a1)] below meth c T8 L8 0 0) (e8 : T8.heap = h0) (N8 : Fr n0 L8), Run p e below s 0 0 (Q_rm3 Z a1 w2 w4 h0 n0) (T8.setTop (mkF m 17 #[.val (.ref a1)] [(.int w7)])) := by
    intro w7 hw7 T8 L8 X8 e8 N8
    show Run p e below s 0 0 (Q_rm3 Z a1 w2 w4 h0 n0) (T8.setTop (mkF m 17 #[.val (.ref a1)] [(.int w7)]))
    refine Run.retN (y := w7) X8 hx (t := .boolean) Bd.returns (by simp) (by rw [hw7]; exact nar_ite _) Bd.notSynchronized (hb hby d3_17) (by decide) (by decide) ?_
    show Q_rm3 Z a1 w2 w4 h0 n0 _ T8.heap _
    exact ⟨congrArg some (congrArg Value.int (show w7 = (F_rm3 w2 w4) from (by subst hw7; unfold F_rm3; rfl))), N8, e8⟩
  by_cases hc9 : (w2 < w4)
  · refine Run.go (fun _ k => XS.ifYes X5.here hx rfl (pc0 := 9) (pc' := 16) rfl (hb hby d3_9) rfl ((if0 _ _).trans (tlt ((lw_lt w2 w4).mpr hc9)).1) (by decide) (by decide) k) ?_
    show Run p e below s 0 0 (Q_rm3 Z a1 w2 w4 h0 n0) (T5.setTop (mkF m 16 #[.val (.ref a1)] []))
    refine Run.go (fun _ k => XS.iconst X5.here hx rfl (hb hby d3_16) k) ?_
    show Run p e below s 0 0 (Q_rm3 Z a1 w2 w4 h0 n0) (T5.setTop (mkF m 17 #[.val (.ref a1)] [(.int (0 : Int32))]))
    exact J6 _ (if_neg (fun q => q hc9)).symm _ _ X5 e5 N0
  · refine Run.go (fun _ k => XS.ifNo X5.here hx rfl (hb hby d3_9) rfl ((if0 _ _).trans (flt (mt (lw_lt w2 w4).mp hc9)).1) k) ?_
    show Run p e below s 0 0 (Q_rm3 Z a1 w2 w4 h0 n0) (T5.setTop (mkF m 12 #[.val (.ref a1)] []))
    refine Run.go (fun _ k => XS.iconst X5.here hx rfl (hb hby d3_12) k) ?_
    show Run p e below s 0 0 (Q_rm3 Z a1 w2 w4 h0 n0) (T5.setTop (mkF m 13 #[.val (.ref a1)] [(.int (1 : Int32))]))
    refine Run.go (fun _ k => XS.goto X5.here hx rfl (pc0 := 13) (pc' := 17) rfl (hb hby d3_13) (by decide) (by decide) k) ?_
    show Run p e below s 0 0 (Q_rm3 Z a1 w2 w4 h0 n0) (T5.setTop (mkF m 17 #[.val (.ref a1)] [(.int (1 : Int32))]))
    exact J6 _ (if_pos hc9).symm _ _ X5 e5 N0
theorem d4_0 : decode prog_69_method_2_code 0 = .ok (.aload_n 0, 1) := by decide +kernel
theorem d4_1 : decode prog_69_method_2_code 1 = .ok (.dup, 1) := by decide +kernel
theorem d4_2 : decode prog_69_method_2_code 2 = .ok (.getfield 13, 3) := by decide +kernel
theorem d4_5 : decode prog_69_method_2_code 5 = .ok (.lload_n 1, 1) := by decide +kernel
theorem d4_6 : decode prog_69_method_2_code 6 = .ok (.ladd, 1) := by decide +kernel
theorem d4_7 : decode prog_69_method_2_code 7 = .ok (.putfield 13, 3) := by decide +kernel
theorem d4_10 : decode prog_69_method_2_code 10 = .ok (.return_, 1) := by decide +kernel
def Q_rm4 (Z : State) (a1 : Addr) (q2 : Int64) (w3 : Int64) (u_cap_a1 : Value) (h0 : Heap) (n0 : Nat) (v : Option Value) (h : Heap) (L : List Loc) : Prop := v = none ∧ Fr n0 L ∧ Keep h0 h [a1] ∧ Fld Z h a1 "com/example/exact_table/exacttable/SizeCap" "counted" "J" (.long (w3 + q2)) ∧ Exa Z h a1 "com/example/exact_table/exacttable/SizeCap" ∧ Fld Z h a1 "com/example/exact_table/exacttable/SizeCap" "cap" "J" u_cap_a1
theorem ef_rm4 (m : MethodId) (x0 : Addr) (x1 : Int64) : entryFrame m #[(.ref x0), (.long x1)] 3 = mkF m 0 #[.val (.ref x0), .val (.long x1), .second] [] := by first | (simp [entryFrame, mkF, argsToLocals, Value.category]; done) | rfl
set_option maxRecDepth 65536 in
set_option maxHeartbeats 40000000 in
theorem rm4 (l : Launch) (Z : State) (a0 : Array Value) (hw : ∀ d ∈ tables_1, d.before a0 Z = true) (ws : List Jvm.Cond) (a1 : Addr) (q2 : Int64) (w3 : Int64) (u_cap_a1 : Value) (h0 : Heap) (n0 : Nat) (Z0 : n0 ≤ h0.size) (F_counted_a1 : Fld Z h0 a1 "com/example/exact_table/exacttable/SizeCap" "counted" "J" (.long w3)) (E_a1 : Exa Z h0 a1 "com/example/exact_table/exacttable/SizeCap") (g_a1 : n0 ≤ a1) (F_cap_a1 : Fld Z h0 a1 "com/example/exact_table/exacttable/SizeCap" "cap" "J" u_cap_a1) :
    MetFree l (⟨"com/example/exact_table/exacttable/SizeCap", "count", "(J)V"⟩ : MethodName) (head1 (Jvm.Cond.code (⟨"com/example/exact_table/exacttable/SizeCap", "count", "(J)V"⟩ : MethodName) prog_69_method_2_code 3 none :: ws) ({ frames := 0, cells := 0, slots := 0, locals := 0 } : Room)) (fun a U => a = #[(.ref a1), (.long q2)] ∧ Z.Warmed39 U.vm ∧ U.heap = h0) (fun _ _ _ _ _ => True) (fun _ U o U' => ∃ v L, o = .returned v ∧ Q_rm4 Z a1 q2 w3 u_cap_a1 h0 n0 v U'.heap L ∧ FrameEnd U o U' L ({ frames := 0, cells := 0, slots := 0, locals := 0 } : Room).cells ({ frames := 0, cells := 0, slots := 0, locals := 0 } : Room).slots) := by
  refine MetFree.of_bodySF (plainFor_of_name pn_0) hisR ?_
  intro p e s m args below meth c s₁ Bd hml0 hP hK
  obtain ⟨rfl, hZ, hh⟩ := hP
  have hx := Bd.exec
  have hby := Bd.bytes
  have hml : c.maxLocals = 3 := hml0
  have hown : s.vm.findClass "com/example/exact_table/exacttable/SizeCap" = some m.cls := findClass_of_methodNamed Bd.named
  have hnm := (name_of_methodNamed Bd.named Bd.method).1
  have X0 : Stand p l e ({ frames := 0, cells := 0, slots := 0, locals := 0 } : Room) s m #[(.ref a1), (.long q2)] below meth c s₁ [] 0 0 := Stand.of_body Bd
  have e0 : s₁.heap = h0 := by rw [← hh, Bd.state]; rfl
  have N0 := Fr.nil n0
  show Run p e below s 0 0 (Q_rm4 Z a1 q2 w3 u_cap_a1 h0 n0) (s₁.setTop (entryFrame m #[(.ref a1), (.long q2)] 3))
  refine Run.go (fun _ k => castTop (ef_rm4 m a1 q2) k) ?_
  show Run p e below s 0 0 (Q_rm4 Z a1 q2 w3 u_cap_a1 h0 n0) (s₁.setTop (mkF m 0 #[.val (.ref a1), .val (.long q2), .second] []))
  refine Run.go (fun _ k => XS.aloadN X0.here hx rfl (hb hby d4_0) rfl rfl k) ?_
  show Run p e below s 0 0 (Q_rm4 Z a1 q2 w3 u_cap_a1 h0 n0) (s₁.setTop (mkF m 1 #[.val (.ref a1), .val (.long q2), .second] [(.ref a1)]))
  refine Run.go (fun _ k => XS.dup X0.here hx rfl (hb hby d4_1) rfl rfl k) ?_
  show Run p e below s 0 0 (Q_rm4 Z a1 q2 w3 u_cap_a1 h0 n0) (s₁.setTop (mkF m 2 #[.val (.ref a1), .val (.long q2), .second] [(.ref a1), (.ref a1)]))
  obtain ⟨T4, X4, e4, st4⟩ := getF X0 hx hZ hown (host := "") (Or.inl (hw _ (List.mem_of_getElem? (i := 17) rfl))) Via.refl e0 F_counted_a1 (g := (mkF m 2 #[.val (.ref a1), .val (.long q2), .second] [(.ref a1), (.ref a1)])) rfl rfl (hb hby d4_2)
  refine Run.go st4 ?_
  show Run p e below s 0 0 (Q_rm4 Z a1 q2 w3 u_cap_a1 h0 n0) (T4.setTop (mkF m 5 #[.val (.ref a1), .val (.long q2), .second] [(.long w3), (.ref a1)]))
  refine Run.go (fun _ k => XS.lloadN X4.here hx rfl (hb hby d4_5) rfl  k) ?_
  show Run p e below s 0 0 (Q_rm4 Z a1 q2 w3 u_cap_a1 h0 n0) (T4.setTop (mkF m 6 #[.val (.ref a1), .val (.long q2), .second] [(.long q2), (.long w3), (.ref a1)]))
  refine Run.go (fun _ k => XS.ladd X4.here hx rfl (hb hby d4_6) rfl k) ?_
  show Run p e below s 0 0 (Q_rm4 Z a1 q2 w3 u_cap_a1 h0 n0) (T4.setTop (mkF m 7 #[.val (.ref a1), .val (.long q2), .second] [(.long (w3 + q2)), (.ref a1)]))
  obtain ⟨T5, h5, X5, e5, W5, st5⟩ := putF X4 hx hZ hown (host := "") (Or.inl (hw _ (List.mem_of_getElem? (i := 17) rfl))) Via.refl e4 F_counted_a1 E_a1 (Or.inl (hw _ (List.mem_of_getElem? (i := 18) rfl))) (hw _ (List.mem_of_getElem? (i := 2) rfl)) (ty := .long) (by decide) rfl rfl (g := (mkF m 7 #[.val (.ref a1), .val (.long q2), .second] [(.long (w3 + q2)), (.ref a1)])) rfl rfl (hb hby d4_7)
  have N5 := Fr.snoc X5 N0 g_a1
  have Z5 : n0 ≤ h5.size := Nat.le_trans Z0 (Keep.of_wr W5).1
  have K5 : Keep h0 h5 [a1] := (Keep.refl h0 [a1]).wr W5 (Or.inl (List.mem_of_getElem? (i := 0) rfl))
  have fx6 := F_counted_a1.same W5
  refine Run.go st5 ?_
  show Run p e below s 0 0 (Q_rm4 Z a1 q2 w3 u_cap_a1 h0 n0) (T5.setTop (mkF m 10 #[.val (.ref a1), .val (.long q2), .second] []))
  refine Run.ret0 X5 hx Bd.returns Bd.notSynchronized (hb hby d4_10) (by decide) (by decide) ?_
  show Q_rm4 Z a1 q2 w3 u_cap_a1 h0 n0 _ T5.heap _
  have fx7 := (E_a1.wr W5)
  have fx8 := (F_cap_a1.other W5 (Or.inr (slot_ne (Or.inr (hw _ (List.mem_of_getElem? (i := 11) rfl))) (Or.inl (hw _ (List.mem_of_getElem? (i := 18) rfl))) (by decide) (t := .long) (t' := .long) (by decide) (by decide))))
  rw [e5]
  exact ⟨rfl, N5, K5, fx6, fx7, fx8⟩
theorem pd_0 : parseMethodDescriptor "(J)V" = some ⟨[.long], none⟩ := by decide +kernel
theorem pd_1 : parseMethodDescriptor "()Z" = some ⟨[], some .boolean⟩ := by decide +kernel
def Q_rm0 (Z : State) (q1 : Int64) (p2 : Int32) (p3 : Int32) (p4 : Int32) (h0 : Heap) (n0 : Nat) (v : Option Value) (h : Heap) (L : List Loc) : Prop := v = some (.int 1) ∧ Fr n0 L
theorem ef_rm0 (m : MethodId) (x0 : Int64) (x1 : Int32) (x2 : Int32) (x3 : Int32) : entryFrame m #[(.long x0), (.int x1), (.int x2), (.int x3)] maxLocals = mkF m 0 #[.val (.long x0), .second, .val (.int x1), .val (.int x2), .val (.int x3), .unset, .unset, .unset, .unset, .unset, .unset, .unset, .unset, .unset, .unset, .unset, .unset, .unset, .unset, .unset, .unset] [] := by first | (simp [entryFrame, mkF, argsToLocals, Value.category, maxLocals]; done) | rfl
theorem pn_1 : plainName "com/example/exact_table/exacttable/SizeCapReachedPinLaw" = true := by first | (simp [plainName, overriddenIn]; done) | decide +kernel
set_option maxRecDepth 65536 in
set_option maxHeartbeats 40000000 in
theorem rm0 (l : Launch) (Z : State) (a0 : Array Value) (hw : ∀ d ∈ tables_1, d.before a0 Z = true) (ws : List Jvm.Cond) (q1 : Int64) (p2 : Int32) (p3 : Int32) (p4 : Int32) (h0 : Heap) (n0 : Nat) (Z0 : n0 ≤ h0.size)  :
    MetFree l x (head1 (Jvm.Cond.code x code maxLocals ret :: ws) room_1) (fun a U => a = #[(.long q1), (.int p2), (.int p3), (.int p4)] ∧ Z.Warmed39 U.vm ∧ U.heap = h0) (fun _ _ _ _ _ => True) (fun _ U o U' => ∃ v L, o = .returned v ∧ Q_rm0 Z q1 p2 p3 p4 h0 n0 v U'.heap L ∧ FrameEnd U o U' L 1 2) := by
  refine MetFree.of_bodySF (plainFor_of_name pn_1) hisR ?_
  intro p e s m args below meth c s₁ Bd hml0 hP hK
  obtain ⟨rfl, hZ, hh⟩ := hP
  have hx := Bd.exec
  have hby := Bd.bytes
  have hml : c.maxLocals = 21 := hml0
  have hown : s.vm.findClass "com/example/exact_table/exacttable/SizeCapReachedPinLaw" = some m.cls := findClass_of_methodNamed Bd.named
  have hnm := (name_of_methodNamed Bd.named Bd.method).1
  have X0 : Stand p l e room_1 s m #[(.long q1), (.int p2), (.int p3), (.int p4)] below meth c s₁ [] 0 0 := Stand.of_body Bd
  have e0 : s₁.heap = h0 := by rw [← hh, Bd.state]; rfl
  have N0 := Fr.nil n0
  show Run p e below s 1 2 (Q_rm0 Z q1 p2 p3 p4 h0 n0) (s₁.setTop (entryFrame m #[(.long q1), (.int p2), (.int p3), (.int p4)] maxLocals))
  refine Run.go (fun _ k => castTop (ef_rm0 m q1 p2 p3 p4) k) ?_
  show Run p e below s 1 2 (Q_rm0 Z q1 p2 p3 p4 h0 n0) (s₁.setTop (mkF m 0 #[.val (.long q1), .second, .val (.int p2), .val (.int p3), .val (.int p4), .unset, .unset, .unset, .unset, .unset, .unset, .unset, .unset, .unset, .unset, .unset, .unset, .unset, .unset, .unset, .unset] []))
  refine Run.go (fun _ k => XS.iloadN X0.here hx rfl (hb hby at_0) rfl  k) ?_
  show Run p e below s 1 2 (Q_rm0 Z q1 p2 p3 p4 h0 n0) (s₁.setTop (mkF m 1 #[.val (.long q1), .second, .val (.int p2), .val (.int p3), .val (.int p4), .unset, .unset, .unset, .unset, .unset, .unset, .unset, .unset, .unset, .unset, .unset, .unset, .unset, .unset, .unset, .unset] [(.int p2)]))
  refine Run.go (fun _ k => XS.i2l X0.here hx rfl (hb hby at_1) rfl k) ?_
  show Run p e below s 1 2 (Q_rm0 Z q1 p2 p3 p4 h0 n0) (s₁.setTop (mkF m 2 #[.val (.long q1), .second, .val (.int p2), .val (.int p3), .val (.int p4), .unset, .unset, .unset, .unset, .unset, .unset, .unset, .unset, .unset, .unset, .unset, .unset, .unset, .unset, .unset, .unset] [(.long (p2.toInt64))]))
  refine Run.go (fun _ k => X0.ldc2Long hx hown (mvT hZ (hw _ (List.mem_of_getElem? (i := 0) rfl))) (g := (mkF m 2 #[.val (.long q1), .second, .val (.int p2), .val (.int p3), .val (.int p4), .unset, .unset, .unset, .unset, .unset, .unset, .unset, .unset, .unset, .unset, .unset, .unset, .unset, .unset, .unset, .unset] [(.long (p2.toInt64))])) rfl (hb hby at_2) _ k) ?_
  show Run p e below s 1 2 (Q_rm0 Z q1 p2 p3 p4 h0 n0) (s₁.setTop (mkF m 5 #[.val (.long q1), .second, .val (.int p2), .val (.int p3), .val (.int p4), .unset, .unset, .unset, .unset, .unset, .unset, .unset, .unset, .unset, .unset, .unset, .unset, .unset, .unset, .unset, .unset] [(.long (2147483647 : Int64)), (.long (p2.toInt64))]))
  refine Run.go (fun _ k => XS.land X0.here hx rfl (hb hby at_5) rfl k) ?_
  show Run p e below s 1 2 (Q_rm0 Z q1 p2 p3 p4 h0 n0) (s₁.setTop (mkF m 6 #[.val (.long q1), .second, .val (.int p2), .val (.int p3), .val (.int p4), .unset, .unset, .unset, .unset, .unset, .unset, .unset, .unset, .unset, .unset, .unset, .unset, .unset, .unset, .unset, .unset] [(.long ((p2.toInt64) &&& (2147483647 : Int64)))]))
  refine Run.go (fun _ k => XS.lstore X0.here hx rfl (hb hby at_6) rfl (l' := #[.val (.long q1), .second, .val (.int p2), .val (.int p3), .val (.int p4), .val (.long ((p2.toInt64) &&& (2147483647 : Int64))), .second, .unset, .unset, .unset, .unset, .unset, .unset, .unset, .unset, .unset, .unset, .unset, .unset, .unset, .unset]) rfl k) ?_
  show Run p e below s 1 2 (Q_rm0 Z q1 p2 p3 p4 h0 n0) (s₁.setTop (mkF m 8 #[.val (.long q1), .second, .val (.int p2), .val (.int p3), .val (.int p4), .val (.long ((p2.toInt64) &&& (2147483647 : Int64))), .second, .unset, .unset, .unset, .unset, .unset, .unset, .unset, .unset, .unset, .unset, .unset, .unset, .unset, .unset] []))
  obtain ⟨z5, hz5⟩ : ∃ z, z = ((p2.toInt64) &&& (2147483647 : Int64)) := ⟨_, rfl⟩
  rw [← hz5]
  show Run p e below s 1 2 (Q_rm0 Z q1 p2 p3 p4 h0 n0) (s₁.setTop (mkF m 8 #[.val (.long q1), .second, .val (.int p2), .val (.int p3), .val (.int p4), .val (.long z5), .second, .unset, .unset, .unset, .unset, .unset, .unset, .unset, .unset, .unset, .unset, .unset, .unset, .unset, .unset] []))
  refine Run.go (fun _ k => XS.iloadN X0.here hx rfl (hb hby at_8) rfl  k) ?_
  show Run p e below s 1 2 (Q_rm0 Z q1 p2 p3 p4 h0 n0) (s₁.setTop (mkF m 9 #[.val (.long q1), .second, .val (.int p2), .val (.int p3), .val (.int p4), .val (.long z5), .second, .unset, .unset, .unset, .unset, .unset, .unset, .unset, .unset, .unset, .unset, .unset, .unset, .unset, .unset] [(.int p3)]))
  refine Run.go (fun _ k => XS.i2l X0.here hx rfl (hb hby at_9) rfl k) ?_
  show Run p e below s 1 2 (Q_rm0 Z q1 p2 p3 p4 h0 n0) (s₁.setTop (mkF m 10 #[.val (.long q1), .second, .val (.int p2), .val (.int p3), .val (.int p4), .val (.long z5), .second, .unset, .unset, .unset, .unset, .unset, .unset, .unset, .unset, .unset, .unset, .unset, .unset, .unset, .unset] [(.long (p3.toInt64))]))
  refine Run.go (fun _ k => X0.ldc2Long hx hown (mvT hZ (hw _ (List.mem_of_getElem? (i := 0) rfl))) (g := (mkF m 10 #[.val (.long q1), .second, .val (.int p2), .val (.int p3), .val (.int p4), .val (.long z5), .second, .unset, .unset, .unset, .unset, .unset, .unset, .unset, .unset, .unset, .unset, .unset, .unset, .unset, .unset] [(.long (p3.toInt64))])) rfl (hb hby at_10) _ k) ?_
  show Run p e below s 1 2 (Q_rm0 Z q1 p2 p3 p4 h0 n0) (s₁.setTop (mkF m 13 #[.val (.long q1), .second, .val (.int p2), .val (.int p3), .val (.int p4), .val (.long z5), .second, .unset, .unset, .unset, .unset, .unset, .unset, .unset, .unset, .unset, .unset, .unset, .unset, .unset, .unset] [(.long (2147483647 : Int64)), (.long (p3.toInt64))]))
  refine Run.go (fun _ k => XS.land X0.here hx rfl (hb hby at_13) rfl k) ?_
  show Run p e below s 1 2 (Q_rm0 Z q1 p2 p3 p4 h0 n0) (s₁.setTop (mkF m 14 #[.val (.long q1), .second, .val (.int p2), .val (.int p3), .val (.int p4), .val (.long z5), .second, .unset, .unset, .unset, .unset, .unset, .unset, .unset, .unset, .unset, .unset, .unset, .unset, .unset, .unset] [(.long ((p3.toInt64) &&& (2147483647 : Int64)))]))
  refine Run.go (fun _ k => XS.lstore X0.here hx rfl (hb hby at_14) rfl (l' := #[.val (.long q1), .second, .val (.int p2), .val (.int p3), .val (.int p4), .val (.long z5), .second, .val (.long ((p3.toInt64) &&& (2147483647 : Int64))), .second, .unset, .unset, .unset, .unset, .unset, .unset, .unset, .unset, .unset, .unset, .unset, .unset]) rfl k) ?_
  show Run p e below s 1 2 (Q_rm0 Z q1 p2 p3 p4 h0 n0) (s₁.setTop (mkF m 16 #[.val (.long q1), .second, .val (.int p2), .val (.int p3), .val (.int p4), .val (.long z5), .second, .val (.long ((p3.toInt64) &&& (2147483647 : Int64))), .second, .unset, .unset, .unset, .unset, .unset, .unset, .unset, .unset, .unset, .unset, .unset, .unset] []))
  obtain ⟨z6, hz6⟩ : ∃ z, z = ((p3.toInt64) &&& (2147483647 : Int64)) := ⟨_, rfl⟩
  rw [← hz6]
  show Run p e below s 1 2 (Q_rm0 Z q1 p2 p3 p4 h0 n0) (s₁.setTop (mkF m 16 #[.val (.long q1), .second, .val (.int p2), .val (.int p3), .val (.int p4), .val (.long z5), .second, .val (.long z6), .second, .unset, .unset, .unset, .unset, .unset, .unset, .unset, .unset, .unset, .unset, .unset, .unset] []))
  refine Run.go (fun _ k => XS.iload X0.here hx rfl (hb hby at_16) rfl  k) ?_
  show Run p e below s 1 2 (Q_rm0 Z q1 p2 p3 p4 h0 n0) (s₁.setTop (mkF m 18 #[.val (.long q1), .second, .val (.int p2), .val (.int p3), .val (.int p4), .val (.long z5), .second, .val (.long z6), .second, .unset, .unset, .unset, .unset, .unset, .unset, .unset, .unset, .unset, .unset, .unset, .unset] [(.int p4)]))
  refine Run.go (fun _ k => XS.iconst X0.here hx rfl (hb hby at_18) k) ?_
  show Run p e below s 1 2 (Q_rm0 Z q1 p2 p3 p4 h0 n0) (s₁.setTop (mkF m 19 #[.val (.long q1), .second, .val (.int p2), .val (.int p3), .val (.int p4), .val (.long z5), .second, .val (.long z6), .second, .unset, .unset, .unset, .unset, .unset, .unset, .unset, .unset, .unset, .unset, .unset, .unset] [(.int (2 : Int32)), (.int p4)]))
  refine Run.go (fun _ k => XS.ishr X0.here hx rfl (hb hby at_19) rfl k) ?_
  show Run p e below s 1 2 (Q_rm0 Z q1 p2 p3 p4 h0 n0) (s₁.setTop (mkF m 20 #[.val (.long q1), .second, .val (.int p2), .val (.int p3), .val (.int p4), .val (.long z5), .second, .val (.long z6), .second, .unset, .unset, .unset, .unset, .unset, .unset, .unset, .unset, .unset, .unset, .unset, .unset] [(.int (p4 >>> ((2 : Int32) &&& 31)))]))
  refine Run.go (fun _ k => XS.iconst X0.here hx rfl (hb hby at_20) k) ?_
  show Run p e below s 1 2 (Q_rm0 Z q1 p2 p3 p4 h0 n0) (s₁.setTop (mkF m 21 #[.val (.long q1), .second, .val (.int p2), .val (.int p3), .val (.int p4), .val (.long z5), .second, .val (.long z6), .second, .unset, .unset, .unset, .unset, .unset, .unset, .unset, .unset, .unset, .unset, .unset, .unset] [(.int (3 : Int32)), (.int (p4 >>> ((2 : Int32) &&& 31)))]))
  refine Run.go (fun _ k => XS.iand X0.here hx rfl (hb hby at_21) rfl k) ?_
  show Run p e below s 1 2 (Q_rm0 Z q1 p2 p3 p4 h0 n0) (s₁.setTop (mkF m 22 #[.val (.long q1), .second, .val (.int p2), .val (.int p3), .val (.int p4), .val (.long z5), .second, .val (.long z6), .second, .unset, .unset, .unset, .unset, .unset, .unset, .unset, .unset, .unset, .unset, .unset, .unset] [(.int ((p4 >>> ((2 : Int32) &&& 31)) &&& (3 : Int32)))]))
  refine Run.go (fun _ k => XS.iconst X0.here hx rfl (hb hby at_22) k) ?_
  show Run p e below s 1 2 (Q_rm0 Z q1 p2 p3 p4 h0 n0) (s₁.setTop (mkF m 23 #[.val (.long q1), .second, .val (.int p2), .val (.int p3), .val (.int p4), .val (.long z5), .second, .val (.long z6), .second, .unset, .unset, .unset, .unset, .unset, .unset, .unset, .unset, .unset, .unset, .unset, .unset] [(.int (1 : Int32)), (.int ((p4 >>> ((2 : Int32) &&& 31)) &&& (3 : Int32)))]))
  refine Run.go (fun _ k => XS.isub X0.here hx rfl (hb hby at_23) rfl k) ?_
  show Run p e below s 1 2 (Q_rm0 Z q1 p2 p3 p4 h0 n0) (s₁.setTop (mkF m 24 #[.val (.long q1), .second, .val (.int p2), .val (.int p3), .val (.int p4), .val (.long z5), .second, .val (.long z6), .second, .unset, .unset, .unset, .unset, .unset, .unset, .unset, .unset, .unset, .unset, .unset, .unset] [(.int (((p4 >>> ((2 : Int32) &&& 31)) &&& (3 : Int32)) - (1 : Int32)))]))
  refine Run.go (fun _ k => XS.i2l X0.here hx rfl (hb hby at_24) rfl k) ?_
  show Run p e below s 1 2 (Q_rm0 Z q1 p2 p3 p4 h0 n0) (s₁.setTop (mkF m 25 #[.val (.long q1), .second, .val (.int p2), .val (.int p3), .val (.int p4), .val (.long z5), .second, .val (.long z6), .second, .unset, .unset, .unset, .unset, .unset, .unset, .unset, .unset, .unset, .unset, .unset, .unset] [(.long ((((p4 >>> ((2 : Int32) &&& 31)) &&& (3 : Int32)) - (1 : Int32)).toInt64))]))
  refine Run.go (fun _ k => XS.lstore X0.here hx rfl (hb hby at_25) rfl (l' := #[.val (.long q1), .second, .val (.int p2), .val (.int p3), .val (.int p4), .val (.long z5), .second, .val (.long z6), .second, .val (.long ((((p4 >>> ((2 : Int32) &&& 31)) &&& (3 : Int32)) - (1 : Int32)).toInt64)), .second, .unset, .unset, .unset, .unset, .unset, .unset, .unset, .unset, .unset, .unset]) rfl k) ?_
  show Run p e below s 1 2 (Q_rm0 Z q1 p2 p3 p4 h0 n0) (s₁.setTop (mkF m 27 #[.val (.long q1), .second, .val (.int p2), .val (.int p3), .val (.int p4), .val (.long z5), .second, .val (.long z6), .second, .val (.long ((((p4 >>> ((2 : Int32) &&& 31)) &&& (3 : Int32)) - (1 : Int32)).toInt64)), .second, .unset, .unset, .unset, .unset, .unset, .unset, .unset, .unset, .unset, .unset] []))
  obtain ⟨z7, hz7⟩ : ∃ z, z = ((((p4 >>> ((2 : Int32) &&& 31)) &&& (3 : Int32)) - (1 : Int32)).toInt64) := ⟨_, rfl⟩
  rw [← hz7]
  show Run p e below s 1 2 (Q_rm0 Z q1 p2 p3 p4 h0 n0) (s₁.setTop (mkF m 27 #[.val (.long q1), .second, .val (.int p2), .val (.int p3), .val (.int p4), .val (.long z5), .second, .val (.long z6), .second, .val (.long z7), .second, .unset, .unset, .unset, .unset, .unset, .unset, .unset, .unset, .unset, .unset] []))
  refine Run.go (fun _ k => XS.iload X0.here hx rfl (hb hby at_27) rfl  k) ?_
  show Run p e below s 1 2 (Q_rm0 Z q1 p2 p3 p4 h0 n0) (s₁.setTop (mkF m 29 #[.val (.long q1), .second, .val (.int p2), .val (.int p3), .val (.int p4), .val (.long z5), .second, .val (.long z6), .second, .val (.long z7), .second, .unset, .unset, .unset, .unset, .unset, .unset, .unset, .unset, .unset, .unset] [(.int p4)]))
  refine Run.go (fun _ k => XS.iconst X0.here hx rfl (hb hby at_29) k) ?_
  show Run p e below s 1 2 (Q_rm0 Z q1 p2 p3 p4 h0 n0) (s₁.setTop (mkF m 30 #[.val (.long q1), .second, .val (.int p2), .val (.int p3), .val (.int p4), .val (.long z5), .second, .val (.long z6), .second, .val (.long z7), .second, .unset, .unset, .unset, .unset, .unset, .unset, .unset, .unset, .unset, .unset] [(.int (3 : Int32)), (.int p4)]))
  refine Run.go (fun _ k => XS.iand X0.here hx rfl (hb hby at_30) rfl k) ?_
  show Run p e below s 1 2 (Q_rm0 Z q1 p2 p3 p4 h0 n0) (s₁.setTop (mkF m 31 #[.val (.long q1), .second, .val (.int p2), .val (.int p3), .val (.int p4), .val (.long z5), .second, .val (.long z6), .second, .val (.long z7), .second, .unset, .unset, .unset, .unset, .unset, .unset, .unset, .unset, .unset, .unset] [(.int (p4 &&& (3 : Int32)))]))
  refine Run.go (fun _ k => XS.istore X0.here hx rfl (hb hby at_31) rfl (l' := #[.val (.long q1), .second, .val (.int p2), .val (.int p3), .val (.int p4), .val (.long z5), .second, .val (.long z6), .second, .val (.long z7), .second, .val (.int (p4 &&& (3 : Int32))), .unset, .unset, .unset, .unset, .unset, .unset, .unset, .unset, .unset]) rfl k) ?_
  show Run p e below s 1 2 (Q_rm0 Z q1 p2 p3 p4 h0 n0) (s₁.setTop (mkF m 33 #[.val (.long q1), .second, .val (.int p2), .val (.int p3), .val (.int p4), .val (.long z5), .second, .val (.long z6), .second, .val (.long z7), .second, .val (.int (p4 &&& (3 : Int32))), .unset, .unset, .unset, .unset, .unset, .unset, .unset, .unset, .unset] []))
  obtain ⟨z8, hz8⟩ : ∃ z, z = (p4 &&& (3 : Int32)) := ⟨_, rfl⟩
  rw [← hz8]
  show Run p e below s 1 2 (Q_rm0 Z q1 p2 p3 p4 h0 n0) (s₁.setTop (mkF m 33 #[.val (.long q1), .second, .val (.int p2), .val (.int p3), .val (.int p4), .val (.long z5), .second, .val (.long z6), .second, .val (.long z7), .second, .val (.int z8), .unset, .unset, .unset, .unset, .unset, .unset, .unset, .unset, .unset] []))
  refine Run.go (fun _ k => XS.iload X0.here hx rfl (hb hby at_33) rfl  k) ?_
  show Run p e below s 1 2 (Q_rm0 Z q1 p2 p3 p4 h0 n0) (s₁.setTop (mkF m 35 #[.val (.long q1), .second, .val (.int p2), .val (.int p3), .val (.int p4), .val (.long z5), .second, .val (.long z6), .second, .val (.long z7), .second, .val (.int z8), .unset, .unset, .unset, .unset, .unset, .unset, .unset, .unset, .unset] [(.int z8)]))
  have J9 : ∀ (w10 : Int64) (hw10 : w10 = (if (z8 = (0 : Int32)) then q1 else (if (z8 = (1 : Int32)) then (z5 + z7) else (if (z8 = (2 : Int32)) then ((z5 + z6) + z7) else z7)))) (T11 : State) (L11 : List Loc) (X11 : Stand p l e room_1 s m #[(.long q1), (.int p2), (.int p3), (.int p4)] below meth c T11 L11 0 0) (e11 : T11.heap = h0) (N11 : Fr n0 L11), Run p e below s 1 2 (Q_rm0 Z q1 p2 p3 p4 h0 n0) (T11.setTop (mkF m 83 #[.val (.long q1), .second, .val (.int p2), .val (.int p3), .val (.int p4), .val (.long z5), .second, .val (.long z6), .second, .val (.long z7), .second, .val (.int z8), .val (.long w10), .second, .unset, .unset, .unset, .unset, .unset, .unset, .unset] [])) := by
    intro w10 hw10 T11 L11 X11 e11 N11
    show Run p e below s 1 2 (Q_rm0 Z q1 p2 p3 p4 h0 n0) (T11.setTop (mkF m 83 #[.val (.long q1), .second, .val (.int p2), .val (.int p3), .val (.int p4), .val (.long z5), .second, .val (.long z6), .second, .val (.long z7), .second, .val (.int z8), .val (.long w10), .second, .unset, .unset, .unset, .unset, .unset, .unset, .unset] []))
    obtain ⟨T12, h12, X12, e12, E12, A12, D12, -, st12⟩ := newO X11 hx hZ hown (hw _ (List.mem_of_getElem? (i := 1) rfl)) (hw _ (List.mem_of_getElem? (i := 2) rfl)) (hw _ (List.mem_of_getElem? (i := 3) rfl)) e11 (g := (mkF m 83 #[.val (.long q1), .second, .val (.int p2), .val (.int p3), .val (.int p4), .val (.long z5), .second, .val (.long z6), .second, .val (.long z7), .second, .val (.int z8), .val (.long w10), .second, .unset, .unset, .unset, .unset, .unset, .unset, .unset] [])) rfl (hb hby at_83) (by decide) (by decide)
    obtain ⟨b12, g12⟩ : ∃ z, z = h0.size := ⟨_, rfl⟩
    rw [← g12] at A12 D12 st12
    have g_b12 : n0 ≤ b12 := Nat.le_trans Z0 (Nat.le_of_eq g12.symm)
    have Z12 : n0 ≤ h12.size := Nat.le_trans Z0 E12.1
    have fx13 : Fld Z h12 b12 "com/example/exact_table/exacttable/SizeCap" "cap" "J" (.long (0 : Int64)) := D12 (Or.inr (hw _ (List.mem_of_getElem? (i := 11) rfl))) (ty := .long) (by decide)
    have fx14 : Fld Z h12 b12 "com/example/exact_table/exacttable/SizeCap" "counted" "J" (.long (0 : Int64)) := D12 (Or.inl (hw _ (List.mem_of_getElem? (i := 18) rfl))) (ty := .long) (by decide)
    refine Run.go st12 ?_
    show Run p e below s 1 2 (Q_rm0 Z q1 p2 p3 p4 h0 n0) (T12.setTop (mkF m 86 #[.val (.long q1), .second, .val (.int p2), .val (.int p3), .val (.int p4), .val (.long z5), .second, .val (.long z6), .second, .val (.long z7), .second, .val (.int z8), .val (.long w10), .second, .unset, .unset, .unset, .unset, .unset, .unset, .unset] [(.ref b12)]))
    refine Run.go (fun _ k => XS.dup X12.here hx rfl (hb hby at_86) rfl rfl k) ?_
    show Run p e below s 1 2 (Q_rm0 Z q1 p2 p3 p4 h0 n0) (T12.setTop (mkF m 87 #[.val (.long q1), .second, .val (.int p2), .val (.int p3), .val (.int p4), .val (.long z5), .second, .val (.long z6), .second, .val (.long z7), .second, .val (.int z8), .val (.long w10), .second, .unset, .unset, .unset, .unset, .unset, .unset, .unset] [(.ref b12), (.ref b12)]))
    refine Run.go (fun _ k => XS.lload X12.here hx rfl (hb hby at_87) rfl  k) ?_
    show Run p e below s 1 2 (Q_rm0 Z q1 p2 p3 p4 h0 n0) (T12.setTop (mkF m 89 #[.val (.long q1), .second, .val (.int p2), .val (.int p3), .val (.int p4), .val (.long z5), .second, .val (.long z6), .second, .val (.long z7), .second, .val (.int z8), .val (.long w10), .second, .unset, .unset, .unset, .unset, .unset, .unset, .unset] [(.long w10), (.ref b12), (.ref b12)]))
    obtain ⟨_, _, ⟨T15, L15, k15, n15⟩, -, X15, ⟨Lc15, hQ15, l15, y15, z15⟩, st15⟩ := X12.specialBack hx (y := (⟨"com/example/exact_table/exacttable/SizeCap", "<init>", "(J)V"⟩ : MethodName)) rfl hown (mvT hZ (hw _ (List.mem_of_getElem? (i := 4) rfl))) (mvT hZ (hw _ (List.mem_of_getElem? (i := 5) rfl))) (mvT hZ (hw _ (List.mem_of_getElem? (i := 6) rfl))) (by decide) (backOf (W := 1) (rm1 l Z a0 hw [] b12 w10 (.long (0 : Int64)) (.long (0 : Int64)) h12 n0 Z12 A12 fx13 g_b12 fx14) hZ (hw _ (List.mem_of_getElem? (i := 6) rfl)) (hw _ (List.mem_of_getElem? (i := 3) rfl)) (by decide) (by decide)) (g := (mkF m 89 #[.val (.long q1), .second, .val (.int p2), .val (.int p3), .val (.int p4), .val (.long z5), .second, .val (.long z6), .second, .val (.long z7), .second, .val (.int z8), .val (.long w10), .second, .unset, .unset, .unset, .unset, .unset, .unset, .unset] [(.long w10), (.ref b12), (.ref b12)])) rfl (by rw [hml]; rfl) (Steps.refl _) (a := b12) (argsL := [(.long w10)]) (rest := [(.ref b12)]) (lenOf pd_0 rfl) rfl (by show 2 * 0 + _ ≤ _; exact Nat.le_of_eq rfl) (hb hby at_89) (fun _ _ => ⟨rfl, e12, (by decide : 1 + 0 ≤ _), (by decide : 2 + 0 ≤ _)⟩)
    dsimp only [Pt.U, Pt.locs, Pt.cells, Pt.slots] at X15 l15 y15 z15 st15 hQ15
    subst l15 y15 z15
    obtain ⟨rfl, N15q, K15q, fq15_0, fq15_1, fq15_2⟩ := hQ15
    have N15 := Fr.app N11 N15q
    have Z15 : n0 ≤ T15.heap.size := Nat.le_trans Z12 K15q.1
    refine Run.tr st15 ?_
    show Run p e below s 1 2 (Q_rm0 Z q1 p2 p3 p4 h0 n0) (T15.setTop (mkF m 92 #[.val (.long q1), .second, .val (.int p2), .val (.int p3), .val (.int p4), .val (.long z5), .second, .val (.long z6), .second, .val (.long z7), .second, .val (.int z8), .val (.long w10), .second, .unset, .unset, .unset, .unset, .unset, .unset, .unset] [(.ref b12)]))
    refine Run.go (fun _ k => XS.astore X15.here hx rfl (hb hby at_92) rfl rfl (l' := #[.val (.long q1), .second, .val (.int p2), .val (.int p3), .val (.int p4), .val (.long z5), .second, .val (.long z6), .second, .val (.long z7), .second, .val (.int z8), .val (.long w10), .second, .val (.ref b12), .unset, .unset, .unset, .unset, .unset, .unset]) rfl k) ?_
    show Run p e below s 1 2 (Q_rm0 Z q1 p2 p3 p4 h0 n0) (T15.setTop (mkF m 94 #[.val (.long q1), .second, .val (.int p2), .val (.int p3), .val (.int p4), .val (.long z5), .second, .val (.long z6), .second, .val (.long z7), .second, .val (.int z8), .val (.long w10), .second, .val (.ref b12), .unset, .unset, .unset, .unset, .unset, .unset] []))
    refine Run.go (fun _ k => XS.aload X15.here hx rfl (hb hby at_94) rfl rfl k) ?_
    show Run p e below s 1 2 (Q_rm0 Z q1 p2 p3 p4 h0 n0) (T15.setTop (mkF m 96 #[.val (.long q1), .second, .val (.int p2), .val (.int p3), .val (.int p4), .val (.long z5), .second, .val (.long z6), .second, .val (.long z7), .second, .val (.int z8), .val (.long w10), .second, .val (.ref b12), .unset, .unset, .unset, .unset, .unset, .unset] [(.ref b12)]))
    obtain ⟨cq16, kq16, q16a, q16b, q16c⟩ := isOf hZ rfl fq15_0
    obtain ⟨_, _, ⟨T16, L16, k16, n16⟩, -, X16, ⟨Lc16, hQ16, l16, y16, z16⟩, st16⟩ := X15.virtualBack hx (y := (⟨"com/example/exact_table/exacttable/SizeCap", "reached", "()Z"⟩ : MethodName)) (z := (⟨"com/example/exact_table/exacttable/SizeCap", "reached", "()Z"⟩ : MethodName)) hown (mvT hZ (hw _ (List.mem_of_getElem? (i := 12) rfl))) (mvT hZ (hw _ (List.mem_of_getElem? (i := 13) rfl))) (notFace_of_selects (args := #[]) (mvT hZ (hw _ (List.mem_of_getElem? (i := 15) rfl)))) (mvT hZ (hw _ (List.mem_of_getElem? (i := 15) rfl))) (mvT hZ (hw _ (List.mem_of_getElem? (i := 14) rfl))) (by decide) (backOf (W := 0) (rm3 l Z a0 hw [] b12 (0 : Int64) w10 T15.heap n0 Z15 fq15_2 fq15_1) hZ (hw _ (List.mem_of_getElem? (i := 16) rfl)) (hw _ (List.mem_of_getElem? (i := 3) rfl)) (by decide) (by decide)) q16a q16c (g := (mkF m 96 #[.val (.long q1), .second, .val (.int p2), .val (.int p3), .val (.int p4), .val (.long z5), .second, .val (.long z6), .second, .val (.long z7), .second, .val (.int z8), .val (.long w10), .second, .val (.ref b12), .unset, .unset, .unset, .unset, .unset, .unset] [(.ref b12)])) rfl (by rw [hml]; rfl) (Steps.refl _) (argsL := []) (rest := []) (lenOf pd_1 rfl) rfl (by show 2 * 0 + _ ≤ _; exact Nat.le_of_eq rfl) (hb hby at_96) (fun _ _ => ⟨rfl, rfl, (by decide : 1 + 0 ≤ _), (by decide : 2 + 0 ≤ _)⟩)
    dsimp only [Pt.U, Pt.locs, Pt.cells, Pt.slots] at X16 l16 y16 z16 st16 hQ16
    subst l16 y16 z16
    obtain ⟨rfl, N16q, e16q⟩ := hQ16
    have N16 := Fr.app N15 N16q
    refine Run.tr st16 ?_
    show Run p e below s 1 2 (Q_rm0 Z q1 p2 p3 p4 h0 n0) (T16.setTop (mkF m 99 #[.val (.long q1), .second, .val (.int p2), .val (.int p3), .val (.int p4), .val (.long z5), .second, .val (.long z6), .second, .val (.long z7), .second, .val (.int z8), .val (.long w10), .second, .val (.ref b12), .unset, .unset, .unset, .unset, .unset, .unset] [(.int (F_rm3 (0 : Int64) w10))]))
    refine Run.go (fun _ k => XS.istore X16.here hx rfl (hb hby at_99) rfl (l' := #[.val (.long q1), .second, .val (.int p2), .val (.int p3), .val (.int p4), .val (.long z5), .second, .val (.long z6), .second, .val (.long z7), .second, .val (.int z8), .val (.long w10), .second, .val (.ref b12), .val (.int (F_rm3 (0 : Int64) w10)), .unset, .unset, .unset, .unset, .unset]) rfl k) ?_
    show Run p e below s 1 2 (Q_rm0 Z q1 p2 p3 p4 h0 n0) (T16.setTop (mkF m 101 #[.val (.long q1), .second, .val (.int p2), .val (.int p3), .val (.int p4), .val (.long z5), .second, .val (.long z6), .second, .val (.long z7), .second, .val (.int z8), .val (.long w10), .second, .val (.ref b12), .val (.int (F_rm3 (0 : Int64) w10)), .unset, .unset, .unset, .unset, .unset] []))
    refine Run.go (fun _ k => XS.aload X16.here hx rfl (hb hby at_101) rfl rfl k) ?_
    show Run p e below s 1 2 (Q_rm0 Z q1 p2 p3 p4 h0 n0) (T16.setTop (mkF m 103 #[.val (.long q1), .second, .val (.int p2), .val (.int p3), .val (.int p4), .val (.long z5), .second, .val (.long z6), .second, .val (.long z7), .second, .val (.int z8), .val (.long w10), .second, .val (.ref b12), .val (.int (F_rm3 (0 : Int64) w10)), .unset, .unset, .unset, .unset, .unset] [(.ref b12)]))
    refine Run.go (fun _ k => XS.lload X16.here hx rfl (hb hby at_103) rfl  k) ?_
    show Run p e below s 1 2 (Q_rm0 Z q1 p2 p3 p4 h0 n0) (T16.setTop (mkF m 105 #[.val (.long q1), .second, .val (.int p2), .val (.int p3), .val (.int p4), .val (.long z5), .second, .val (.long z6), .second, .val (.long z7), .second, .val (.int z8), .val (.long w10), .second, .val (.ref b12), .val (.int (F_rm3 (0 : Int64) w10)), .unset, .unset, .unset, .unset, .unset] [(.long z5), (.ref b12)]))
    obtain ⟨cq17, kq17, q17a, q17b, q17c⟩ := isOf hZ e16q fq15_0
    obtain ⟨_, _, ⟨T17, L17, k17, n17⟩, -, X17, ⟨Lc17, hQ17, l17, y17, z17⟩, st17⟩ := X16.virtualBack hx (y := (⟨"com/example/exact_table/exacttable/SizeCap", "count", "(J)V"⟩ : MethodName)) (z := (⟨"com/example/exact_table/exacttable/SizeCap", "count", "(J)V"⟩ : MethodName)) hown (mvT hZ (hw _ (List.mem_of_getElem? (i := 19) rfl))) (mvT hZ (hw _ (List.mem_of_getElem? (i := 20) rfl))) (notFace_of_selects (args := #[]) (mvT hZ (hw _ (List.mem_of_getElem? (i := 22) rfl)))) (mvT hZ (hw _ (List.mem_of_getElem? (i := 22) rfl))) (mvT hZ (hw _ (List.mem_of_getElem? (i := 21) rfl))) (by decide) (backOf (W := 0) (rm4 l Z a0 hw [] b12 z5 (0 : Int64) (.long w10) T15.heap n0 Z15 fq15_2 fq15_0 g_b12 fq15_1) hZ (hw _ (List.mem_of_getElem? (i := 23) rfl)) (hw _ (List.mem_of_getElem? (i := 3) rfl)) (by decide) (by decide)) q17a q17c (g := (mkF m 105 #[.val (.long q1), .second, .val (.int p2), .val (.int p3), .val (.int p4), .val (.long z5), .second, .val (.long z6), .second, .val (.long z7), .second, .val (.int z8), .val (.long w10), .second, .val (.ref b12), .val (.int (F_rm3 (0 : Int64) w10)), .unset, .unset, .unset, .unset, .unset] [(.long z5), (.ref b12)])) rfl (by rw [hml]; rfl) (Steps.refl _) (argsL := [(.long z5)]) (rest := []) (lenOf pd_0 rfl) rfl (by show 2 * 0 + _ ≤ _; exact Nat.le_of_eq rfl) (hb hby at_105) (fun _ _ => ⟨rfl, e16q, (by decide : 1 + 0 ≤ _), (by decide : 2 + 0 ≤ _)⟩)
    dsimp only [Pt.U, Pt.locs, Pt.cells, Pt.slots] at X17 l17 y17 z17 st17 hQ17
    subst l17 y17 z17
    obtain ⟨rfl, N17q, K17q, fq17_0, fq17_1, fq17_2⟩ := hQ17
    have N17 := Fr.app N16 N17q
    have Z17 : n0 ≤ T17.heap.size := Nat.le_trans Z15 K17q.1
    refine Run.tr st17 ?_
    show Run p e below s 1 2 (Q_rm0 Z q1 p2 p3 p4 h0 n0) (T17.setTop (mkF m 108 #[.val (.long q1), .second, .val (.int p2), .val (.int p3), .val (.int p4), .val (.long z5), .second, .val (.long z6), .second, .val (.long z7), .second, .val (.int z8), .val (.long w10), .second, .val (.ref b12), .val (.int (F_rm3 (0 : Int64) w10)), .unset, .unset, .unset, .unset, .unset] []))
    refine Run.go (fun _ k => XS.aload X17.here hx rfl (hb hby at_108) rfl rfl k) ?_
    show Run p e below s 1 2 (Q_rm0 Z q1 p2 p3 p4 h0 n0) (T17.setTop (mkF m 110 #[.val (.long q1), .second, .val (.int p2), .val (.int p3), .val (.int p4), .val (.long z5), .second, .val (.long z6), .second, .val (.long z7), .second, .val (.int z8), .val (.long w10), .second, .val (.ref b12), .val (.int (F_rm3 (0 : Int64) w10)), .unset, .unset, .unset, .unset, .unset] [(.ref b12)]))
    obtain ⟨cq18, kq18, q18a, q18b, q18c⟩ := isOf hZ rfl fq17_1
    obtain ⟨_, _, ⟨T18, L18, k18, n18⟩, -, X18, ⟨Lc18, hQ18, l18, y18, z18⟩, st18⟩ := X17.virtualBack hx (y := (⟨"com/example/exact_table/exacttable/SizeCap", "reached", "()Z"⟩ : MethodName)) (z := (⟨"com/example/exact_table/exacttable/SizeCap", "reached", "()Z"⟩ : MethodName)) hown (mvT hZ (hw _ (List.mem_of_getElem? (i := 12) rfl))) (mvT hZ (hw _ (List.mem_of_getElem? (i := 13) rfl))) (notFace_of_selects (args := #[]) (mvT hZ (hw _ (List.mem_of_getElem? (i := 15) rfl)))) (mvT hZ (hw _ (List.mem_of_getElem? (i := 15) rfl))) (mvT hZ (hw _ (List.mem_of_getElem? (i := 14) rfl))) (by decide) (backOf (W := 0) (rm3 l Z a0 hw [] b12 ((0 : Int64) + z5) w10 T17.heap n0 Z17 fq17_0 fq17_2) hZ (hw _ (List.mem_of_getElem? (i := 16) rfl)) (hw _ (List.mem_of_getElem? (i := 3) rfl)) (by decide) (by decide)) q18a q18c (g := (mkF m 110 #[.val (.long q1), .second, .val (.int p2), .val (.int p3), .val (.int p4), .val (.long z5), .second, .val (.long z6), .second, .val (.long z7), .second, .val (.int z8), .val (.long w10), .second, .val (.ref b12), .val (.int (F_rm3 (0 : Int64) w10)), .unset, .unset, .unset, .unset, .unset] [(.ref b12)])) rfl (by rw [hml]; rfl) (Steps.refl _) (argsL := []) (rest := []) (lenOf pd_1 rfl) rfl (by show 2 * 0 + _ ≤ _; exact Nat.le_of_eq rfl) (hb hby at_110) (fun _ _ => ⟨rfl, rfl, (by decide : 1 + 0 ≤ _), (by decide : 2 + 0 ≤ _)⟩)
    dsimp only [Pt.U, Pt.locs, Pt.cells, Pt.slots] at X18 l18 y18 z18 st18 hQ18
    subst l18 y18 z18
    obtain ⟨rfl, N18q, e18q⟩ := hQ18
    have N18 := Fr.app N17 N18q
    refine Run.tr st18 ?_
    show Run p e below s 1 2 (Q_rm0 Z q1 p2 p3 p4 h0 n0) (T18.setTop (mkF m 113 #[.val (.long q1), .second, .val (.int p2), .val (.int p3), .val (.int p4), .val (.long z5), .second, .val (.long z6), .second, .val (.long z7), .second, .val (.int z8), .val (.long w10), .second, .val (.ref b12), .val (.int (F_rm3 (0 : Int64) w10)), .unset, .unset, .unset, .unset, .unset] [(.int (F_rm3 ((0 : Int64) + z5) w10))]))
    refine Run.go (fun _ k => XS.istore X18.here hx rfl (hb hby at_113) rfl (l' := #[.val (.long q1), .second, .val (.int p2), .val (.int p3), .val (.int p4), .val (.long z5), .second, .val (.long z6), .second, .val (.long z7), .second, .val (.int z8), .val (.long w10), .second, .val (.ref b12), .val (.int (F_rm3 (0 : Int64) w10)), .val (.int (F_rm3 ((0 : Int64) + z5) w10)), .unset, .unset, .unset, .unset]) rfl k) ?_
    show Run p e below s 1 2 (Q_rm0 Z q1 p2 p3 p4 h0 n0) (T18.setTop (mkF m 115 #[.val (.long q1), .second, .val (.int p2), .val (.int p3), .val (.int p4), .val (.long z5), .second, .val (.long z6), .second, .val (.long z7), .second, .val (.int z8), .val (.long w10), .second, .val (.ref b12), .val (.int (F_rm3 (0 : Int64) w10)), .val (.int (F_rm3 ((0 : Int64) + z5) w10)), .unset, .unset, .unset, .unset] []))
    refine Run.go (fun _ k => XS.aload X18.here hx rfl (hb hby at_115) rfl rfl k) ?_
    show Run p e below s 1 2 (Q_rm0 Z q1 p2 p3 p4 h0 n0) (T18.setTop (mkF m 117 #[.val (.long q1), .second, .val (.int p2), .val (.int p3), .val (.int p4), .val (.long z5), .second, .val (.long z6), .second, .val (.long z7), .second, .val (.int z8), .val (.long w10), .second, .val (.ref b12), .val (.int (F_rm3 (0 : Int64) w10)), .val (.int (F_rm3 ((0 : Int64) + z5) w10)), .unset, .unset, .unset, .unset] [(.ref b12)]))
    refine Run.go (fun _ k => XS.lload X18.here hx rfl (hb hby at_117) rfl  k) ?_
    show Run p e below s 1 2 (Q_rm0 Z q1 p2 p3 p4 h0 n0) (T18.setTop (mkF m 119 #[.val (.long q1), .second, .val (.int p2), .val (.int p3), .val (.int p4), .val (.long z5), .second, .val (.long z6), .second, .val (.long z7), .second, .val (.int z8), .val (.long w10), .second, .val (.ref b12), .val (.int (F_rm3 (0 : Int64) w10)), .val (.int (F_rm3 ((0 : Int64) + z5) w10)), .unset, .unset, .unset, .unset] [(.long z6), (.ref b12)]))
    obtain ⟨cq19, kq19, q19a, q19b, q19c⟩ := isOf hZ e18q fq17_1
    obtain ⟨_, _, ⟨T19, L19, k19, n19⟩, -, X19, ⟨Lc19, hQ19, l19, y19, z19⟩, st19⟩ := X18.virtualBack hx (y := (⟨"com/example/exact_table/exacttable/SizeCap", "count", "(J)V"⟩ : MethodName)) (z := (⟨"com/example/exact_table/exacttable/SizeCap", "count", "(J)V"⟩ : MethodName)) hown (mvT hZ (hw _ (List.mem_of_getElem? (i := 19) rfl))) (mvT hZ (hw _ (List.mem_of_getElem? (i := 20) rfl))) (notFace_of_selects (args := #[]) (mvT hZ (hw _ (List.mem_of_getElem? (i := 22) rfl)))) (mvT hZ (hw _ (List.mem_of_getElem? (i := 22) rfl))) (mvT hZ (hw _ (List.mem_of_getElem? (i := 21) rfl))) (by decide) (backOf (W := 0) (rm4 l Z a0 hw [] b12 z6 ((0 : Int64) + z5) (.long w10) T17.heap n0 Z17 fq17_0 fq17_1 g_b12 fq17_2) hZ (hw _ (List.mem_of_getElem? (i := 23) rfl)) (hw _ (List.mem_of_getElem? (i := 3) rfl)) (by decide) (by decide)) q19a q19c (g := (mkF m 119 #[.val (.long q1), .second, .val (.int p2), .val (.int p3), .val (.int p4), .val (.long z5), .second, .val (.long z6), .second, .val (.long z7), .second, .val (.int z8), .val (.long w10), .second, .val (.ref b12), .val (.int (F_rm3 (0 : Int64) w10)), .val (.int (F_rm3 ((0 : Int64) + z5) w10)), .unset, .unset, .unset, .unset] [(.long z6), (.ref b12)])) rfl (by rw [hml]; rfl) (Steps.refl _) (argsL := [(.long z6)]) (rest := []) (lenOf pd_0 rfl) rfl (by show 2 * 0 + _ ≤ _; exact Nat.le_of_eq rfl) (hb hby at_119) (fun _ _ => ⟨rfl, e18q, (by decide : 1 + 0 ≤ _), (by decide : 2 + 0 ≤ _)⟩)
    dsimp only [Pt.U, Pt.locs, Pt.cells, Pt.slots] at X19 l19 y19 z19 st19 hQ19
    subst l19 y19 z19
    obtain ⟨rfl, N19q, K19q, fq19_0, fq19_1, fq19_2⟩ := hQ19
    have N19 := Fr.app N18 N19q
    have Z19 : n0 ≤ T19.heap.size := Nat.le_trans Z17 K19q.1
    refine Run.tr st19 ?_
    show Run p e below s 1 2 (Q_rm0 Z q1 p2 p3 p4 h0 n0) (T19.setTop (mkF m 122 #[.val (.long q1), .second, .val (.int p2), .val (.int p3), .val (.int p4), .val (.long z5), .second, .val (.long z6), .second, .val (.long z7), .second, .val (.int z8), .val (.long w10), .second, .val (.ref b12), .val (.int (F_rm3 (0 : Int64) w10)), .val (.int (F_rm3 ((0 : Int64) + z5) w10)), .unset, .unset, .unset, .unset] []))
    refine Run.go (fun _ k => XS.aload X19.here hx rfl (hb hby at_122) rfl rfl k) ?_
    show Run p e below s 1 2 (Q_rm0 Z q1 p2 p3 p4 h0 n0) (T19.setTop (mkF m 124 #[.val (.long q1), .second, .val (.int p2), .val (.int p3), .val (.int p4), .val (.long z5), .second, .val (.long z6), .second, .val (.long z7), .second, .val (.int z8), .val (.long w10), .second, .val (.ref b12), .val (.int (F_rm3 (0 : Int64) w10)), .val (.int (F_rm3 ((0 : Int64) + z5) w10)), .unset, .unset, .unset, .unset] [(.ref b12)]))
    obtain ⟨cq20, kq20, q20a, q20b, q20c⟩ := isOf hZ rfl fq19_1
    obtain ⟨_, _, ⟨T20, L20, k20, n20⟩, -, X20, ⟨Lc20, hQ20, l20, y20, z20⟩, st20⟩ := X19.virtualBack hx (y := (⟨"com/example/exact_table/exacttable/SizeCap", "reached", "()Z"⟩ : MethodName)) (z := (⟨"com/example/exact_table/exacttable/SizeCap", "reached", "()Z"⟩ : MethodName)) hown (mvT hZ (hw _ (List.mem_of_getElem? (i := 12) rfl))) (mvT hZ (hw _ (List.mem_of_getElem? (i := 13) rfl))) (notFace_of_selects (args := #[]) (mvT hZ (hw _ (List.mem_of_getElem? (i := 15) rfl)))) (mvT hZ (hw _ (List.mem_of_getElem? (i := 15) rfl))) (mvT hZ (hw _ (List.mem_of_getElem? (i := 14) rfl))) (by decide) (backOf (W := 0) (rm3 l Z a0 hw [] b12 (((0 : Int64) + z5) + z6) w10 T19.heap n0 Z19 fq19_0 fq19_2) hZ (hw _ (List.mem_of_getElem? (i := 16) rfl)) (hw _ (List.mem_of_getElem? (i := 3) rfl)) (by decide) (by decide)) q20a q20c (g := (mkF m 124 #[.val (.long q1), .second, .val (.int p2), .val (.int p3), .val (.int p4), .val (.long z5), .second, .val (.long z6), .second, .val (.long z7), .second, .val (.int z8), .val (.long w10), .second, .val (.ref b12), .val (.int (F_rm3 (0 : Int64) w10)), .val (.int (F_rm3 ((0 : Int64) + z5) w10)), .unset, .unset, .unset, .unset] [(.ref b12)])) rfl (by rw [hml]; rfl) (Steps.refl _) (argsL := []) (rest := []) (lenOf pd_1 rfl) rfl (by show 2 * 0 + _ ≤ _; exact Nat.le_of_eq rfl) (hb hby at_124) (fun _ _ => ⟨rfl, rfl, (by decide : 1 + 0 ≤ _), (by decide : 2 + 0 ≤ _)⟩)
    dsimp only [Pt.U, Pt.locs, Pt.cells, Pt.slots] at X20 l20 y20 z20 st20 hQ20
    subst l20 y20 z20
    obtain ⟨rfl, N20q, e20q⟩ := hQ20
    have N20 := Fr.app N19 N20q
    refine Run.tr st20 ?_
    show Run p e below s 1 2 (Q_rm0 Z q1 p2 p3 p4 h0 n0) (T20.setTop (mkF m 127 #[.val (.long q1), .second, .val (.int p2), .val (.int p3), .val (.int p4), .val (.long z5), .second, .val (.long z6), .second, .val (.long z7), .second, .val (.int z8), .val (.long w10), .second, .val (.ref b12), .val (.int (F_rm3 (0 : Int64) w10)), .val (.int (F_rm3 ((0 : Int64) + z5) w10)), .unset, .unset, .unset, .unset] [(.int (F_rm3 (((0 : Int64) + z5) + z6) w10))]))
    refine Run.go (fun _ k => XS.istore X20.here hx rfl (hb hby at_127) rfl (l' := #[.val (.long q1), .second, .val (.int p2), .val (.int p3), .val (.int p4), .val (.long z5), .second, .val (.long z6), .second, .val (.long z7), .second, .val (.int z8), .val (.long w10), .second, .val (.ref b12), .val (.int (F_rm3 (0 : Int64) w10)), .val (.int (F_rm3 ((0 : Int64) + z5) w10)), .val (.int (F_rm3 (((0 : Int64) + z5) + z6) w10)), .unset, .unset, .unset]) rfl k) ?_
    show Run p e below s 1 2 (Q_rm0 Z q1 p2 p3 p4 h0 n0) (T20.setTop (mkF m 129 #[.val (.long q1), .second, .val (.int p2), .val (.int p3), .val (.int p4), .val (.long z5), .second, .val (.long z6), .second, .val (.long z7), .second, .val (.int z8), .val (.long w10), .second, .val (.ref b12), .val (.int (F_rm3 (0 : Int64) w10)), .val (.int (F_rm3 ((0 : Int64) + z5) w10)), .val (.int (F_rm3 (((0 : Int64) + z5) + z6) w10)), .unset, .unset, .unset] []))
    refine Run.go (fun _ k => XS.lconst X20.here hx rfl (hb hby at_129) k) ?_
    show Run p e below s 1 2 (Q_rm0 Z q1 p2 p3 p4 h0 n0) (T20.setTop (mkF m 130 #[.val (.long q1), .second, .val (.int p2), .val (.int p3), .val (.int p4), .val (.long z5), .second, .val (.long z6), .second, .val (.long z7), .second, .val (.int z8), .val (.long w10), .second, .val (.ref b12), .val (.int (F_rm3 (0 : Int64) w10)), .val (.int (F_rm3 ((0 : Int64) + z5) w10)), .val (.int (F_rm3 (((0 : Int64) + z5) + z6) w10)), .unset, .unset, .unset] [(.long (0 : Int64))]))
    refine Run.go (fun _ k => XS.lload X20.here hx rfl (hb hby at_130) rfl  k) ?_
    show Run p e below s 1 2 (Q_rm0 Z q1 p2 p3 p4 h0 n0) (T20.setTop (mkF m 132 #[.val (.long q1), .second, .val (.int p2), .val (.int p3), .val (.int p4), .val (.long z5), .second, .val (.long z6), .second, .val (.long z7), .second, .val (.int z8), .val (.long w10), .second, .val (.ref b12), .val (.int (F_rm3 (0 : Int64) w10)), .val (.int (F_rm3 ((0 : Int64) + z5) w10)), .val (.int (F_rm3 (((0 : Int64) + z5) + z6) w10)), .unset, .unset, .unset] [(.long w10), (.long (0 : Int64))]))
    refine Run.go (fun _ k => XS.lcmp X20.here hx rfl (hb hby at_132) rfl k) ?_
    show Run p e below s 1 2 (Q_rm0 Z q1 p2 p3 p4 h0 n0) (T20.setTop (mkF m 133 #[.val (.long q1), .second, .val (.int p2), .val (.int p3), .val (.int p4), .val (.long z5), .second, .val (.long z6), .second, .val (.long z7), .second, .val (.int z8), .val (.long w10), .second, .val (.ref b12), .val (.int (F_rm3 (0 : Int64) w10)), .val (.int (F_rm3 ((0 : Int64) + z5) w10)), .val (.int (F_rm3 (((0 : Int64) + z5) + z6) w10)), .unset, .unset, .unset] [(.int (lcmpW (0 : Int64) w10))]))
    have J21 : ∀ (w22 : Int32) (hw22 : w22 = (if (¬ ((0 : Int64) < w10)) then (1 : Int32) else 0)) (T23 : State) (L23 : List Loc) (X23 : Stand p l e room_1 s m #[(.long q1), (.int p2), (.int p3), (.int p4)] below meth c T23 L23 1 2) (e23 : T23.heap = T19.heap) (N23 : Fr n0 L23), Run p e below s 1 2 (Q_rm0 Z q1 p2 p3 p4 h0 n0) (T23.setTop (mkF m 141 #[.val (.long q1), .second, .val (.int p2), .val (.int p3), .val (.int p4), .val (.long z5), .second, .val (.long z6), .second, .val (.long z7), .second, .val (.int z8), .val (.long w10), .second, .val (.ref b12), .val (.int (F_rm3 (0 : Int64) w10)), .val (.int (F_rm3 ((0 : Int64) + z5) w10)), .val (.int (F_rm3 (((0 : Int64) + z5) + z6) w10)), .unset, .unset, .unset] [(.int w22)])) := by
      intro w22 hw22 T23 L23 X23 e23 N23
      show Run p e below s 1 2 (Q_rm0 Z q1 p2 p3 p4 h0 n0) (T23.setTop (mkF m 141 #[.val (.long q1), .second, .val (.int p2), .val (.int p3), .val (.int p4), .val (.long z5), .second, .val (.long z6), .second, .val (.long z7), .second, .val (.int z8), .val (.long w10), .second, .val (.ref b12), .val (.int (F_rm3 (0 : Int64) w10)), .val (.int (F_rm3 ((0 : Int64) + z5) w10)), .val (.int (F_rm3 (((0 : Int64) + z5) + z6) w10)), .unset, .unset, .unset] [(.int w22)]))
      refine Run.go (fun _ k => XS.istore X23.here hx rfl (hb hby at_141) rfl (l' := #[.val (.long q1), .second, .val (.int p2), .val (.int p3), .val (.int p4), .val (.long z5), .second, .val (.long z6), .second, .val (.long z7), .second, .val (.int z8), .val (.long w10), .second, .val (.ref b12), .val (.int (F_rm3 (0 : Int64) w10)), .val (.int (F_rm3 ((0 : Int64) + z5) w10)), .val (.int (F_rm3 (((0 : Int64) + z5) + z6) w10)), .val (.int w22), .unset, .unset]) rfl k) ?_
      show Run p e below s 1 2 (Q_rm0 Z q1 p2 p3 p4 h0 n0) (T23.setTop (mkF m 143 #[.val (.long q1), .second, .val (.int p2), .val (.int p3), .val (.int p4), .val (.long z5), .second, .val (.long z6), .second, .val (.long z7), .second, .val (.int z8), .val (.long w10), .second, .val (.ref b12), .val (.int (F_rm3 (0 : Int64) w10)), .val (.int (F_rm3 ((0 : Int64) + z5) w10)), .val (.int (F_rm3 (((0 : Int64) + z5) + z6) w10)), .val (.int w22), .unset, .unset] []))
      refine Run.go (fun _ k => XS.lload X23.here hx rfl (hb hby at_143) rfl  k) ?_
      show Run p e below s 1 2 (Q_rm0 Z q1 p2 p3 p4 h0 n0) (T23.setTop (mkF m 145 #[.val (.long q1), .second, .val (.int p2), .val (.int p3), .val (.int p4), .val (.long z5), .second, .val (.long z6), .second, .val (.long z7), .second, .val (.int z8), .val (.long w10), .second, .val (.ref b12), .val (.int (F_rm3 (0 : Int64) w10)), .val (.int (F_rm3 ((0 : Int64) + z5) w10)), .val (.int (F_rm3 (((0 : Int64) + z5) + z6) w10)), .val (.int w22), .unset, .unset] [(.long z5)]))
      refine Run.go (fun _ k => XS.lload X23.here hx rfl (hb hby at_145) rfl  k) ?_
      show Run p e below s 1 2 (Q_rm0 Z q1 p2 p3 p4 h0 n0) (T23.setTop (mkF m 147 #[.val (.long q1), .second, .val (.int p2), .val (.int p3), .val (.int p4), .val (.long z5), .second, .val (.long z6), .second, .val (.long z7), .second, .val (.int z8), .val (.long w10), .second, .val (.ref b12), .val (.int (F_rm3 (0 : Int64) w10)), .val (.int (F_rm3 ((0 : Int64) + z5) w10)), .val (.int (F_rm3 (((0 : Int64) + z5) + z6) w10)), .val (.int w22), .unset, .unset] [(.long w10), (.long z5)]))
      refine Run.go (fun _ k => XS.lcmp X23.here hx rfl (hb hby at_147) rfl k) ?_
      show Run p e below s 1 2 (Q_rm0 Z q1 p2 p3 p4 h0 n0) (T23.setTop (mkF m 148 #[.val (.long q1), .second, .val (.int p2), .val (.int p3), .val (.int p4), .val (.long z5), .second, .val (.long z6), .second, .val (.long z7), .second, .val (.int z8), .val (.long w10), .second, .val (.ref b12), .val (.int (F_rm3 (0 : Int64) w10)), .val (.int (F_rm3 ((0 : Int64) + z5) w10)), .val (.int (F_rm3 (((0 : Int64) + z5) + z6) w10)), .val (.int w22), .unset, .unset] [(.int (lcmpW z5 w10))]))
      have J24 : ∀ (w25 : Int32) (hw25 : w25 = (if (¬ (z5 < w10)) then (1 : Int32) else 0)) (T26 : State) (L26 : List Loc) (X26 : Stand p l e room_1 s m #[(.long q1), (.int p2), (.int p3), (.int p4)] below meth c T26 L26 1 2) (e26 : T26.heap = T19.heap) (N26 : Fr n0 L26), Run p e below s 1 2 (Q_rm0 Z q1 p2 p3 p4 h0 n0) (T26.setTop (mkF m 156 #[.val (.long q1), .second, .val (.int p2), .val (.int p3), .val (.int p4), .val (.long z5), .second, .val (.long z6), .second, .val (.long z7), .second, .val (.int z8), .val (.long w10), .second, .val (.ref b12), .val (.int (F_rm3 (0 : Int64) w10)), .val (.int (F_rm3 ((0 : Int64) + z5) w10)), .val (.int (F_rm3 (((0 : Int64) + z5) + z6) w10)), .val (.int w22), .unset, .unset] [(.int w25)])) := by
        intro w25 hw25 T26 L26 X26 e26 N26
        show Run p e below s 1 2 (Q_rm0 Z q1 p2 p3 p4 h0 n0) (T26.setTop (mkF m 156 #[.val (.long q1), .second, .val (.int p2), .val (.int p3), .val (.int p4), .val (.long z5), .second, .val (.long z6), .second, .val (.long z7), .second, .val (.int z8), .val (.long w10), .second, .val (.ref b12), .val (.int (F_rm3 (0 : Int64) w10)), .val (.int (F_rm3 ((0 : Int64) + z5) w10)), .val (.int (F_rm3 (((0 : Int64) + z5) + z6) w10)), .val (.int w22), .unset, .unset] [(.int w25)]))
        refine Run.go (fun _ k => XS.istore X26.here hx rfl (hb hby at_156) rfl (l' := #[.val (.long q1), .second, .val (.int p2), .val (.int p3), .val (.int p4), .val (.long z5), .second, .val (.long z6), .second, .val (.long z7), .second, .val (.int z8), .val (.long w10), .second, .val (.ref b12), .val (.int (F_rm3 (0 : Int64) w10)), .val (.int (F_rm3 ((0 : Int64) + z5) w10)), .val (.int (F_rm3 (((0 : Int64) + z5) + z6) w10)), .val (.int w22), .val (.int w25), .unset]) rfl k) ?_
        show Run p e below s 1 2 (Q_rm0 Z q1 p2 p3 p4 h0 n0) (T26.setTop (mkF m 158 #[.val (.long q1), .second, .val (.int p2), .val (.int p3), .val (.int p4), .val (.long z5), .second, .val (.long z6), .second, .val (.long z7), .second, .val (.int z8), .val (.long w10), .second, .val (.ref b12), .val (.int (F_rm3 (0 : Int64) w10)), .val (.int (F_rm3 ((0 : Int64) + z5) w10)), .val (.int (F_rm3 (((0 : Int64) + z5) + z6) w10)), .val (.int w22), .val (.int w25), .unset] []))
        refine Run.go (fun _ k => XS.lload X26.here hx rfl (hb hby at_158) rfl  k) ?_
        show Run p e below s 1 2 (Q_rm0 Z q1 p2 p3 p4 h0 n0) (T26.setTop (mkF m 160 #[.val (.long q1), .second, .val (.int p2), .val (.int p3), .val (.int p4), .val (.long z5), .second, .val (.long z6), .second, .val (.long z7), .second, .val (.int z8), .val (.long w10), .second, .val (.ref b12), .val (.int (F_rm3 (0 : Int64) w10)), .val (.int (F_rm3 ((0 : Int64) + z5) w10)), .val (.int (F_rm3 (((0 : Int64) + z5) + z6) w10)), .val (.int w22), .val (.int w25), .unset] [(.long z5)]))
        refine Run.go (fun _ k => XS.lload X26.here hx rfl (hb hby at_160) rfl  k) ?_
        show Run p e below s 1 2 (Q_rm0 Z q1 p2 p3 p4 h0 n0) (T26.setTop (mkF m 162 #[.val (.long q1), .second, .val (.int p2), .val (.int p3), .val (.int p4), .val (.long z5), .second, .val (.long z6), .second, .val (.long z7), .second, .val (.int z8), .val (.long w10), .second, .val (.ref b12), .val (.int (F_rm3 (0 : Int64) w10)), .val (.int (F_rm3 ((0 : Int64) + z5) w10)), .val (.int (F_rm3 (((0 : Int64) + z5) + z6) w10)), .val (.int w22), .val (.int w25), .unset] [(.long z6), (.long z5)]))
        refine Run.go (fun _ k => XS.ladd X26.here hx rfl (hb hby at_162) rfl k) ?_
        show Run p e below s 1 2 (Q_rm0 Z q1 p2 p3 p4 h0 n0) (T26.setTop (mkF m 163 #[.val (.long q1), .second, .val (.int p2), .val (.int p3), .val (.int p4), .val (.long z5), .second, .val (.long z6), .second, .val (.long z7), .second, .val (.int z8), .val (.long w10), .second, .val (.ref b12), .val (.int (F_rm3 (0 : Int64) w10)), .val (.int (F_rm3 ((0 : Int64) + z5) w10)), .val (.int (F_rm3 (((0 : Int64) + z5) + z6) w10)), .val (.int w22), .val (.int w25), .unset] [(.long (z5 + z6))]))
        refine Run.go (fun _ k => XS.lload X26.here hx rfl (hb hby at_163) rfl  k) ?_
        show Run p e below s 1 2 (Q_rm0 Z q1 p2 p3 p4 h0 n0) (T26.setTop (mkF m 165 #[.val (.long q1), .second, .val (.int p2), .val (.int p3), .val (.int p4), .val (.long z5), .second, .val (.long z6), .second, .val (.long z7), .second, .val (.int z8), .val (.long w10), .second, .val (.ref b12), .val (.int (F_rm3 (0 : Int64) w10)), .val (.int (F_rm3 ((0 : Int64) + z5) w10)), .val (.int (F_rm3 (((0 : Int64) + z5) + z6) w10)), .val (.int w22), .val (.int w25), .unset] [(.long w10), (.long (z5 + z6))]))
        refine Run.go (fun _ k => XS.lcmp X26.here hx rfl (hb hby at_165) rfl k) ?_
        show Run p e below s 1 2 (Q_rm0 Z q1 p2 p3 p4 h0 n0) (T26.setTop (mkF m 166 #[.val (.long q1), .second, .val (.int p2), .val (.int p3), .val (.int p4), .val (.long z5), .second, .val (.long z6), .second, .val (.long z7), .second, .val (.int z8), .val (.long w10), .second, .val (.ref b12), .val (.int (F_rm3 (0 : Int64) w10)), .val (.int (F_rm3 ((0 : Int64) + z5) w10)), .val (.int (F_rm3 (((0 : Int64) + z5) + z6) w10)), .val (.int w22), .val (.int w25), .unset] [(.int (lcmpW (z5 + z6) w10))]))
        have J27 : ∀ (w28 : Int32) (hw28 : w28 = (if (¬ ((z5 + z6) < w10)) then (1 : Int32) else 0)) (T29 : State) (L29 : List Loc) (X29 : Stand p l e room_1 s m #[(.long q1), (.int p2), (.int p3), (.int p4)] below meth c T29 L29 1 2) (e29 : T29.heap = T19.heap) (N29 : Fr n0 L29), Run p e below s 1 2 (Q_rm0 Z q1 p2 p3 p4 h0 n0) (T29.setTop (mkF m 174 #[.val (.long q1), .second, .val (.int p2), .val (.int p3), .val (.int p4), .val (.long z5), .second, .val (.long z6), .second, .val (.long z7), .second, .val (.int z8), .val (.long w10), .second, .val (.ref b12), .val (.int (F_rm3 (0 : Int64) w10)), .val (.int (F_rm3 ((0 : Int64) + z5) w10)), .val (.int (F_rm3 (((0 : Int64) + z5) + z6) w10)), .val (.int w22), .val (.int w25), .unset] [(.int w28)])) := by
          intro w28 hw28 T29 L29 X29 e29 N29
          show Run p e below s 1 2 (Q_rm0 Z q1 p2 p3 p4 h0 n0) (T29.setTop (mkF m 174 #[.val (.long q1), .second, .val (.int p2), .val (.int p3), .val (.int p4), .val (.long z5), .second, .val (.long z6), .second, .val (.long z7), .second, .val (.int z8), .val (.long w10), .second, .val (.ref b12), .val (.int (F_rm3 (0 : Int64) w10)), .val (.int (F_rm3 ((0 : Int64) + z5) w10)), .val (.int (F_rm3 (((0 : Int64) + z5) + z6) w10)), .val (.int w22), .val (.int w25), .unset] [(.int w28)]))
          refine Run.go (fun _ k => XS.istore X29.here hx rfl (hb hby at_174) rfl (l' := #[.val (.long q1), .second, .val (.int p2), .val (.int p3), .val (.int p4), .val (.long z5), .second, .val (.long z6), .second, .val (.long z7), .second, .val (.int z8), .val (.long w10), .second, .val (.ref b12), .val (.int (F_rm3 (0 : Int64) w10)), .val (.int (F_rm3 ((0 : Int64) + z5) w10)), .val (.int (F_rm3 (((0 : Int64) + z5) + z6) w10)), .val (.int w22), .val (.int w25), .val (.int w28)]) rfl k) ?_
          show Run p e below s 1 2 (Q_rm0 Z q1 p2 p3 p4 h0 n0) (T29.setTop (mkF m 176 #[.val (.long q1), .second, .val (.int p2), .val (.int p3), .val (.int p4), .val (.long z5), .second, .val (.long z6), .second, .val (.long z7), .second, .val (.int z8), .val (.long w10), .second, .val (.ref b12), .val (.int (F_rm3 (0 : Int64) w10)), .val (.int (F_rm3 ((0 : Int64) + z5) w10)), .val (.int (F_rm3 (((0 : Int64) + z5) + z6) w10)), .val (.int w22), .val (.int w25), .val (.int w28)] []))
          refine Run.go (fun _ k => XS.iload X29.here hx rfl (hb hby at_176) rfl  k) ?_
          show Run p e below s 1 2 (Q_rm0 Z q1 p2 p3 p4 h0 n0) (T29.setTop (mkF m 178 #[.val (.long q1), .second, .val (.int p2), .val (.int p3), .val (.int p4), .val (.long z5), .second, .val (.long z6), .second, .val (.long z7), .second, .val (.int z8), .val (.long w10), .second, .val (.ref b12), .val (.int (F_rm3 (0 : Int64) w10)), .val (.int (F_rm3 ((0 : Int64) + z5) w10)), .val (.int (F_rm3 (((0 : Int64) + z5) + z6) w10)), .val (.int w22), .val (.int w25), .val (.int w28)] [(.int (F_rm3 (0 : Int64) w10))]))
          refine Run.go (fun _ k => XS.iload X29.here hx rfl (hb hby at_178) rfl  k) ?_
          show Run p e below s 1 2 (Q_rm0 Z q1 p2 p3 p4 h0 n0) (T29.setTop (mkF m 180 #[.val (.long q1), .second, .val (.int p2), .val (.int p3), .val (.int p4), .val (.long z5), .second, .val (.long z6), .second, .val (.long z7), .second, .val (.int z8), .val (.long w10), .second, .val (.ref b12), .val (.int (F_rm3 (0 : Int64) w10)), .val (.int (F_rm3 ((0 : Int64) + z5) w10)), .val (.int (F_rm3 (((0 : Int64) + z5) + z6) w10)), .val (.int w22), .val (.int w25), .val (.int w28)] [(.int w22), (.int (F_rm3 (0 : Int64) w10))]))
          refine Run.go (fun _ k => XS.icmpNo X29.here hx rfl (hb hby at_180) rfl (teq (by rw [hw22]; rfl)).2 k) ?_
          show Run p e below s 1 2 (Q_rm0 Z q1 p2 p3 p4 h0 n0) (T29.setTop (mkF m 183 #[.val (.long q1), .second, .val (.int p2), .val (.int p3), .val (.int p4), .val (.long z5), .second, .val (.long z6), .second, .val (.long z7), .second, .val (.int z8), .val (.long w10), .second, .val (.ref b12), .val (.int (F_rm3 (0 : Int64) w10)), .val (.int (F_rm3 ((0 : Int64) + z5) w10)), .val (.int (F_rm3 (((0 : Int64) + z5) + z6) w10)), .val (.int w22), .val (.int w25), .val (.int w28)] []))
          refine Run.go (fun _ k => XS.iload X29.here hx rfl (hb hby at_183) rfl  k) ?_
          show Run p e below s 1 2 (Q_rm0 Z q1 p2 p3 p4 h0 n0) (T29.setTop (mkF m 185 #[.val (.long q1), .second, .val (.int p2), .val (.int p3), .val (.int p4), .val (.long z5), .second, .val (.long z6), .second, .val (.long z7), .second, .val (.int z8), .val (.long w10), .second, .val (.ref b12), .val (.int (F_rm3 (0 : Int64) w10)), .val (.int (F_rm3 ((0 : Int64) + z5) w10)), .val (.int (F_rm3 (((0 : Int64) + z5) + z6) w10)), .val (.int w22), .val (.int w25), .val (.int w28)] [(.int (F_rm3 ((0 : Int64) + z5) w10))]))
          refine Run.go (fun _ k => XS.iload X29.here hx rfl (hb hby at_185) rfl  k) ?_
          show Run p e below s 1 2 (Q_rm0 Z q1 p2 p3 p4 h0 n0) (T29.setTop (mkF m 187 #[.val (.long q1), .second, .val (.int p2), .val (.int p3), .val (.int p4), .val (.long z5), .second, .val (.long z6), .second, .val (.long z7), .second, .val (.int z8), .val (.long w10), .second, .val (.ref b12), .val (.int (F_rm3 (0 : Int64) w10)), .val (.int (F_rm3 ((0 : Int64) + z5) w10)), .val (.int (F_rm3 (((0 : Int64) + z5) + z6) w10)), .val (.int w22), .val (.int w25), .val (.int w28)] [(.int w25), (.int (F_rm3 ((0 : Int64) + z5) w10))]))
          refine Run.go (fun _ k => XS.icmpNo X29.here hx rfl (hb hby at_187) rfl (teq (by rw [hw25, Int64.zero_add]; rfl)).2 k) ?_
          show Run p e below s 1 2 (Q_rm0 Z q1 p2 p3 p4 h0 n0) (T29.setTop (mkF m 190 #[.val (.long q1), .second, .val (.int p2), .val (.int p3), .val (.int p4), .val (.long z5), .second, .val (.long z6), .second, .val (.long z7), .second, .val (.int z8), .val (.long w10), .second, .val (.ref b12), .val (.int (F_rm3 (0 : Int64) w10)), .val (.int (F_rm3 ((0 : Int64) + z5) w10)), .val (.int (F_rm3 (((0 : Int64) + z5) + z6) w10)), .val (.int w22), .val (.int w25), .val (.int w28)] []))
          refine Run.go (fun _ k => XS.iload X29.here hx rfl (hb hby at_190) rfl  k) ?_
          show Run p e below s 1 2 (Q_rm0 Z q1 p2 p3 p4 h0 n0) (T29.setTop (mkF m 192 #[.val (.long q1), .second, .val (.int p2), .val (.int p3), .val (.int p4), .val (.long z5), .second, .val (.long z6), .second, .val (.long z7), .second, .val (.int z8), .val (.long w10), .second, .val (.ref b12), .val (.int (F_rm3 (0 : Int64) w10)), .val (.int (F_rm3 ((0 : Int64) + z5) w10)), .val (.int (F_rm3 (((0 : Int64) + z5) + z6) w10)), .val (.int w22), .val (.int w25), .val (.int w28)] [(.int (F_rm3 (((0 : Int64) + z5) + z6) w10))]))
          refine Run.go (fun _ k => XS.iload X29.here hx rfl (hb hby at_192) rfl  k) ?_
          show Run p e below s 1 2 (Q_rm0 Z q1 p2 p3 p4 h0 n0) (T29.setTop (mkF m 194 #[.val (.long q1), .second, .val (.int p2), .val (.int p3), .val (.int p4), .val (.long z5), .second, .val (.long z6), .second, .val (.long z7), .second, .val (.int z8), .val (.long w10), .second, .val (.ref b12), .val (.int (F_rm3 (0 : Int64) w10)), .val (.int (F_rm3 ((0 : Int64) + z5) w10)), .val (.int (F_rm3 (((0 : Int64) + z5) + z6) w10)), .val (.int w22), .val (.int w25), .val (.int w28)] [(.int w28), (.int (F_rm3 (((0 : Int64) + z5) + z6) w10))]))
          refine Run.go (fun _ k => XS.icmpNo X29.here hx rfl (hb hby at_194) rfl (teq (by rw [hw28, Int64.zero_add]; rfl)).2 k) ?_
          show Run p e below s 1 2 (Q_rm0 Z q1 p2 p3 p4 h0 n0) (T29.setTop (mkF m 197 #[.val (.long q1), .second, .val (.int p2), .val (.int p3), .val (.int p4), .val (.long z5), .second, .val (.long z6), .second, .val (.long z7), .second, .val (.int z8), .val (.long w10), .second, .val (.ref b12), .val (.int (F_rm3 (0 : Int64) w10)), .val (.int (F_rm3 ((0 : Int64) + z5) w10)), .val (.int (F_rm3 (((0 : Int64) + z5) + z6) w10)), .val (.int w22), .val (.int w25), .val (.int w28)] []))
          refine Run.go (fun _ k => XS.iconst X29.here hx rfl (hb hby at_197) k) ?_
          show Run p e below s 1 2 (Q_rm0 Z q1 p2 p3 p4 h0 n0) (T29.setTop (mkF m 198 #[.val (.long q1), .second, .val (.int p2), .val (.int p3), .val (.int p4), .val (.long z5), .second, .val (.long z6), .second, .val (.long z7), .second, .val (.int z8), .val (.long w10), .second, .val (.ref b12), .val (.int (F_rm3 (0 : Int64) w10)), .val (.int (F_rm3 ((0 : Int64) + z5) w10)), .val (.int (F_rm3 (((0 : Int64) + z5) + z6) w10)), .val (.int w22), .val (.int w25), .val (.int w28)] [(.int (1 : Int32))]))
          refine Run.go (fun _ k => XS.goto X29.here hx rfl (pc0 := 198) (pc' := 202) rfl (hb hby at_198) (by decide) (by decide) k) ?_
          show Run p e below s 1 2 (Q_rm0 Z q1 p2 p3 p4 h0 n0) (T29.setTop (mkF m 202 #[.val (.long q1), .second, .val (.int p2), .val (.int p3), .val (.int p4), .val (.long z5), .second, .val (.long z6), .second, .val (.long z7), .second, .val (.int z8), .val (.long w10), .second, .val (.ref b12), .val (.int (F_rm3 (0 : Int64) w10)), .val (.int (F_rm3 ((0 : Int64) + z5) w10)), .val (.int (F_rm3 (((0 : Int64) + z5) + z6) w10)), .val (.int w22), .val (.int w25), .val (.int w28)] [(.int (1 : Int32))]))
          exact Run.retN (y := 1) X29 hx (t := .boolean) Bd.returns (by simp) rfl Bd.notSynchronized (hb hby at_202) (by decide) (by decide) ⟨rfl, N29⟩
        by_cases hc30 : ((z5 + z6) < w10)
        · refine Run.go (fun _ k => XS.ifYes X26.here hx rfl (pc0 := 166) (pc' := 173) rfl (hb hby at_166) rfl ((if0 _ _).trans (tlt ((lw_lt (z5 + z6) w10).mpr hc30)).1) (by decide) (by decide) k) ?_
          show Run p e below s 1 2 (Q_rm0 Z q1 p2 p3 p4 h0 n0) (T26.setTop (mkF m 173 #[.val (.long q1), .second, .val (.int p2), .val (.int p3), .val (.int p4), .val (.long z5), .second, .val (.long z6), .second, .val (.long z7), .second, .val (.int z8), .val (.long w10), .second, .val (.ref b12), .val (.int (F_rm3 (0 : Int64) w10)), .val (.int (F_rm3 ((0 : Int64) + z5) w10)), .val (.int (F_rm3 (((0 : Int64) + z5) + z6) w10)), .val (.int w22), .val (.int w25), .unset] []))
          refine Run.go (fun _ k => XS.iconst X26.here hx rfl (hb hby at_173) k) ?_
          show Run p e below s 1 2 (Q_rm0 Z q1 p2 p3 p4 h0 n0) (T26.setTop (mkF m 174 #[.val (.long q1), .second, .val (.int p2), .val (.int p3), .val (.int p4), .val (.long z5), .second, .val (.long z6), .second, .val (.long z7), .second, .val (.int z8), .val (.long w10), .second, .val (.ref b12), .val (.int (F_rm3 (0 : Int64) w10)), .val (.int (F_rm3 ((0 : Int64) + z5) w10)), .val (.int (F_rm3 (((0 : Int64) + z5) + z6) w10)), .val (.int w22), .val (.int w25), .unset] [(.int (0 : Int32))]))
          exact J27 _ (if_neg (fun q => q hc30)).symm _ _ X26 e26 N26
        · refine Run.go (fun _ k => XS.ifNo X26.here hx rfl (hb hby at_166) rfl ((if0 _ _).trans (flt (mt (lw_lt (z5 + z6) w10).mp hc30)).1) k) ?_
          show Run p e below s 1 2 (Q_rm0 Z q1 p2 p3 p4 h0 n0) (T26.setTop (mkF m 169 #[.val (.long q1), .second, .val (.int p2), .val (.int p3), .val (.int p4), .val (.long z5), .second, .val (.long z6), .second, .val (.long z7), .second, .val (.int z8), .val (.long w10), .second, .val (.ref b12), .val (.int (F_rm3 (0 : Int64) w10)), .val (.int (F_rm3 ((0 : Int64) + z5) w10)), .val (.int (F_rm3 (((0 : Int64) + z5) + z6) w10)), .val (.int w22), .val (.int w25), .unset] []))
          refine Run.go (fun _ k => XS.iconst X26.here hx rfl (hb hby at_169) k) ?_
          show Run p e below s 1 2 (Q_rm0 Z q1 p2 p3 p4 h0 n0) (T26.setTop (mkF m 170 #[.val (.long q1), .second, .val (.int p2), .val (.int p3), .val (.int p4), .val (.long z5), .second, .val (.long z6), .second, .val (.long z7), .second, .val (.int z8), .val (.long w10), .second, .val (.ref b12), .val (.int (F_rm3 (0 : Int64) w10)), .val (.int (F_rm3 ((0 : Int64) + z5) w10)), .val (.int (F_rm3 (((0 : Int64) + z5) + z6) w10)), .val (.int w22), .val (.int w25), .unset] [(.int (1 : Int32))]))
          refine Run.go (fun _ k => XS.goto X26.here hx rfl (pc0 := 170) (pc' := 174) rfl (hb hby at_170) (by decide) (by decide) k) ?_
          show Run p e below s 1 2 (Q_rm0 Z q1 p2 p3 p4 h0 n0) (T26.setTop (mkF m 174 #[.val (.long q1), .second, .val (.int p2), .val (.int p3), .val (.int p4), .val (.long z5), .second, .val (.long z6), .second, .val (.long z7), .second, .val (.int z8), .val (.long w10), .second, .val (.ref b12), .val (.int (F_rm3 (0 : Int64) w10)), .val (.int (F_rm3 ((0 : Int64) + z5) w10)), .val (.int (F_rm3 (((0 : Int64) + z5) + z6) w10)), .val (.int w22), .val (.int w25), .unset] [(.int (1 : Int32))]))
          exact J27 _ (if_pos hc30).symm _ _ X26 e26 N26
      by_cases hc31 : (z5 < w10)
      · refine Run.go (fun _ k => XS.ifYes X23.here hx rfl (pc0 := 148) (pc' := 155) rfl (hb hby at_148) rfl ((if0 _ _).trans (tlt ((lw_lt z5 w10).mpr hc31)).1) (by decide) (by decide) k) ?_
        show Run p e below s 1 2 (Q_rm0 Z q1 p2 p3 p4 h0 n0) (T23.setTop (mkF m 155 #[.val (.long q1), .second, .val (.int p2), .val (.int p3), .val (.int p4), .val (.long z5), .second, .val (.long z6), .second, .val (.long z7), .second, .val (.int z8), .val (.long w10), .second, .val (.ref b12), .val (.int (F_rm3 (0 : Int64) w10)), .val (.int (F_rm3 ((0 : Int64) + z5) w10)), .val (.int (F_rm3 (((0 : Int64) + z5) + z6) w10)), .val (.int w22), .unset, .unset] []))
        refine Run.go (fun _ k => XS.iconst X23.here hx rfl (hb hby at_155) k) ?_
        show Run p e below s 1 2 (Q_rm0 Z q1 p2 p3 p4 h0 n0) (T23.setTop (mkF m 156 #[.val (.long q1), .second, .val (.int p2), .val (.int p3), .val (.int p4), .val (.long z5), .second, .val (.long z6), .second, .val (.long z7), .second, .val (.int z8), .val (.long w10), .second, .val (.ref b12), .val (.int (F_rm3 (0 : Int64) w10)), .val (.int (F_rm3 ((0 : Int64) + z5) w10)), .val (.int (F_rm3 (((0 : Int64) + z5) + z6) w10)), .val (.int w22), .unset, .unset] [(.int (0 : Int32))]))
        exact J24 _ (if_neg (fun q => q hc31)).symm _ _ X23 e23 N23
      · refine Run.go (fun _ k => XS.ifNo X23.here hx rfl (hb hby at_148) rfl ((if0 _ _).trans (flt (mt (lw_lt z5 w10).mp hc31)).1) k) ?_
        show Run p e below s 1 2 (Q_rm0 Z q1 p2 p3 p4 h0 n0) (T23.setTop (mkF m 151 #[.val (.long q1), .second, .val (.int p2), .val (.int p3), .val (.int p4), .val (.long z5), .second, .val (.long z6), .second, .val (.long z7), .second, .val (.int z8), .val (.long w10), .second, .val (.ref b12), .val (.int (F_rm3 (0 : Int64) w10)), .val (.int (F_rm3 ((0 : Int64) + z5) w10)), .val (.int (F_rm3 (((0 : Int64) + z5) + z6) w10)), .val (.int w22), .unset, .unset] []))
        refine Run.go (fun _ k => XS.iconst X23.here hx rfl (hb hby at_151) k) ?_
        show Run p e below s 1 2 (Q_rm0 Z q1 p2 p3 p4 h0 n0) (T23.setTop (mkF m 152 #[.val (.long q1), .second, .val (.int p2), .val (.int p3), .val (.int p4), .val (.long z5), .second, .val (.long z6), .second, .val (.long z7), .second, .val (.int z8), .val (.long w10), .second, .val (.ref b12), .val (.int (F_rm3 (0 : Int64) w10)), .val (.int (F_rm3 ((0 : Int64) + z5) w10)), .val (.int (F_rm3 (((0 : Int64) + z5) + z6) w10)), .val (.int w22), .unset, .unset] [(.int (1 : Int32))]))
        refine Run.go (fun _ k => XS.goto X23.here hx rfl (pc0 := 152) (pc' := 156) rfl (hb hby at_152) (by decide) (by decide) k) ?_
        show Run p e below s 1 2 (Q_rm0 Z q1 p2 p3 p4 h0 n0) (T23.setTop (mkF m 156 #[.val (.long q1), .second, .val (.int p2), .val (.int p3), .val (.int p4), .val (.long z5), .second, .val (.long z6), .second, .val (.long z7), .second, .val (.int z8), .val (.long w10), .second, .val (.ref b12), .val (.int (F_rm3 (0 : Int64) w10)), .val (.int (F_rm3 ((0 : Int64) + z5) w10)), .val (.int (F_rm3 (((0 : Int64) + z5) + z6) w10)), .val (.int w22), .unset, .unset] [(.int (1 : Int32))]))
        exact J24 _ (if_pos hc31).symm _ _ X23 e23 N23
    by_cases hc32 : ((0 : Int64) < w10)
    · refine Run.go (fun _ k => XS.ifYes X20.here hx rfl (pc0 := 133) (pc' := 140) rfl (hb hby at_133) rfl ((if0 _ _).trans (tlt ((lw_lt (0 : Int64) w10).mpr hc32)).1) (by decide) (by decide) k) ?_
      show Run p e below s 1 2 (Q_rm0 Z q1 p2 p3 p4 h0 n0) (T20.setTop (mkF m 140 #[.val (.long q1), .second, .val (.int p2), .val (.int p3), .val (.int p4), .val (.long z5), .second, .val (.long z6), .second, .val (.long z7), .second, .val (.int z8), .val (.long w10), .second, .val (.ref b12), .val (.int (F_rm3 (0 : Int64) w10)), .val (.int (F_rm3 ((0 : Int64) + z5) w10)), .val (.int (F_rm3 (((0 : Int64) + z5) + z6) w10)), .unset, .unset, .unset] []))
      refine Run.go (fun _ k => XS.iconst X20.here hx rfl (hb hby at_140) k) ?_
      show Run p e below s 1 2 (Q_rm0 Z q1 p2 p3 p4 h0 n0) (T20.setTop (mkF m 141 #[.val (.long q1), .second, .val (.int p2), .val (.int p3), .val (.int p4), .val (.long z5), .second, .val (.long z6), .second, .val (.long z7), .second, .val (.int z8), .val (.long w10), .second, .val (.ref b12), .val (.int (F_rm3 (0 : Int64) w10)), .val (.int (F_rm3 ((0 : Int64) + z5) w10)), .val (.int (F_rm3 (((0 : Int64) + z5) + z6) w10)), .unset, .unset, .unset] [(.int (0 : Int32))]))
      exact J21 _ (if_neg (fun q => q hc32)).symm _ _ X20 e20q N20
    · refine Run.go (fun _ k => XS.ifNo X20.here hx rfl (hb hby at_133) rfl ((if0 _ _).trans (flt (mt (lw_lt (0 : Int64) w10).mp hc32)).1) k) ?_
      show Run p e below s 1 2 (Q_rm0 Z q1 p2 p3 p4 h0 n0) (T20.setTop (mkF m 136 #[.val (.long q1), .second, .val (.int p2), .val (.int p3), .val (.int p4), .val (.long z5), .second, .val (.long z6), .second, .val (.long z7), .second, .val (.int z8), .val (.long w10), .second, .val (.ref b12), .val (.int (F_rm3 (0 : Int64) w10)), .val (.int (F_rm3 ((0 : Int64) + z5) w10)), .val (.int (F_rm3 (((0 : Int64) + z5) + z6) w10)), .unset, .unset, .unset] []))
      refine Run.go (fun _ k => XS.iconst X20.here hx rfl (hb hby at_136) k) ?_
      show Run p e below s 1 2 (Q_rm0 Z q1 p2 p3 p4 h0 n0) (T20.setTop (mkF m 137 #[.val (.long q1), .second, .val (.int p2), .val (.int p3), .val (.int p4), .val (.long z5), .second, .val (.long z6), .second, .val (.long z7), .second, .val (.int z8), .val (.long w10), .second, .val (.ref b12), .val (.int (F_rm3 (0 : Int64) w10)), .val (.int (F_rm3 ((0 : Int64) + z5) w10)), .val (.int (F_rm3 (((0 : Int64) + z5) + z6) w10)), .unset, .unset, .unset] [(.int (1 : Int32))]))
      refine Run.go (fun _ k => XS.goto X20.here hx rfl (pc0 := 137) (pc' := 141) rfl (hb hby at_137) (by decide) (by decide) k) ?_
      show Run p e below s 1 2 (Q_rm0 Z q1 p2 p3 p4 h0 n0) (T20.setTop (mkF m 141 #[.val (.long q1), .second, .val (.int p2), .val (.int p3), .val (.int p4), .val (.long z5), .second, .val (.long z6), .second, .val (.long z7), .second, .val (.int z8), .val (.long w10), .second, .val (.ref b12), .val (.int (F_rm3 (0 : Int64) w10)), .val (.int (F_rm3 ((0 : Int64) + z5) w10)), .val (.int (F_rm3 (((0 : Int64) + z5) + z6) w10)), .unset, .unset, .unset] [(.int (1 : Int32))]))
      exact J21 _ (if_pos hc32).symm _ _ X20 e20q N20
  by_cases hc33 : (z8 = (0 : Int32))
  · refine Run.go (fun _ k => XS.ifNo X0.here hx rfl (hb hby at_35) rfl ((if0 _ _).trans (teq hc33).2) k) ?_
    show Run p e below s 1 2 (Q_rm0 Z q1 p2 p3 p4 h0 n0) (s₁.setTop (mkF m 38 #[.val (.long q1), .second, .val (.int p2), .val (.int p3), .val (.int p4), .val (.long z5), .second, .val (.long z6), .second, .val (.long z7), .second, .val (.int z8), .unset, .unset, .unset, .unset, .unset, .unset, .unset, .unset, .unset] []))
    refine Run.go (fun _ k => XS.lloadN X0.here hx rfl (hb hby at_38) rfl  k) ?_
    show Run p e below s 1 2 (Q_rm0 Z q1 p2 p3 p4 h0 n0) (s₁.setTop (mkF m 39 #[.val (.long q1), .second, .val (.int p2), .val (.int p3), .val (.int p4), .val (.long z5), .second, .val (.long z6), .second, .val (.long z7), .second, .val (.int z8), .unset, .unset, .unset, .unset, .unset, .unset, .unset, .unset, .unset] [(.long q1)]))
    refine Run.go (fun _ k => XS.lstore X0.here hx rfl (hb hby at_39) rfl (l' := #[.val (.long q1), .second, .val (.int p2), .val (.int p3), .val (.int p4), .val (.long z5), .second, .val (.long z6), .second, .val (.long z7), .second, .val (.int z8), .val (.long q1), .second, .unset, .unset, .unset, .unset, .unset, .unset, .unset]) rfl k) ?_
    show Run p e below s 1 2 (Q_rm0 Z q1 p2 p3 p4 h0 n0) (s₁.setTop (mkF m 41 #[.val (.long q1), .second, .val (.int p2), .val (.int p3), .val (.int p4), .val (.long z5), .second, .val (.long z6), .second, .val (.long z7), .second, .val (.int z8), .val (.long q1), .second, .unset, .unset, .unset, .unset, .unset, .unset, .unset] []))
    refine Run.go (fun _ k => XS.goto X0.here hx rfl (pc0 := 41) (pc' := 83) rfl (hb hby at_41) (by decide) (by decide) k) ?_
    show Run p e below s 1 2 (Q_rm0 Z q1 p2 p3 p4 h0 n0) (s₁.setTop (mkF m 83 #[.val (.long q1), .second, .val (.int p2), .val (.int p3), .val (.int p4), .val (.long z5), .second, .val (.long z6), .second, .val (.long z7), .second, .val (.int z8), .val (.long q1), .second, .unset, .unset, .unset, .unset, .unset, .unset, .unset] []))
    exact J9 _ (by rw [if_pos hc33]) _ _ X0 e0 N0
  · refine Run.go (fun _ k => XS.ifYes X0.here hx rfl (pc0 := 35) (pc' := 44) rfl (hb hby at_35) rfl ((if0 _ _).trans (feq hc33).2) (by decide) (by decide) k) ?_
    show Run p e below s 1 2 (Q_rm0 Z q1 p2 p3 p4 h0 n0) (s₁.setTop (mkF m 44 #[.val (.long q1), .second, .val (.int p2), .val (.int p3), .val (.int p4), .val (.long z5), .second, .val (.long z6), .second, .val (.long z7), .second, .val (.int z8), .unset, .unset, .unset, .unset, .unset, .unset, .unset, .unset, .unset] []))
    refine Run.go (fun _ k => XS.iload X0.here hx rfl (hb hby at_44) rfl  k) ?_
    show Run p e below s 1 2 (Q_rm0 Z q1 p2 p3 p4 h0 n0) (s₁.setTop (mkF m 46 #[.val (.long q1), .second, .val (.int p2), .val (.int p3), .val (.int p4), .val (.long z5), .second, .val (.long z6), .second, .val (.long z7), .second, .val (.int z8), .unset, .unset, .unset, .unset, .unset, .unset, .unset, .unset, .unset] [(.int z8)]))
    refine Run.go (fun _ k => XS.iconst X0.here hx rfl (hb hby at_46) k) ?_
    show Run p e below s 1 2 (Q_rm0 Z q1 p2 p3 p4 h0 n0) (s₁.setTop (mkF m 47 #[.val (.long q1), .second, .val (.int p2), .val (.int p3), .val (.int p4), .val (.long z5), .second, .val (.long z6), .second, .val (.long z7), .second, .val (.int z8), .unset, .unset, .unset, .unset, .unset, .unset, .unset, .unset, .unset] [(.int (1 : Int32)), (.int z8)]))
    by_cases hc34 : (z8 = (1 : Int32))
    · refine Run.go (fun _ k => XS.icmpNo X0.here hx rfl (hb hby at_47) rfl (teq hc34).2 k) ?_
      show Run p e below s 1 2 (Q_rm0 Z q1 p2 p3 p4 h0 n0) (s₁.setTop (mkF m 50 #[.val (.long q1), .second, .val (.int p2), .val (.int p3), .val (.int p4), .val (.long z5), .second, .val (.long z6), .second, .val (.long z7), .second, .val (.int z8), .unset, .unset, .unset, .unset, .unset, .unset, .unset, .unset, .unset] []))
      refine Run.go (fun _ k => XS.lload X0.here hx rfl (hb hby at_50) rfl  k) ?_
      show Run p e below s 1 2 (Q_rm0 Z q1 p2 p3 p4 h0 n0) (s₁.setTop (mkF m 52 #[.val (.long q1), .second, .val (.int p2), .val (.int p3), .val (.int p4), .val (.long z5), .second, .val (.long z6), .second, .val (.long z7), .second, .val (.int z8), .unset, .unset, .unset, .unset, .unset, .unset, .unset, .unset, .unset] [(.long z5)]))
      refine Run.go (fun _ k => XS.lload X0.here hx rfl (hb hby at_52) rfl  k) ?_
      show Run p e below s 1 2 (Q_rm0 Z q1 p2 p3 p4 h0 n0) (s₁.setTop (mkF m 54 #[.val (.long q1), .second, .val (.int p2), .val (.int p3), .val (.int p4), .val (.long z5), .second, .val (.long z6), .second, .val (.long z7), .second, .val (.int z8), .unset, .unset, .unset, .unset, .unset, .unset, .unset, .unset, .unset] [(.long z7), (.long z5)]))
      refine Run.go (fun _ k => XS.ladd X0.here hx rfl (hb hby at_54) rfl k) ?_
      show Run p e below s 1 2 (Q_rm0 Z q1 p2 p3 p4 h0 n0) (s₁.setTop (mkF m 55 #[.val (.long q1), .second, .val (.int p2), .val (.int p3), .val (.int p4), .val (.long z5), .second, .val (.long z6), .second, .val (.long z7), .second, .val (.int z8), .unset, .unset, .unset, .unset, .unset, .unset, .unset, .unset, .unset] [(.long (z5 + z7))]))
      refine Run.go (fun _ k => XS.lstore X0.here hx rfl (hb hby at_55) rfl (l' := #[.val (.long q1), .second, .val (.int p2), .val (.int p3), .val (.int p4), .val (.long z5), .second, .val (.long z6), .second, .val (.long z7), .second, .val (.int z8), .val (.long (z5 + z7)), .second, .unset, .unset, .unset, .unset, .unset, .unset, .unset]) rfl k) ?_
      show Run p e below s 1 2 (Q_rm0 Z q1 p2 p3 p4 h0 n0) (s₁.setTop (mkF m 57 #[.val (.long q1), .second, .val (.int p2), .val (.int p3), .val (.int p4), .val (.long z5), .second, .val (.long z6), .second, .val (.long z7), .second, .val (.int z8), .val (.long (z5 + z7)), .second, .unset, .unset, .unset, .unset, .unset, .unset, .unset] []))
      refine Run.go (fun _ k => XS.goto X0.here hx rfl (pc0 := 57) (pc' := 83) rfl (hb hby at_57) (by decide) (by decide) k) ?_
      show Run p e below s 1 2 (Q_rm0 Z q1 p2 p3 p4 h0 n0) (s₁.setTop (mkF m 83 #[.val (.long q1), .second, .val (.int p2), .val (.int p3), .val (.int p4), .val (.long z5), .second, .val (.long z6), .second, .val (.long z7), .second, .val (.int z8), .val (.long (z5 + z7)), .second, .unset, .unset, .unset, .unset, .unset, .unset, .unset] []))
      exact J9 _ (by rw [if_neg hc33, if_pos hc34]) _ _ X0 e0 N0
    · refine Run.go (fun _ k => XS.icmpYes X0.here hx rfl (pc0 := 47) (pc' := 60) rfl (hb hby at_47) rfl (feq hc34).2 (by decide) (by decide) k) ?_
      show Run p e below s 1 2 (Q_rm0 Z q1 p2 p3 p4 h0 n0) (s₁.setTop (mkF m 60 #[.val (.long q1), .second, .val (.int p2), .val (.int p3), .val (.int p4), .val (.long z5), .second, .val (.long z6), .second, .val (.long z7), .second, .val (.int z8), .unset, .unset, .unset, .unset, .unset, .unset, .unset, .unset, .unset] []))
      refine Run.go (fun _ k => XS.iload X0.here hx rfl (hb hby at_60) rfl  k) ?_
      show Run p e below s 1 2 (Q_rm0 Z q1 p2 p3 p4 h0 n0) (s₁.setTop (mkF m 62 #[.val (.long q1), .second, .val (.int p2), .val (.int p3), .val (.int p4), .val (.long z5), .second, .val (.long z6), .second, .val (.long z7), .second, .val (.int z8), .unset, .unset, .unset, .unset, .unset, .unset, .unset, .unset, .unset] [(.int z8)]))
      refine Run.go (fun _ k => XS.iconst X0.here hx rfl (hb hby at_62) k) ?_
      show Run p e below s 1 2 (Q_rm0 Z q1 p2 p3 p4 h0 n0) (s₁.setTop (mkF m 63 #[.val (.long q1), .second, .val (.int p2), .val (.int p3), .val (.int p4), .val (.long z5), .second, .val (.long z6), .second, .val (.long z7), .second, .val (.int z8), .unset, .unset, .unset, .unset, .unset, .unset, .unset, .unset, .unset] [(.int (2 : Int32)), (.int z8)]))
      by_cases hc35 : (z8 = (2 : Int32))
      · refine Run.go (fun _ k => XS.icmpNo X0.here hx rfl (hb hby at_63) rfl (teq hc35).2 k) ?_
        show Run p e below s 1 2 (Q_rm0 Z q1 p2 p3 p4 h0 n0) (s₁.setTop (mkF m 66 #[.val (.long q1), .second, .val (.int p2), .val (.int p3), .val (.int p4), .val (.long z5), .second, .val (.long z6), .second, .val (.long z7), .second, .val (.int z8), .unset, .unset, .unset, .unset, .unset, .unset, .unset, .unset, .unset] []))
        refine Run.go (fun _ k => XS.lload X0.here hx rfl (hb hby at_66) rfl  k) ?_
        show Run p e below s 1 2 (Q_rm0 Z q1 p2 p3 p4 h0 n0) (s₁.setTop (mkF m 68 #[.val (.long q1), .second, .val (.int p2), .val (.int p3), .val (.int p4), .val (.long z5), .second, .val (.long z6), .second, .val (.long z7), .second, .val (.int z8), .unset, .unset, .unset, .unset, .unset, .unset, .unset, .unset, .unset] [(.long z5)]))
        refine Run.go (fun _ k => XS.lload X0.here hx rfl (hb hby at_68) rfl  k) ?_
        show Run p e below s 1 2 (Q_rm0 Z q1 p2 p3 p4 h0 n0) (s₁.setTop (mkF m 70 #[.val (.long q1), .second, .val (.int p2), .val (.int p3), .val (.int p4), .val (.long z5), .second, .val (.long z6), .second, .val (.long z7), .second, .val (.int z8), .unset, .unset, .unset, .unset, .unset, .unset, .unset, .unset, .unset] [(.long z6), (.long z5)]))
        refine Run.go (fun _ k => XS.ladd X0.here hx rfl (hb hby at_70) rfl k) ?_
        show Run p e below s 1 2 (Q_rm0 Z q1 p2 p3 p4 h0 n0) (s₁.setTop (mkF m 71 #[.val (.long q1), .second, .val (.int p2), .val (.int p3), .val (.int p4), .val (.long z5), .second, .val (.long z6), .second, .val (.long z7), .second, .val (.int z8), .unset, .unset, .unset, .unset, .unset, .unset, .unset, .unset, .unset] [(.long (z5 + z6))]))
        refine Run.go (fun _ k => XS.lload X0.here hx rfl (hb hby at_71) rfl  k) ?_
        show Run p e below s 1 2 (Q_rm0 Z q1 p2 p3 p4 h0 n0) (s₁.setTop (mkF m 73 #[.val (.long q1), .second, .val (.int p2), .val (.int p3), .val (.int p4), .val (.long z5), .second, .val (.long z6), .second, .val (.long z7), .second, .val (.int z8), .unset, .unset, .unset, .unset, .unset, .unset, .unset, .unset, .unset] [(.long z7), (.long (z5 + z6))]))
        refine Run.go (fun _ k => XS.ladd X0.here hx rfl (hb hby at_73) rfl k) ?_
        show Run p e below s 1 2 (Q_rm0 Z q1 p2 p3 p4 h0 n0) (s₁.setTop (mkF m 74 #[.val (.long q1), .second, .val (.int p2), .val (.int p3), .val (.int p4), .val (.long z5), .second, .val (.long z6), .second, .val (.long z7), .second, .val (.int z8), .unset, .unset, .unset, .unset, .unset, .unset, .unset, .unset, .unset] [(.long ((z5 + z6) + z7))]))
        refine Run.go (fun _ k => XS.lstore X0.here hx rfl (hb hby at_74) rfl (l' := #[.val (.long q1), .second, .val (.int p2), .val (.int p3), .val (.int p4), .val (.long z5), .second, .val (.long z6), .second, .val (.long z7), .second, .val (.int z8), .val (.long ((z5 + z6) + z7)), .second, .unset, .unset, .unset, .unset, .unset, .unset, .unset]) rfl k) ?_
        show Run p e below s 1 2 (Q_rm0 Z q1 p2 p3 p4 h0 n0) (s₁.setTop (mkF m 76 #[.val (.long q1), .second, .val (.int p2), .val (.int p3), .val (.int p4), .val (.long z5), .second, .val (.long z6), .second, .val (.long z7), .second, .val (.int z8), .val (.long ((z5 + z6) + z7)), .second, .unset, .unset, .unset, .unset, .unset, .unset, .unset] []))
        refine Run.go (fun _ k => XS.goto X0.here hx rfl (pc0 := 76) (pc' := 83) rfl (hb hby at_76) (by decide) (by decide) k) ?_
        show Run p e below s 1 2 (Q_rm0 Z q1 p2 p3 p4 h0 n0) (s₁.setTop (mkF m 83 #[.val (.long q1), .second, .val (.int p2), .val (.int p3), .val (.int p4), .val (.long z5), .second, .val (.long z6), .second, .val (.long z7), .second, .val (.int z8), .val (.long ((z5 + z6) + z7)), .second, .unset, .unset, .unset, .unset, .unset, .unset, .unset] []))
        exact J9 _ (by rw [if_neg hc33, if_neg hc34, if_pos hc35]) _ _ X0 e0 N0
      · refine Run.go (fun _ k => XS.icmpYes X0.here hx rfl (pc0 := 63) (pc' := 79) rfl (hb hby at_63) rfl (feq hc35).2 (by decide) (by decide) k) ?_
        show Run p e below s 1 2 (Q_rm0 Z q1 p2 p3 p4 h0 n0) (s₁.setTop (mkF m 79 #[.val (.long q1), .second, .val (.int p2), .val (.int p3), .val (.int p4), .val (.long z5), .second, .val (.long z6), .second, .val (.long z7), .second, .val (.int z8), .unset, .unset, .unset, .unset, .unset, .unset, .unset, .unset, .unset] []))
        refine Run.go (fun _ k => XS.lload X0.here hx rfl (hb hby at_79) rfl  k) ?_
        show Run p e below s 1 2 (Q_rm0 Z q1 p2 p3 p4 h0 n0) (s₁.setTop (mkF m 81 #[.val (.long q1), .second, .val (.int p2), .val (.int p3), .val (.int p4), .val (.long z5), .second, .val (.long z6), .second, .val (.long z7), .second, .val (.int z8), .unset, .unset, .unset, .unset, .unset, .unset, .unset, .unset, .unset] [(.long z7)]))
        refine Run.go (fun _ k => XS.lstore X0.here hx rfl (hb hby at_81) rfl (l' := #[.val (.long q1), .second, .val (.int p2), .val (.int p3), .val (.int p4), .val (.long z5), .second, .val (.long z6), .second, .val (.long z7), .second, .val (.int z8), .val (.long z7), .second, .unset, .unset, .unset, .unset, .unset, .unset, .unset]) rfl k) ?_
        show Run p e below s 1 2 (Q_rm0 Z q1 p2 p3 p4 h0 n0) (s₁.setTop (mkF m 83 #[.val (.long q1), .second, .val (.int p2), .val (.int p3), .val (.int p4), .val (.long z5), .second, .val (.long z6), .second, .val (.long z7), .second, .val (.int z8), .val (.long z7), .second, .unset, .unset, .unset, .unset, .unset, .unset, .unset] []))
        exact J9 _ (by rw [if_neg hc33, if_neg hc34, if_neg hc35]) _ _ X0 e0 N0
set_option maxRecDepth 65536 in
set_option maxHeartbeats 40000000 in
theorem comes_1 {Post : Tables → Env → Array Value → State → Outcome → State → Prop} (hpost : ∀ tb e args s v u, (limb_1_1.after args s (.returned v) u = true ∧ limb_1_2.after args s (.returned v) u = true ∧ True) → FrameEnd s (.returned v) u (Jvm.fieldLocs frame_1_writes args s ++ Jvm.arrayLocs frame_1_arrays args s ++ Jvm.staticLocs frame_1_statics s) 16 128 → Post tb e args s (.returned v) u) :
    ArmFor flags0 classFile x code maxLocals ret World_1 tables_1 room_1 Calls_1 rest_1 Pre_1 Post := by
  intro l hfl _ _ p e ha hc hk s m args below hf hA hF happ hP
  obtain ⟨hcalls, hrest, hpre⟩ := hP
  obtain ⟨-, -, -, hnamed, -, -, -, hat⟩ := (Spec.applies_iff hf).mp happ
  obtain ⟨hg, hn⟩ := and_e (Cond.before_iff.mp (show (Jvm.Cond.and given_1 narrow_1).before args s = true from hpre))
  obtain ⟨g1, g2⟩ := and_e hg
  obtain ⟨g3, g4⟩ := and_e g2
  obtain ⟨g5, g6⟩ := and_e g4
  obtain ⟨g7, g8⟩ := and_e g6
  obtain ⟨w0, w1, w2, w3, rfl⟩ : ∃ w0 w1 w2 w3 : Value, args = #[w0, w1, w2, w3] := by
    have hs : args.size = 4 := by simpa [Cond.value, given_1] using g1
    obtain ⟨L⟩ := args
    match L, hs with
    | [w0, w1, w2, w3], _ => exact ⟨w0, w1, w2, w3, rfl⟩
  have hw := fun d (hd : d ∈ tables_1) => atoms_spec (ws := Jvm.Cond.code x code maxLocals ret :: tables_1) hat d (List.mem_cons_of_mem _ hd)
  have hfit : Fit s := fun {y c} hc i hi => by
    obtain ⟨ha, rfl⟩ := Array.getElem?_eq_some_iff.mp hc
    have q := List.all_eq_true.mp ((Array.all_eq_true_iff_forall_mem.mp hF) _ (Array.getElem_mem ha)) i (List.mem_range.mpr hi)
    simpa [Array.getElem?_eq_getElem hi] using q
  obtain ⟨i0, ei0⟩ := isL_v g3
  obtain rfl : w0 = (.long i0) := Option.some.inj ei0
  obtain ⟨i1, ei1⟩ := is_v g5
  obtain rfl : w1 = (.int i1) := Option.some.inj ei1
  obtain ⟨i2, ei2⟩ := is_v g7
  obtain rfl : w2 = (.int i2) := Option.some.inj ei2
  obtain ⟨i3, ei3⟩ := is_v g8
  obtain rfl : w3 = (.int i3) := Option.some.inj ei3
  obtain ⟨n, o, h1, h2, h3, _, L, rfl, ⟨rfl, N⟩, hq⟩ := rm0 l s _ hw tables_1 i0 i1 i2 i3 s.heap s.heap.size (Nat.le_refl _)  p e ha hc hk s m _ below hf ((Spec.applies_iff_loose hf).mp happ).1 ⟨rfl, State.Warmed39.refl s, rfl⟩ trivial
  refine ⟨n, _, h1, h2, h3, hpost _ _ _ _ _ _ ⟨Cond.after_iff.mpr rfl, Cond.after_iff.mpr (eq_i res_at (Term.int_eval (1)) rfl), trivial⟩ ⟨hq.1, hq.2.1, (hq.2.2.sift fun y hy => Or.inr (N y hy)).mono (by decide) (by decide)⟩⟩
theorem main_1_1 : Claimed_1_1 := comes_1 fun _ _ _ _ _ _ h hF => ⟨h.1, hF⟩
theorem main_1_2 : Claimed_1_2 := comes_1 fun _ _ _ _ _ _ h hF => ⟨h.2.1, hF⟩
end Jvm.Pilot.@@N@@
namespace Jvm.Pilot.@@N@@
open Jvm Jvm.ClassFile Sem Op Lib Jvm.Free Jvm.Stand Jvm.Pilot.@@N@@.Jvm.D
/-! MADE BY PROGRAM (witnessworld.py) out of the Statement's table words and the real class files: 9 classes; the members and pool entries that the words name. The judged class is class 1, her method 1. -/
namespace start1
open Jvm.ClassFile
def u (s : String) : CpInfo := .utf8 (stringToUtf16 s)
/-- a pool by its gaps: so many unusable entries, then the entry; so many at the end -/
def gap : Nat → List CpInfo → List CpInfo
  | 0, r => r
  | n + 1, r => .unusable :: gap n r
def poolList (es : List (Nat × CpInfo)) (last : Nat) : List CpInfo := es.foldr (fun e r => gap e.1 (e.2 :: r)) (gap last [])
def pool (es : List (Nat × CpInfo)) (last : Nat) : Array CpInfo := ⟨poolList es last⟩
def fileOf (pool : Array CpInfo) (this : Nat) (attrs : Array Attribute := #[]) (ms : Array MethodInfo := #[]) (fl : Nat := 33) (sup : Nat := 0) (ifs : Array Nat := #[]) (fds : Array FieldInfo := #[]) : ClassFile where
  minorVersion := 0
  majorVersion := 65
  constantPool := pool
  accessFlags := fl
  thisClass := this
  superClass := sup
  interfaces := ifs
  fields := fds
  methods := ms
  attributes := attrs
def plain (name : String) (sup : Option ClassId) : Class where
  name := name
  kind := .ordinary
  loader := none
  accessFlags := 33
  super := sup
  interfaces := #[]
  cf := none
  fields := #[]
  methods := #[]
  instanceTypes := #[]
  staticTypes := #[]
  resolved := #[]
  callSites := []
  init := .initialized
  statics := none
  mirror := none

def pool0 : Array CpInfo := pool [(5, u "<init>"), (0, u "()V"), (1, .class_ 10), (1, u "java/lang/Object")] 113

def k0c0 : Code := { maxStack := 0, maxLocals := 1, code := object_method_1_code, exceptionTable := #[], attributes := #[] }
def k0m0 : Method := { name := "<init>", desc := "()V", sig := { parameters := [], returnType := none }, accessFlags := 1, code := some k0c0 }
/-- java/lang/Object -/
def k0 : Class := { plain "java/lang/Object" none with
  accessFlags := 33
  interfaces := #[]
  cf := some (fileOf pool0 8 #[] #[{ accessFlags := 1, nameIndex := 5, descriptorIndex := 6, attributes := #[] }] 33 0 #[] #[])
  fields := #[]
  methods := #[k0m0]
  instanceTypes := #[]
  staticTypes := #[]
  resolved := Array.replicate 124 none
  statics := none }

def pool1 : Array CpInfo := pool [(2, .class_ 4), (1, u "java/lang/Object"), (0, u "<init>"), (0, u "()V"), (0, .long 2147483647), (1, .class_ 10), (0, u "com/example/exact_table/exacttable/SizeCap"), (0, .methodref 9 12), (0, .nameAndType 5 13), (0, u "(J)V"), (0, .methodref 9 15), (0, .nameAndType 16 17), (0, u "reached"), (0, u "()Z"), (0, .methodref 9 19), (0, .nameAndType 20 13), (0, u "count"), (0, .class_ 22), (0, u "com/example/exact_table/exacttable/SizeCapReachedPinLaw"), (2, u "law"), (0, u "(JIII)Z")] 3

def k1m0 : Method := { name := "<init>", desc := "()V", sig := { parameters := [], returnType := none }, accessFlags := 1, code := none }
def k1c1 : Code := { maxStack := 4, maxLocals := 21, code := code, exceptionTable := #[], attributes := #[] }
def k1m1 : Method := { name := "law", desc := "(JIII)Z", sig := { parameters := [.long, .int, .int, .int], returnType := some .boolean }, accessFlags := 9, code := some k1c1 }
/-- com/example/exact_table/exacttable/SizeCapReachedPinLaw -/
def k1 : Class := { plain "com/example/exact_table/exacttable/SizeCapReachedPinLaw" (some 0) with
  accessFlags := 49
  interfaces := #[]
  cf := some (fileOf pool1 21 #[] #[{ accessFlags := 1, nameIndex := 5, descriptorIndex := 6, attributes := #[] }, { accessFlags := 9, nameIndex := 25, descriptorIndex := 26, attributes := #[] }] 49 2 #[] #[])
  fields := #[]
  methods := #[k1m0, k1m1]
  instanceTypes := #[]
  staticTypes := #[]
  resolved := Array.replicate 30 none
  statics := none }

def pool2 : Array CpInfo := pool [(1, .methodref 2 3), (0, .class_ 4), (0, .nameAndType 5 6), (0, u "java/lang/Object"), (0, u "<init>"), (0, u "()V"), (0, .fieldref 8 9), (0, .class_ 10), (0, .nameAndType 11 12), (0, u "com/example/exact_table/exacttable/SizeCap"), (0, u "cap"), (0, u "J"), (0, .fieldref 8 14), (0, .nameAndType 15 12), (0, u "counted"), (0, u "(J)V"), (2, u "count"), (0, u "reached"), (0, u "()Z")] 3

def k2c0 : Code := { maxStack := 3, maxLocals := 3, code := prog_69_method_1_code, exceptionTable := #[], attributes := #[] }
def k2m0 : Method := { name := "<init>", desc := "(J)V", sig := { parameters := [.long], returnType := none }, accessFlags := 0, code := some k2c0 }
def k2c1 : Code := { maxStack := 5, maxLocals := 3, code := prog_69_method_2_code, exceptionTable := #[], attributes := #[] }
def k2m1 : Method := { name := "count", desc := "(J)V", sig := { parameters := [.long], returnType := none }, accessFlags := 0, code := some k2c1 }
def k2c2 : Code := { maxStack := 4, maxLocals := 1, code := prog_69_method_3_code, exceptionTable := #[], attributes := #[] }
def k2m2 : Method := { name := "reached", desc := "()Z", sig := { parameters := [], returnType := some .boolean }, accessFlags := 0, code := some k2c2 }
/-- com/example/exact_table/exacttable/SizeCap -/
def k2 : Class := { plain "com/example/exact_table/exacttable/SizeCap" (some 0) with
  accessFlags := 48
  interfaces := #[]
  cf := some (fileOf pool2 8 #[] #[{ accessFlags := 0, nameIndex := 5, descriptorIndex := 16, attributes := #[] }, { accessFlags := 0, nameIndex := 19, descriptorIndex := 16, attributes := #[] }, { accessFlags := 0, nameIndex := 20, descriptorIndex := 21, attributes := #[] }] 48 2 #[] #[{ accessFlags := 18, nameIndex := 11, descriptorIndex := 12, attributes := #[] }, { accessFlags := 2, nameIndex := 15, descriptorIndex := 12, attributes := #[] }])
  fields := #[{ name := "cap", type := .long, accessFlags := 18, slot := 0, constantValue := 0 }, { name := "counted", type := .long, accessFlags := 2, slot := 1, constantValue := 0 }]
  methods := #[k2m0, k2m1, k2m2]
  instanceTypes := #[.long, .long]
  staticTypes := #[]
  resolved := Array.replicate 25 none
  statics := none }

def pool3 : Array CpInfo := pool [(1, u "java/lang/Cloneable"), (0, .class_ 1), (0, u "java/lang/Object"), (0, .class_ 3)] 3

/-- java/lang/Cloneable -/
def k3 : Class := { plain "java/lang/Cloneable" (some 0) with
  accessFlags := 1537
  interfaces := #[]
  cf := some (fileOf pool3 2 #[] #[] 1537 4 #[] #[])
  fields := #[]
  methods := #[]
  instanceTypes := #[]
  staticTypes := #[]
  resolved := Array.replicate 8 none
  statics := none }

def pool4 : Array CpInfo := pool [(1, u "java/io/Serializable"), (0, .class_ 1), (0, u "java/lang/Object"), (0, .class_ 3)] 3

/-- java/io/Serializable -/
def k4 : Class := { plain "java/io/Serializable" (some 0) with
  accessFlags := 1537
  interfaces := #[]
  cf := some (fileOf pool4 2 #[] #[] 1537 4 #[] #[])
  fields := #[]
  methods := #[]
  instanceTypes := #[]
  staticTypes := #[]
  resolved := Array.replicate 8 none
  statics := none }

/-- the primitive byte -/
def k5 : Class := { plain "byte" none with kind := .primitive 'B', accessFlags := 0x411 }
/-- [B -/
def k6 : Class := { plain "[B" (some 0) with kind := .array 5 .byte, interfaces := #[3, 4], accessFlags := 1041 }

/-- the primitive int -/
def k7 : Class := { plain "int" none with kind := .primitive 'I', accessFlags := 0x411 }
/-- [I -/
def k8 : Class := { plain "[I" (some 0) with kind := .array 7 .int, interfaces := #[3, 4], accessFlags := 1041 }

def heap : Heap := #[]
def classes : Array Class := #[k0, k1, k2, k3, k4, k5, k6, k7, k8]
def interned : List (Array UInt16 × Addr) := []
def slotsUsed : Nat := 0
def theMethod : MethodId := ⟨1, 1⟩
def args0 : Array Value := #[.long 5, .int 3, .int 2, .int 1]
def aboutOver (below : List Frame) : State where
  vm := { classes := classes, interned := interned.toArray }
  heap := heap
  slotsUsed := slotsUsed
  threads := #[{ frames := .invoking theMethod args0 :: below }]
def below0 : List Frame := [.native { method := ⟨0, 0⟩, args := #[] }]
def about1 : State := aboutOver below0
def p0 : Program := .bare "" "" ""
def e0 : Env := launch0.env 0 0 0
theorem w_frames : about1.frames = Frame.invoking theMethod args0 :: below0 := rfl
set_option maxRecDepth 65536 in
theorem w_args : argsFit about1.vm theMethod args0 = true := by decide +kernel
set_option maxRecDepth 65536 in
theorem w_heap : heapFits about1 = true := by decide +kernel
set_option maxRecDepth 65536 in
theorem w_runnable : about1.curStatus? = some .runnable := by decide +kernel
set_option maxRecDepth 65536 in
theorem w_alone : about1.alone = true := by decide +kernel
set_option maxRecDepth 65536 in
theorem w_named : about1.methodNamed? x = some theMethod := by decide +kernel
set_option maxRecDepth 65536 in
theorem w_hears : about1.hears theMethod below0 = true := by decide +kernel
set_option maxRecDepth 65536 in
theorem w_ripe : about1.ripe theMethod args0 below0 = true := by decide +kernel
theorem w_running : about1.status = .running := rfl
set_option maxRecDepth 65536 in
theorem w_room : about1.hasRoom e0.platform room_1 = true :=
  launch0.hasRoom_least _ room_1 (by decide +kernel) (by decide +kernel) (by decide +kernel) (by decide +kernel) (by decide +kernel) (by decide +kernel)
theorem allAtoms_all (ts : List Jvm.Cond) (a : Array Jvm.Value) (st : Jvm.State) : (allAtoms ts).before a st = ts.all (fun c => c.before a st) := by
  induction ts with
  | nil => rfl
  | cons c t ih =>
    show (Jvm.Cond.and c (allAtoms t)).before a st = _
    rw [Jvm.Cond.before_and, ih, List.all_cons]
def words1 : List Jvm.Cond := Jvm.Cond.code x code maxLocals ret :: tables_1
/-- a 'code' word, met by the world's own term for the bytes: nothing is compared byte by byte -/
theorem code_word {y : MethodName} {bytes : ByteArray} {mx : Nat} {rt : Option FieldType} {a : Array Value} {s : State} {m : MethodId} {meth : Method} {c : Code} (h1 : s.methodNamed? y = some m) (h2 : s.vm.method? m = some meth) (h3 : meth.code = some c) (h4 : c.code = bytes)
    (h5 : (c.maxLocals == mx && c.exceptionTable.isEmpty && decide (c.maxStack ≤ mostOperands) && decide (meth.sig.returnType = rt) && !meth.locks && decide (parseMethodDescriptor y.desc = some meth.sig)) = true) : (Jvm.Cond.code y bytes mx rt).before a s = true := by
  simp only [Bool.and_eq_true, beq_iff_eq, Bool.not_eq_true', decide_eq_true_eq] at h5
  obtain ⟨⟨⟨⟨⟨g1, g2⟩, g3⟩, g4⟩, g5⟩, g6⟩ := h5
  simp [Cond.before, Cond.holds, Cond.value, h1, h2, h3, h4, g1, g2, g3, g4, g5, g6]
def isCode : Jvm.Cond → Bool
  | .code _ _ _ _ => true
  | _ => false
theorem all_split {L : List Jvm.Cond} {P : Jvm.Cond → Bool} (h1 : L.all (fun c => isCode c || P c) = true) (h2 : ∀ c ∈ L.filter isCode, P c = true) : L.all P = true := by
  refine List.all_eq_true.mpr fun c hc => ?_
  have h := List.all_eq_true.mp h1 c hc
  rcases Bool.eq_false_or_eq_true (isCode c) with hi | hi
  · exact h2 c (List.mem_filter.mpr ⟨hc, hi⟩)
  · simpa [hi] using h
set_option maxRecDepth 65536 in
theorem w_c0 : (Jvm.Cond.code x code maxLocals ret).before args0 about1 = true := code_word (m := ⟨1, 1⟩) (meth := k1m1) (c := k1c1) (by decide +kernel) rfl rfl rfl (by decide +kernel)
set_option maxRecDepth 65536 in
theorem w_c1 : (Jvm.Cond.code ({ cls := "com/example/exact_table/exacttable/SizeCap", name := "<init>", desc := "(J)V" } : Jvm.MethodName) prog_69_method_1_code (3 : Nat) (Option.none : Option Jvm.ClassFile.FieldType)).before args0 about1 = true := code_word (m := ⟨2, 0⟩) (meth := k2m0) (c := k2c0) (by decide +kernel) rfl rfl rfl (by decide +kernel)
set_option maxRecDepth 65536 in
theorem w_c2 : (Jvm.Cond.code ({ cls := "java/lang/Object", name := "<init>", desc := "()V" } : Jvm.MethodName) object_method_1_code (1 : Nat) (Option.none : Option Jvm.ClassFile.FieldType)).before args0 about1 = true := code_word (m := ⟨0, 0⟩) (meth := k0m0) (c := k0c0) (by decide +kernel) rfl rfl rfl (by decide +kernel)
set_option maxRecDepth 65536 in
theorem w_c3 : (Jvm.Cond.code ({ cls := "com/example/exact_table/exacttable/SizeCap", name := "reached", desc := "()Z" } : Jvm.MethodName) prog_69_method_3_code (1 : Nat) (Option.some Jvm.ClassFile.FieldType.boolean)).before args0 about1 = true := code_word (m := ⟨2, 2⟩) (meth := k2m2) (c := k2c2) (by decide +kernel) rfl rfl rfl (by decide +kernel)
set_option maxRecDepth 65536 in
theorem w_c4 : (Jvm.Cond.code ({ cls := "com/example/exact_table/exacttable/SizeCap", name := "count", desc := "(J)V" } : Jvm.MethodName) prog_69_method_2_code (3 : Nat) (Option.none : Option Jvm.ClassFile.FieldType)).before args0 about1 = true := code_word (m := ⟨2, 1⟩) (meth := k2m1) (c := k2c1) (by decide +kernel) rfl rfl rfl (by decide +kernel)
def codes1 : List Jvm.Cond := [Jvm.Cond.code x code maxLocals ret, Jvm.Cond.code ({ cls := "com/example/exact_table/exacttable/SizeCap", name := "<init>", desc := "(J)V" } : Jvm.MethodName) prog_69_method_1_code (3 : Nat) (Option.none : Option Jvm.ClassFile.FieldType), Jvm.Cond.code ({ cls := "java/lang/Object", name := "<init>", desc := "()V" } : Jvm.MethodName) object_method_1_code (1 : Nat) (Option.none : Option Jvm.ClassFile.FieldType), Jvm.Cond.code ({ cls := "com/example/exact_table/exacttable/SizeCap", name := "reached", desc := "()Z" } : Jvm.MethodName) prog_69_method_3_code (1 : Nat) (Option.some Jvm.ClassFile.FieldType.boolean), Jvm.Cond.code ({ cls := "com/example/exact_table/exacttable/SizeCap", name := "count", desc := "(J)V" } : Jvm.MethodName) prog_69_method_2_code (3 : Nat) (Option.none : Option Jvm.ClassFile.FieldType)]
set_option maxRecDepth 65536 in
theorem codes_eq : words1.filter isCode = codes1 := rfl
theorem w_codes : ∀ c ∈ words1.filter isCode, c.before args0 about1 = true := by
  rw [codes_eq]
  intro c hc
  simp only [codes1, List.mem_cons, List.not_mem_nil, or_false] at hc
  rcases hc with rfl | rfl | rfl | rfl | rfl
  · exact w_c0
  · exact w_c1
  · exact w_c2
  · exact w_c3
  · exact w_c4
set_option maxRecDepth 65536 in
theorem w_t1 : (words1.take 24).all (fun c => isCode c || c.before args0 about1) = true := by decide +kernel
set_option maxRecDepth 65536 in
theorem w_t2 : (words1.drop 24).all (fun c => isCode c || c.before args0 about1) = true := by decide +kernel
theorem w_tables : (allAtoms (Jvm.Cond.code x code maxLocals ret :: tables_1)).before args0 about1 = true := by
  rw [allAtoms_all]
  show words1.all (fun c => c.before args0 about1) = true
  refine all_split ?_ w_codes
  rw [← List.take_append_drop 24 words1, List.all_append, w_t1, w_t2]
  rfl
set_option maxRecDepth 65536 in
theorem w_case : (Jvm.Cond.and given_1 narrow_1).before args0 about1 = true := by decide +kernel
theorem w_applies : (headSpec (Jvm.Cond.code x code maxLocals ret :: tables_1) room_1).applies x e0.platform about1 = true :=
  (Spec.applies_iff w_frames).mpr ⟨w_running, w_runnable, w_alone, w_named, w_hears, w_ripe, w_room, w_tables⟩
theorem atStart : AtStart classFile x code maxLocals ret World_1 tables_1 room_1 Calls_1 rest_1 Pre_1 launch0 p0 e0 about1 theMethod args0 below0 :=
  ⟨lists_1, trivial, launch0.admits_env _ _ _, launch0.least_env, fairChoices_fair.cas, fairChoices_fair.clock, w_frames, w_args, w_heap, w_applies, trivial, trivial, w_case⟩
end start1
theorem witness_1 : WitnessClaimed_1 := ⟨start1.p0, start1.e0, start1.about1, start1.theMethod, start1.args0, start1.below0, start1.atStart⟩
end Jvm.Pilot.@@N@@
