import JvmDerived
import JvmDerived.Pilot.@@N@@Statement
import JvmDerived.Pilot.@@N@@Code
set_option linter.unusedVariables false
set_option linter.unusedSimpArgs false
namespace Jvm.Pilot.@@N@@
open Jvm Jvm.ClassFile Sem Op Lib Jvm.Free Jvm.Stand Jvm.LawKit Jvm.RoadKit Bundle Jvm.Pilot.@@N@@.Jvm.D
section Own
variable {p : Program} {l : Launch} {e : Env} {R : Room} {s : State} {m : MethodId} {args : Array Value} {below : List Frame} {meth : Method} {c : Code} {T : State} {locs : List Loc} {cells slots : Nat} {Z : State} {h h' : Heap}
def Run (p : Program) (e : Env) (below : List Frame) (s : State) (C N : Nat) (Q : Option Value → Heap → List Loc → Prop) (S : State) : Prop :=
  ∃ s₂ o, Steps p.tables e below S s₂ ∧ s₂.status = .running ∧ Ended s₂ below o ∧ ∃ v L, o = .returned v ∧ Q v s₂.heap L ∧ FrameEnd s o s₂ L C N
variable {C N : Nat} {Q : Option Value → Heap → List Loc → Prop} {S S' : State}
theorem Run.go (k : ∀ t, Steps p.tables e below S' t → Steps p.tables e below S t) (r : Run p e below s C N Q S') : Run p e below s C N Q S := by
  obtain ⟨s₂, o, h1, r⟩ := r
  exact ⟨s₂, o, k _ h1, r⟩
theorem Run.tr (k : Steps p.tables e below S S') (r : Run p e below s C N Q S') : Run p e below s C N Q S := by
  obtain ⟨s₂, o, h1, r⟩ := r
  exact ⟨s₂, o, k.trans h1, r⟩
theorem Run.retI (X : Stand p l e R s m args below meth c T locs cells slots) (hx : p.tables.exec = Jvm.exec) {pc : Nat} {Ls : Array Slot} {z : Int32} {rest : List Value} (hret : meth.sig.returnType = some .int) (hlk : meth.locks = false) (hd : decode c.code pc = .ok (.ireturn, 1)) (hc : cells ≤ C) (hn : slots ≤ N)
    (hQ : Q (some (.int z)) T.heap locs) : Run p e below s C N Q (T.setTop (mkF m pc Ls (.int z :: rest))) := by
  obtain ⟨fs, hr, hrun, hended, hW, hsame⟩ := X.leave (v := some (.int z)) (fun q => by rw [hret] at q; cases q)
  refine ⟨_, _, ?_, hrun, hended, _, _, rfl, hQ, ⟨_, rfl⟩, hW, hsame.mono hc hn⟩
  have hm' : T.vm.method? m = some meth := X.method'
  have hn : narrow .int (.int z) = .int z := rfl
  show Steps p.tables e below (T.setTop { method := m, pc := pc, locals := Ls, stack := _ :: rest, locked := none }) _
  jvm_step X.here [X.here.top, hx, hd, hm', hret, hn]
  first | (intro acts; rw [hr _ acts rfl rfl rfl]) | rw [hr _ _ rfl rfl rfl]
  exact Steps.refl _
theorem Run.retN (X : Stand p l e R s m args below meth c T locs cells slots) (hx : p.tables.exec = Jvm.exec) {pc : Nat} {Ls : Array Slot} {z y : Int32} {t : FieldType} {rest : List Value} (hret : meth.sig.returnType = some t) (ht : t = .boolean ∨ t = .byte ∨ t = .char ∨ t = .short) (hy : nar t z = y) (hlk : meth.locks = false) (hd : decode c.code pc = .ok (.ireturn, 1)) (hc : cells ≤ C) (hn : slots ≤ N)
    (hQ : Q (some (.int y)) T.heap locs) : Run p e below s C N Q (T.setTop (mkF m pc Ls (.int z :: rest))) := by
  subst hy
  obtain ⟨fs, hr, hrun, hended, hW, hsame⟩ := X.leave (v := some (.int (nar t z))) (fun q => by rw [hret] at q; cases q)
  exact ⟨_, _, Jvm.RoadKit.retN X hx hret ht hd hr, hrun, hended, _, _, rfl, hQ, ⟨_, rfl⟩, hW, hsame.mono hc hn⟩
theorem Run.retJ (X : Stand p l e R s m args below meth c T locs cells slots) (hx : p.tables.exec = Jvm.exec) {pc : Nat} {Ls : Array Slot} {z : Int64} {rest : List Value} (hret : meth.sig.returnType = some .long) (hlk : meth.locks = false) (hd : decode c.code pc = .ok (.lreturn, 1)) (hc : cells ≤ C) (hn : slots ≤ N)
    (hQ : Q (some (.long z)) T.heap locs) : Run p e below s C N Q (T.setTop (mkF m pc Ls (.long z :: rest))) := by
  obtain ⟨fs, hr, hrun, hended, hW, hsame⟩ := X.leave (v := some (.long z)) (fun q => by rw [hret] at q; cases q)
  refine ⟨_, _, ?_, hrun, hended, _, _, rfl, hQ, ⟨_, rfl⟩, hW, hsame.mono hc hn⟩
  have hm' : T.vm.method? m = some meth := X.method'
  show Steps p.tables e below (T.setTop { method := m, pc := pc, locals := Ls, stack := _ :: rest, locked := none }) _
  jvm_step X.here [X.here.top, hx, hd, hm', hret, narrow]
  first | (intro acts; rw [hr _ acts rfl rfl rfl]) | rw [hr _ _ rfl rfl rfl]
  exact Steps.refl _
theorem Run.retA (X : Stand p l e R s m args below meth c T locs cells slots) (hx : p.tables.exec = Jvm.exec) {pc : Nat} {Ls : Array Slot} {w : Value} {t : FieldType} {rest : List Value} (hw : w.isRef = true) (hret : meth.sig.returnType = some t) (ht : t.isReference = true) (hlk : meth.locks = false) (hd : decode c.code pc = .ok (.areturn, 1)) (hc : cells ≤ C) (hn : slots ≤ N)
    (hQ : Q (some w) T.heap locs) : Run p e below s C N Q (T.setTop (mkF m pc Ls (w :: rest))) := by
  obtain ⟨fs, hr, hrun, hended, hW, hsame⟩ := X.leave (v := some w) (fun q => by rw [hret] at q; cases q)
  refine ⟨_, _, ?_, hrun, hended, _, _, rfl, hQ, ⟨_, rfl⟩, hW, hsame.mono hc hn⟩
  have hm' : T.vm.method? m = some meth := X.method'
  show Steps p.tables e below (T.setTop { method := m, pc := pc, locals := Ls, stack := _ :: rest, locked := none }) _
  rcases ref_cases hw with rfl | ⟨a, rfl⟩
  all_goals
    jvm_step X.here [X.here.top, hx, hd, hm', hret, Value.isRef, ht]
    first | (intro acts; rw [hr _ acts rfl rfl rfl]) | rw [hr _ _ rfl rfl rfl]
    exact Steps.refl _
theorem Run.ret0 (X : Stand p l e R s m args below meth c T locs cells slots) (hx : p.tables.exec = Jvm.exec) {pc : Nat} {Ls : Array Slot} (hret : meth.sig.returnType = none) (hlk : meth.locks = false) (hd : decode c.code pc = .ok (.return_, 1)) (hc : cells ≤ C) (hn : slots ≤ N)
    (hQ : Q none T.heap locs) : Run p e below s C N Q (T.setTop (mkF m pc Ls [])) := by
  obtain ⟨fs, hr, hrun, hended, hW, hsame⟩ := X.leave (v := none) (fun _ => rfl)
  exact ⟨_, _, X.returnOut hx hret hd hr, hrun, hended, _, _, rfl, hQ, ⟨_, rfl⟩, hW, hsame.mono hc hn⟩
theorem Sta.keep {C n d : String} {w : Value} {ws : List Addr} (F : Sta Z h C n d w) (K : Keep h h' ws) (q : ∀ x ∈ ws, ∀ c : Cell, h[x]? = some c → c.vm.isStatics = false) : Sta Z h' C n d w := by
  obtain ⟨cf, i, k, f, st, cell, h1, h2, h3, h4, h5, h6, h7⟩ := F
  refine ⟨cf, i, k, f, st, cell, h1, h2, h3, h4, K.2.1 st cell h5 (fun hm => ?_), h6, h7⟩
  rw [q st hm cell h5] at h6; cases h6
theorem Exa.nst {a : Addr} {C : String} (F : Exa Z h a C) : ∀ c : Cell, h[a]? = some c → c.vm.isStatics = false := fun c q => by
  obtain ⟨cell, k, h1, -, -, h4, -⟩ := F
  cases h1.symm.trans q; exact h4
/-- an array of n elements, the i-th is f i -/
def Ary (Z : State) (h : Heap) (a : Addr) (ty : FieldType) (n : Nat) (f : Nat → Value) : Prop := ∃ c : Cell, Arr Z h a c ty ∧ c.slots.size = n ∧ ∀ i, i < n → c.slots[i]? = some (f i)
variable {a b : Addr} {ty : FieldType} {n sl : Nat} {f : Nat → Value} {v : Value} {ws : List Addr}
theorem Ary.lt (F : Ary Z h a ty n f) : a < h.size := by obtain ⟨c, A, -⟩ := F; exact A.lt
theorem Ary.ext (F : Ary Z h a ty n f) (E : Ext h h') : Ary Z h' a ty n f := by obtain ⟨c, A, r⟩ := F; exact ⟨c, A.ext E, r⟩
theorem Ary.other (F : Ary Z h b ty n f) (W : Wr h h' a sl v) (q : b ≠ a) : Ary Z h' b ty n f := by obtain ⟨c, A, r⟩ := F; exact ⟨c, A.other W q, r⟩
theorem Ary.keep (F : Ary Z h a ty n f) (K : Keep h h' ws) (q : a ∉ ws) : Ary Z h' a ty n f := by obtain ⟨c, A, r⟩ := F; exact ⟨c, ⟨K.2.1 a c A.1 q, A.2⟩, r⟩
theorem Ary.ne {C : String} {a0 : Array Value} {k : Nat} (F : Ary Z h a ty n f) (G : Exa Z h b C) (wi : (Jvm.Cond.instantiable C k).before a0 Z = true) : a ≠ b := by
  obtain ⟨c, A, r⟩ := F; exact (ne_arr G wi A).symm
theorem Ary.same (F : Ary Z h a ty n f) (W : Wr h h' a sl v) : Ary Z h' a ty n (fun i => if i = sl then v else f i) := by
  obtain ⟨c, A, hs, hf⟩ := F
  obtain ⟨c1, q1, q2, q3, q4⟩ := W
  obtain rfl := Option.some.inj (q1.symm.trans A.1)
  refine ⟨c1.setSlot sl v, A.same ⟨c1, q1, q2, q3, q4⟩, by simp [Cell.setSlot, hs], fun i hi => ?_⟩
  by_cases e : i = sl
  · subst e; simp [Cell.setSlot, q3]
  · simp only [if_neg e]; rw [← hf i hi]; exact Array.getElem?_setIfInBounds_ne (Ne.symm e)
theorem Ary.nst (F : Ary Z h a ty n f) : ∀ c : Cell, h[a]? = some c → c.vm.isStatics = false := fun c q => by
  obtain ⟨cl, A, -⟩ := F
  cases A.1.symm.trans q; exact A.plain
theorem Ary.congr {g : Nat → Value} (F : Ary Z h a ty n f) (q : ∀ i, i < n → f i = g i) : Ary Z h a ty n g := by
  obtain ⟨c, A, hs, hf⟩ := F; exact ⟨c, A, hs, fun i hi => by rw [hf i hi, q i hi]⟩
theorem Ary.new {k : ClassId} {z : Int32} (A : Arr Z h a (newA k ty z) ty) (q : z.toNatClampNeg = n) : Ary Z h a ty n (fun _ => defaultValue ty) := by
  subst q
  exact ⟨_, A, sz_new _ _ _, fun i hi => by simp [newA, hi]⟩
theorem out_of {j : Int32} {c : Cell} (hs : c.slots.size = n) (h0 : ¬ j < 0) (hj : j.toNatClampNeg < n) : ¬ (j < 0 ∨ c.slots.size ≤ j.toNatClampNeg) := by
  rw [hs]; exact fun q => q.elim h0 (fun q => absurd hj (Nat.not_lt.mpr q))
/-- an array of references: besides, its class is that of arrays over C -/
def ArR (Z : State) (h : Heap) (a : Addr) (C : String) (n : Nat) (f : Nat → Value) : Prop := ∃ c : Cell, Arr Z h a c (.object C) ∧ Ovr Z c.cls C ∧ c.slots.size = n ∧ ∀ i, i < n → c.slots[i]? = some (f i)
variable {K : String}
theorem ArR.lt (F : ArR Z h a K n f) : a < h.size := by obtain ⟨c, A, -⟩ := F; exact A.lt
theorem ArR.ext (F : ArR Z h a K n f) (E : Ext h h') : ArR Z h' a K n f := by obtain ⟨c, A, r⟩ := F; exact ⟨c, A.ext E, r⟩
theorem ArR.other (F : ArR Z h b K n f) (W : Wr h h' a sl v) (q : b ≠ a) : ArR Z h' b K n f := by obtain ⟨c, A, r⟩ := F; exact ⟨c, A.other W q, r⟩
theorem ArR.keep (F : ArR Z h a K n f) (k : Keep h h' ws) (q : a ∉ ws) : ArR Z h' a K n f := by obtain ⟨c, A, r⟩ := F; exact ⟨c, ⟨k.2.1 a c A.1 q, A.2⟩, r⟩
theorem ArR.ary (F : ArR Z h a K n f) : Ary Z h a (.object K) n f := by obtain ⟨c, A, -, r⟩ := F; exact ⟨c, A, r⟩
theorem ArR.same (F : ArR Z h a K n f) (W : Wr h h' a sl v) : ArR Z h' a K n (fun i => if i = sl then v else f i) := by
  obtain ⟨c, A, o, hs, hf⟩ := F
  obtain ⟨c1, q1, q2, q3, q4⟩ := W
  obtain rfl := Option.some.inj (q1.symm.trans A.1)
  refine ⟨c1.setSlot sl v, A.same ⟨c1, q1, q2, q3, q4⟩, o, by simp [Cell.setSlot, hs], fun i hi => ?_⟩
  by_cases e : i = sl
  · subst e; simp [Cell.setSlot, q3]
  · simp only [if_neg e]; rw [← hf i hi]; exact Array.getElem?_setIfInBounds_ne (Ne.symm e)
theorem ArR.new {k : ClassId} {z : Int32} (A : Arr Z h a (newA k (.object K) z) (.object K)) (O : Ovr Z k K) (q : z.toNatClampNeg = n) : ArR Z h a K n (fun _ => .null) := by
  subst q
  exact ⟨_, A, O, sz_new _ _ _, fun i hi => by simp [newA, hi]; rfl⟩
section Arrays
theorem ary_iget (X : Stand p l e R s m args below meth c T locs cells slots) (hx : p.tables.exec = Jvm.exec) (hZ : Z.Warmed39 s.vm) (eT : T.heap = h) (A : Ary Z h a .int n f) {j : Int32} (h0 : ¬ j < 0) (hj : j.toNatClampNeg < n) {g : JFrame} (hg : g.method = m) {rest : List Value} (hs : g.stack = .int j :: .ref a :: rest) (hd : decode c.code g.pc = .ok (.iaload, 1)) {v : Value} (hv : f j.toNatClampNeg = v) (target : State)
    (k : Steps p.tables e below (T.setTop { g with pc := g.pc + 1, stack := v :: rest }) target) : Steps p.tables e below (T.setTop g) target := by
  subst hv; obtain ⟨cl, A, q, F⟩ := A
  exact X.iaload hx (by rw [eT]; exact A.1) (State.isArrayOf_alike hZ.alike A.2.1) A.2.2 (out_of q h0 hj) (F _ hj) hg hs hd target k
theorem ary_lget (X : Stand p l e R s m args below meth c T locs cells slots) (hx : p.tables.exec = Jvm.exec) (hZ : Z.Warmed39 s.vm) (eT : T.heap = h) (A : Ary Z h a .long n f) {j : Int32} (h0 : ¬ j < 0) (hj : j.toNatClampNeg < n) {g : JFrame} (hg : g.method = m) {rest : List Value} (hs : g.stack = .int j :: .ref a :: rest) (hd : decode c.code g.pc = .ok (.laload, 1)) {v : Value} (hv : f j.toNatClampNeg = v) (target : State)
    (k : Steps p.tables e below (T.setTop { g with pc := g.pc + 1, stack := v :: rest }) target) : Steps p.tables e below (T.setTop g) target := by
  subst hv; obtain ⟨cl, A, q, F⟩ := A
  exact X.laload hx (by rw [eT]; exact A.1) (State.isArrayOf_alike hZ.alike A.2.1) A.2.2 (out_of q h0 hj) (F _ hj) hg hs hd target k
theorem ary_bget (X : Stand p l e R s m args below meth c T locs cells slots) (hx : p.tables.exec = Jvm.exec) (hZ : Z.Warmed39 s.vm) (eT : T.heap = h) (A : Ary Z h a .byte n f) {j : Int32} (h0 : ¬ j < 0) (hj : j.toNatClampNeg < n) {g : JFrame} (hg : g.method = m) {rest : List Value} (hs : g.stack = .int j :: .ref a :: rest) (hd : decode c.code g.pc = .ok (.baload, 1)) {v : Value} (hv : f j.toNatClampNeg = v) (target : State)
    (k : Steps p.tables e below (T.setTop { g with pc := g.pc + 1, stack := v :: rest }) target) : Steps p.tables e below (T.setTop g) target := by
  subst hv; obtain ⟨cl, A, q, F⟩ := A
  exact X.baloadBytes hx (by rw [eT]; exact A.1) (State.isArrayOf_alike hZ.alike A.2.1) A.2.2 (out_of q h0 hj) (F _ hj) hg hs hd target k
theorem ary_cget (X : Stand p l e R s m args below meth c T locs cells slots) (hx : p.tables.exec = Jvm.exec) (hZ : Z.Warmed39 s.vm) (eT : T.heap = h) (A : Ary Z h a .char n f) {j : Int32} (h0 : ¬ j < 0) (hj : j.toNatClampNeg < n) {g : JFrame} (hg : g.method = m) {rest : List Value} (hs : g.stack = .int j :: .ref a :: rest) (hd : decode c.code g.pc = .ok (.caload, 1)) {v : Value} (hv : f j.toNatClampNeg = v) (target : State)
    (k : Steps p.tables e below (T.setTop { g with pc := g.pc + 1, stack := v :: rest }) target) : Steps p.tables e below (T.setTop g) target := by
  subst hv; obtain ⟨cl, A, q, F⟩ := A
  exact X.caload hx (by rw [eT]; exact A.1) (State.isArrayOf_alike hZ.alike A.2.1) A.2.2 (out_of q h0 hj) (F _ hj) hg hs hd target k
theorem ary_aget (X : Stand p l e R s m args below meth c T locs cells slots) (hx : p.tables.exec = Jvm.exec) (hZ : Z.Warmed39 s.vm) (eT : T.heap = h) (A : Ary Z h a ty n f) (hr : ty.isReference = true) {j : Int32} (h0 : ¬ j < 0) (hj : j.toNatClampNeg < n) {g : JFrame} (hg : g.method = m) {rest : List Value} (hs : g.stack = .int j :: .ref a :: rest) (hd : decode c.code g.pc = .ok (.aaload, 1)) {v : Value} (hv : f j.toNatClampNeg = v) (target : State)
    (k : Steps p.tables e below (T.setTop { g with pc := g.pc + 1, stack := v :: rest }) target) : Steps p.tables e below (T.setTop g) target := by
  subst hv; obtain ⟨cl, A, q, F⟩ := A
  exact X.aaload hx (by rw [eT]; exact A.1) (State.isArrayOf_alike hZ.alike A.2.1) hr A.2.2 (out_of q h0 hj) (F _ hj) hg hs hd target k
theorem ary_len (X : Stand p l e R s m args below meth c T locs cells slots) (hx : p.tables.exec = Jvm.exec) (hZ : Z.Warmed39 s.vm) (eT : T.heap = h) (A : Ary Z h a ty n f) {g : JFrame} (hg : g.method = m) {rest : List Value} (hs : g.stack = .ref a :: rest) (hd : decode c.code g.pc = .ok (.arraylength, 1)) {z : Int32} (hv : n.toInt32 = z) (target : State)
    (k : Steps p.tables e below (T.setTop { g with pc := g.pc + 1, stack := .int z :: rest }) target) : Steps p.tables e below (T.setTop g) target := by
  subst hv; obtain ⟨cl, A, q, F⟩ := A
  subst q
  exact X.arraylength hx (by rw [eT]; exact A.1) (State.isArrayOf_alike hZ.alike A.2.1) hg hs hd target k
theorem ary_iset (X : Stand p l e R s m args below meth c T locs cells slots) (hx : p.tables.exec = Jvm.exec) (hZ : Z.Warmed39 s.vm) (eT : T.heap = h) (A : Ary Z h a .int n f) {j x : Int32} (h0 : ¬ j < 0) (hj : j.toNatClampNeg < n) {g : JFrame} (hg : g.method = m) {rest : List Value} (hs : g.stack = .int x :: .int j :: .ref a :: rest) (hd : decode c.code g.pc = .ok (.iastore, 1)) :
    ∃ T' h', Stand p l e R s m args below meth c T' (locs ++ [⟨a, j.toNatClampNeg⟩]) cells slots ∧ T'.heap = h' ∧ Wr h h' a j.toNatClampNeg (.int x) ∧ ∀ target, Steps p.tables e below (T'.setTop { g with pc := g.pc + 1, stack := rest }) target → Steps p.tables e below (T.setTop g) target := by
  obtain ⟨cl, A, q, F⟩ := A
  exact stI X hx hZ eT A (out_of q h0 hj) hg hs hd
theorem ary_lset (X : Stand p l e R s m args below meth c T locs cells slots) (hx : p.tables.exec = Jvm.exec) (hZ : Z.Warmed39 s.vm) (eT : T.heap = h) (A : Ary Z h a .long n f) {j : Int32} {x : Int64} (h0 : ¬ j < 0) (hj : j.toNatClampNeg < n) {g : JFrame} (hg : g.method = m) {rest : List Value} (hs : g.stack = .long x :: .int j :: .ref a :: rest) (hd : decode c.code g.pc = .ok (.lastore, 1)) :
    ∃ T' h', Stand p l e R s m args below meth c T' (locs ++ [⟨a, j.toNatClampNeg⟩]) cells slots ∧ T'.heap = h' ∧ Wr h h' a j.toNatClampNeg (.long x) ∧ ∀ target, Steps p.tables e below (T'.setTop { g with pc := g.pc + 1, stack := rest }) target → Steps p.tables e below (T.setTop g) target := by
  obtain ⟨cl, A, q, F⟩ := A
  exact stJ X hx hZ eT A (out_of q h0 hj) hg hs hd
theorem ary_bset (X : Stand p l e R s m args below meth c T locs cells slots) (hx : p.tables.exec = Jvm.exec) (hZ : Z.Warmed39 s.vm) (eT : T.heap = h) (A : Ary Z h a .byte n f) {j x y : Int32} (h0 : ¬ j < 0) (hj : j.toNatClampNeg < n) {g : JFrame} (hg : g.method = m) {rest : List Value} (hs : g.stack = .int x :: .int j :: .ref a :: rest) (hd : decode c.code g.pc = .ok (.bastore, 1)) (hy : x.toInt8.toInt32 = y) :
    ∃ T' h', Stand p l e R s m args below meth c T' (locs ++ [⟨a, j.toNatClampNeg⟩]) cells slots ∧ T'.heap = h' ∧ Wr h h' a j.toNatClampNeg (.int y) ∧ ∀ target, Steps p.tables e below (T'.setTop { g with pc := g.pc + 1, stack := rest }) target → Steps p.tables e below (T.setTop g) target := by
  subst hy; obtain ⟨cl, A, q, F⟩ := A
  exact stB X hx hZ eT A (out_of q h0 hj) hg hs hd
theorem ary_cset (X : Stand p l e R s m args below meth c T locs cells slots) (hx : p.tables.exec = Jvm.exec) (hZ : Z.Warmed39 s.vm) (eT : T.heap = h) (A : Ary Z h a .char n f) {j x y : Int32} (h0 : ¬ j < 0) (hj : j.toNatClampNeg < n) {g : JFrame} (hg : g.method = m) {rest : List Value} (hs : g.stack = .int x :: .int j :: .ref a :: rest) (hd : decode c.code g.pc = .ok (.castore, 1)) (hy : nar .char x = y) :
    ∃ T' h', Stand p l e R s m args below meth c T' (locs ++ [⟨a, j.toNatClampNeg⟩]) cells slots ∧ T'.heap = h' ∧ Wr h h' a j.toNatClampNeg (.int y) ∧ ∀ target, Steps p.tables e below (T'.setTop { g with pc := g.pc + 1, stack := rest }) target → Steps p.tables e below (T.setTop g) target := by
  subst hy; obtain ⟨cl, A, q, F⟩ := A
  exact stC X hx hZ eT A (out_of q h0 hj) hg hs hd
theorem arr_set (X : Stand p l e R s m args below meth c T locs cells slots) (hx : p.tables.exec = Jvm.exec) (hZ : Z.Warmed39 s.vm) (eT : T.heap = h) (A : ArR Z h a K n f) {j : Int32} {y : Addr} (I : Ins Z h y K true) (h0 : ¬ j < 0) (hj : j.toNatClampNeg < n) {g : JFrame} (hg : g.method = m) {rest : List Value} (hs : g.stack = .ref y :: .int j :: .ref a :: rest) (hd : decode c.code g.pc = .ok (.aastore, 1)) :
    ∃ T' h', Stand p l e R s m args below meth c T' (locs ++ [⟨a, j.toNatClampNeg⟩]) cells slots ∧ T'.heap = h' ∧ Wr h h' a j.toNatClampNeg (.ref y) ∧ ∀ target, Steps p.tables e below (T'.setTop { g with pc := g.pc + 1, stack := rest }) target → Steps p.tables e below (T.setTop g) target := by
  obtain ⟨cl, A, O, q, F⟩ := A
  exact stR X hx hZ eT A (out_of q h0 hj) rfl (Sto.of A O I) hg hs hd
end Arrays
theorem nar_ite (P : Prop) [Decidable P] : nar .boolean (if P then (1 : Int32) else 0) = if P then 1 else 0 := by by_cases q : P <;> simp [q] <;> rfl
theorem b_idem (x : Int32) : x.toInt8.toInt32.toInt8.toInt32 = x.toInt8.toInt32 := by rw [Int8.toInt8_toInt32]
theorem isI_c (x : Int32) : ∀ n : Nat, ∃ y, (fun _ => Value.int x) n = Value.int y := fun _ => ⟨x, rfl⟩
theorem isI_s {f : Nat → Value} (q : ∀ n, ∃ y, f n = Value.int y) (k : Nat) (x : Int32) : ∀ n, ∃ y, (fun i => if i = k then Value.int x else f i) n = Value.int y := fun n => by
  by_cases e : n = k
  · exact ⟨x, if_pos e⟩
  · obtain ⟨y, hy⟩ := q n
    exact ⟨y, (if_neg e).trans hy⟩
end Own
theorem d5_0 : decode method_2_code 0 = .ok (.lload_n 0, 1) := by decide +kernel
theorem d5_1 : decode method_2_code 1 = .ok (.lstore_n 2, 1) := by decide +kernel
theorem d5_2 : decode method_2_code 2 = .ok (.lload_n 2, 1) := by decide +kernel
theorem d5_3 : decode method_2_code 3 = .ok (.ldc2_w 7, 3) := by decide +kernel
theorem d5_6 : decode method_2_code 6 = .ok (.lload_n 0, 1) := by decide +kernel
theorem d5_7 : decode method_2_code 7 = .ok (.lload_n 2, 1) := by decide +kernel
theorem d5_8 : decode method_2_code 8 = .ok (.lmul, 1) := by decide +kernel
theorem d5_9 : decode method_2_code 9 = .ok (.lsub, 1) := by decide +kernel
theorem d5_10 : decode method_2_code 10 = .ok (.lmul, 1) := by decide +kernel
theorem d5_11 : decode method_2_code 11 = .ok (.lstore_n 2, 1) := by decide +kernel
theorem d5_12 : decode method_2_code 12 = .ok (.lload_n 2, 1) := by decide +kernel
theorem d5_13 : decode method_2_code 13 = .ok (.ldc2_w 7, 3) := by decide +kernel
theorem d5_16 : decode method_2_code 16 = .ok (.lload_n 0, 1) := by decide +kernel
theorem d5_17 : decode method_2_code 17 = .ok (.lload_n 2, 1) := by decide +kernel
theorem d5_18 : decode method_2_code 18 = .ok (.lmul, 1) := by decide +kernel
theorem d5_19 : decode method_2_code 19 = .ok (.lsub, 1) := by decide +kernel
theorem d5_20 : decode method_2_code 20 = .ok (.lmul, 1) := by decide +kernel
theorem d5_21 : decode method_2_code 21 = .ok (.lstore_n 2, 1) := by decide +kernel
theorem d5_22 : decode method_2_code 22 = .ok (.lload_n 2, 1) := by decide +kernel
theorem d5_23 : decode method_2_code 23 = .ok (.ldc2_w 7, 3) := by decide +kernel
theorem d5_26 : decode method_2_code 26 = .ok (.lload_n 0, 1) := by decide +kernel
theorem d5_27 : decode method_2_code 27 = .ok (.lload_n 2, 1) := by decide +kernel
theorem d5_28 : decode method_2_code 28 = .ok (.lmul, 1) := by decide +kernel
theorem d5_29 : decode method_2_code 29 = .ok (.lsub, 1) := by decide +kernel
theorem d5_30 : decode method_2_code 30 = .ok (.lmul, 1) := by decide +kernel
theorem d5_31 : decode method_2_code 31 = .ok (.lstore_n 2, 1) := by decide +kernel
theorem d5_32 : decode method_2_code 32 = .ok (.lload_n 2, 1) := by decide +kernel
theorem d5_33 : decode method_2_code 33 = .ok (.ldc2_w 7, 3) := by decide +kernel
theorem d5_36 : decode method_2_code 36 = .ok (.lload_n 0, 1) := by decide +kernel
theorem d5_37 : decode method_2_code 37 = .ok (.lload_n 2, 1) := by decide +kernel
theorem d5_38 : decode method_2_code 38 = .ok (.lmul, 1) := by decide +kernel
theorem d5_39 : decode method_2_code 39 = .ok (.lsub, 1) := by decide +kernel
theorem d5_40 : decode method_2_code 40 = .ok (.lmul, 1) := by decide +kernel
theorem d5_41 : decode method_2_code 41 = .ok (.lstore_n 2, 1) := by decide +kernel
theorem d5_42 : decode method_2_code 42 = .ok (.lload_n 2, 1) := by decide +kernel
theorem d5_43 : decode method_2_code 43 = .ok (.ldc2_w 7, 3) := by decide +kernel
theorem d5_46 : decode method_2_code 46 = .ok (.lload_n 0, 1) := by decide +kernel
theorem d5_47 : decode method_2_code 47 = .ok (.lload_n 2, 1) := by decide +kernel
theorem d5_48 : decode method_2_code 48 = .ok (.lmul, 1) := by decide +kernel
theorem d5_49 : decode method_2_code 49 = .ok (.lsub, 1) := by decide +kernel
theorem d5_50 : decode method_2_code 50 = .ok (.lmul, 1) := by decide +kernel
theorem d5_51 : decode method_2_code 51 = .ok (.lstore_n 2, 1) := by decide +kernel
theorem d5_52 : decode method_2_code 52 = .ok (.lload_n 2, 1) := by decide +kernel
theorem d5_53 : decode method_2_code 53 = .ok (.lreturn, 1) := by decide +kernel
def F_rm5 (q1 : Int64) : Int64 := let z2 : Int64 := ((q1 * ((2 : Int64) - (q1 * q1))) * ((2 : Int64) - (q1 * (q1 * ((2 : Int64) - (q1 * q1)))))); let z3 : Int64 := ((z2 * ((2 : Int64) - (q1 * z2))) * ((2 : Int64) - (q1 * (z2 * ((2 : Int64) - (q1 * z2)))))); (z3 * ((2 : Int64) - (q1 * z3)))
def Q_rm5 (Z : State) (q1 : Int64) (h0 : Heap) (n0 : Nat) (v : Option Value) (h : Heap) (L : List Loc) : Prop := v = some (.long (F_rm5 q1)) ∧ Fr n0 L ∧ h = h0
theorem ef_rm5 (m : MethodId) (x0 : Int64) : entryFrame m #[(.long x0)] 4 = mkF m 0 #[.val (.long x0), .second, .unset, .unset] [] := by first | (simp [entryFrame, mkF, argsToLocals, Value.category]; done) | rfl
theorem pn_0 : plainName "com/example/throngwise/throngwise/generate/RandomStreamNextLongPinLaw" = true := by first | (simp [plainName, overriddenIn]; done) | decide +kernel
set_option maxRecDepth 65536 in
set_option maxHeartbeats 40000000 in
theorem rm5 (l : Launch) (Z : State) (a0 : Array Value) (hw : ∀ d ∈ tables_1, d.before a0 Z = true) (ws : List Jvm.Cond) (q1 : Int64) (h0 : Heap) (n0 : Nat) (Z0 : n0 ≤ h0.size)  :
    MetFree l (⟨"com/example/throngwise/throngwise/generate/RandomStreamNextLongPinLaw", "inverse", "(J)J"⟩ : MethodName) (head1 (Jvm.Cond.code (⟨"com/example/throngwise/throngwise/generate/RandomStreamNextLongPinLaw", "inverse", "(J)J"⟩ : MethodName) method_2_code 4 (some .long) :: ws) ({ frames := 0, cells := 0, slots := 0, locals := 0 } : Room)) (fun a U => a = #[(.long q1)] ∧ Z.Warmed39 U.vm ∧ U.heap = h0) (fun _ _ _ _ _ => True) (fun _ U o U' => ∃ v L, o = .returned v ∧ Q_rm5 Z q1 h0 n0 v U'.heap L ∧ FrameEnd U o U' L ({ frames := 0, cells := 0, slots := 0, locals := 0 } : Room).cells ({ frames := 0, cells := 0, slots := 0, locals := 0 } : Room).slots) := by
  refine MetFree.of_bodySF (plainFor_of_name pn_0) hisR ?_
  intro p e s m args below meth c s₁ Bd hml0 hP hK
  obtain ⟨rfl, hZ, hh⟩ := hP
  have hx := Bd.exec
  have hby := Bd.bytes
  have hml : c.maxLocals = 4 := hml0
  have hown : s.vm.findClass "com/example/throngwise/throngwise/generate/RandomStreamNextLongPinLaw" = some m.cls := findClass_of_methodNamed Bd.named
  have hnm := (name_of_methodNamed Bd.named Bd.method).1
  have X0 : Stand p l e ({ frames := 0, cells := 0, slots := 0, locals := 0 } : Room) s m #[(.long q1)] below meth c s₁ [] 0 0 := Stand.of_body Bd
  have e0 : s₁.heap = h0 := by rw [← hh, Bd.state]; rfl
  have N0 := Fr.nil n0
  show Run p e below s 0 0 (Q_rm5 Z q1 h0 n0) (s₁.setTop (entryFrame m #[(.long q1)] 4))
  refine Run.go (fun _ k => castTop (ef_rm5 m q1) k) ?_
  show Run p e below s 0 0 (Q_rm5 Z q1 h0 n0) (s₁.setTop (mkF m 0 #[.val (.long q1), .second, .unset, .unset] []))
  refine Run.go (fun _ k => XS.lloadN X0.here hx rfl (hb hby d5_0) rfl  k) ?_
  show Run p e below s 0 0 (Q_rm5 Z q1 h0 n0) (s₁.setTop (mkF m 1 #[.val (.long q1), .second, .unset, .unset] [(.long q1)]))
  refine Run.go (fun _ k => XS.lstoreN X0.here hx rfl (hb hby d5_1) rfl (l' := #[.val (.long q1), .second, .val (.long q1), .second]) rfl k) ?_
  show Run p e below s 0 0 (Q_rm5 Z q1 h0 n0) (s₁.setTop (mkF m 2 #[.val (.long q1), .second, .val (.long q1), .second] []))
  refine Run.go (fun _ k => XS.lloadN X0.here hx rfl (hb hby d5_2) rfl  k) ?_
  show Run p e below s 0 0 (Q_rm5 Z q1 h0 n0) (s₁.setTop (mkF m 3 #[.val (.long q1), .second, .val (.long q1), .second] [(.long q1)]))
  refine Run.go (fun _ k => X0.ldc2Long hx hown (mvT hZ (hw _ (List.mem_of_getElem? (i := 28) rfl))) (g := (mkF m 3 #[.val (.long q1), .second, .val (.long q1), .second] [(.long q1)])) rfl (hb hby d5_3) _ k) ?_
  show Run p e below s 0 0 (Q_rm5 Z q1 h0 n0) (s₁.setTop (mkF m 6 #[.val (.long q1), .second, .val (.long q1), .second] [(.long (2 : Int64)), (.long q1)]))
  refine Run.go (fun _ k => XS.lloadN X0.here hx rfl (hb hby d5_6) rfl  k) ?_
  show Run p e below s 0 0 (Q_rm5 Z q1 h0 n0) (s₁.setTop (mkF m 7 #[.val (.long q1), .second, .val (.long q1), .second] [(.long q1), (.long (2 : Int64)), (.long q1)]))
  refine Run.go (fun _ k => XS.lloadN X0.here hx rfl (hb hby d5_7) rfl  k) ?_
  show Run p e below s 0 0 (Q_rm5 Z q1 h0 n0) (s₁.setTop (mkF m 8 #[.val (.long q1), .second, .val (.long q1), .second] [(.long q1), (.long q1), (.long (2 : Int64)), (.long q1)]))
  refine Run.go (fun _ k => XS.lmul X0.here hx rfl (hb hby d5_8) rfl k) ?_
  show Run p e below s 0 0 (Q_rm5 Z q1 h0 n0) (s₁.setTop (mkF m 9 #[.val (.long q1), .second, .val (.long q1), .second] [(.long (q1 * q1)), (.long (2 : Int64)), (.long q1)]))
  refine Run.go (fun _ k => XS.lsub X0.here hx rfl (hb hby d5_9) rfl k) ?_
  show Run p e below s 0 0 (Q_rm5 Z q1 h0 n0) (s₁.setTop (mkF m 10 #[.val (.long q1), .second, .val (.long q1), .second] [(.long ((2 : Int64) - (q1 * q1))), (.long q1)]))
  refine Run.go (fun _ k => XS.lmul X0.here hx rfl (hb hby d5_10) rfl k) ?_
  show Run p e below s 0 0 (Q_rm5 Z q1 h0 n0) (s₁.setTop (mkF m 11 #[.val (.long q1), .second, .val (.long q1), .second] [(.long (q1 * ((2 : Int64) - (q1 * q1))))]))
  refine Run.go (fun _ k => XS.lstoreN X0.here hx rfl (hb hby d5_11) rfl (l' := #[.val (.long q1), .second, .val (.long (q1 * ((2 : Int64) - (q1 * q1)))), .second]) rfl k) ?_
  show Run p e below s 0 0 (Q_rm5 Z q1 h0 n0) (s₁.setTop (mkF m 12 #[.val (.long q1), .second, .val (.long (q1 * ((2 : Int64) - (q1 * q1)))), .second] []))
  refine Run.go (fun _ k => XS.lloadN X0.here hx rfl (hb hby d5_12) rfl  k) ?_
  show Run p e below s 0 0 (Q_rm5 Z q1 h0 n0) (s₁.setTop (mkF m 13 #[.val (.long q1), .second, .val (.long (q1 * ((2 : Int64) - (q1 * q1)))), .second] [(.long (q1 * ((2 : Int64) - (q1 * q1))))]))
  refine Run.go (fun _ k => X0.ldc2Long hx hown (mvT hZ (hw _ (List.mem_of_getElem? (i := 28) rfl))) (g := (mkF m 13 #[.val (.long q1), .second, .val (.long (q1 * ((2 : Int64) - (q1 * q1)))), .second] [(.long (q1 * ((2 : Int64) - (q1 * q1))))])) rfl (hb hby d5_13) _ k) ?_
  show Run p e below s 0 0 (Q_rm5 Z q1 h0 n0) (s₁.setTop (mkF m 16 #[.val (.long q1), .second, .val (.long (q1 * ((2 : Int64) - (q1 * q1)))), .second] [(.long (2 : Int64)), (.long (q1 * ((2 : Int64) - (q1 * q1))))]))
  refine Run.go (fun _ k => XS.lloadN X0.here hx rfl (hb hby d5_16) rfl  k) ?_
  show Run p e below s 0 0 (Q_rm5 Z q1 h0 n0) (s₁.setTop (mkF m 17 #[.val (.long q1), .second, .val (.long (q1 * ((2 : Int64) - (q1 * q1)))), .second] [(.long q1), (.long (2 : Int64)), (.long (q1 * ((2 : Int64) - (q1 * q1))))]))
  refine Run.go (fun _ k => XS.lloadN X0.here hx rfl (hb hby d5_17) rfl  k) ?_
  show Run p e below s 0 0 (Q_rm5 Z q1 h0 n0) (s₁.setTop (mkF m 18 #[.val (.long q1), .second, .val (.long (q1 * ((2 : Int64) - (q1 * q1)))), .second] [(.long (q1 * ((2 : Int64) - (q1 * q1)))), (.long q1), (.long (2 : Int64)), (.long (q1 * ((2 : Int64) - (q1 * q1))))]))
  refine Run.go (fun _ k => XS.lmul X0.here hx rfl (hb hby d5_18) rfl k) ?_
  show Run p e below s 0 0 (Q_rm5 Z q1 h0 n0) (s₁.setTop (mkF m 19 #[.val (.long q1), .second, .val (.long (q1 * ((2 : Int64) - (q1 * q1)))), .second] [(.long (q1 * (q1 * ((2 : Int64) - (q1 * q1))))), (.long (2 : Int64)), (.long (q1 * ((2 : Int64) - (q1 * q1))))]))
  refine Run.go (fun _ k => XS.lsub X0.here hx rfl (hb hby d5_19) rfl k) ?_
  show Run p e below s 0 0 (Q_rm5 Z q1 h0 n0) (s₁.setTop (mkF m 20 #[.val (.long q1), .second, .val (.long (q1 * ((2 : Int64) - (q1 * q1)))), .second] [(.long ((2 : Int64) - (q1 * (q1 * ((2 : Int64) - (q1 * q1)))))), (.long (q1 * ((2 : Int64) - (q1 * q1))))]))
  refine Run.go (fun _ k => XS.lmul X0.here hx rfl (hb hby d5_20) rfl k) ?_
  show Run p e below s 0 0 (Q_rm5 Z q1 h0 n0) (s₁.setTop (mkF m 21 #[.val (.long q1), .second, .val (.long (q1 * ((2 : Int64) - (q1 * q1)))), .second] [(.long ((q1 * ((2 : Int64) - (q1 * q1))) * ((2 : Int64) - (q1 * (q1 * ((2 : Int64) - (q1 * q1)))))))]))
  refine Run.go (fun _ k => XS.lstoreN X0.here hx rfl (hb hby d5_21) rfl (l' := #[.val (.long q1), .second, .val (.long ((q1 * ((2 : Int64) - (q1 * q1))) * ((2 : Int64) - (q1 * (q1 * ((2 : Int64) - (q1 * q1))))))), .second]) rfl k) ?_
  show Run p e below s 0 0 (Q_rm5 Z q1 h0 n0) (s₁.setTop (mkF m 22 #[.val (.long q1), .second, .val (.long ((q1 * ((2 : Int64) - (q1 * q1))) * ((2 : Int64) - (q1 * (q1 * ((2 : Int64) - (q1 * q1))))))), .second] []))
  obtain ⟨z2, hz2⟩ : ∃ z, z = ((q1 * ((2 : Int64) - (q1 * q1))) * ((2 : Int64) - (q1 * (q1 * ((2 : Int64) - (q1 * q1)))))) := ⟨_, rfl⟩
  rw [← hz2]
  show Run p e below s 0 0 (Q_rm5 Z q1 h0 n0) (s₁.setTop (mkF m 22 #[.val (.long q1), .second, .val (.long z2), .second] []))
  refine Run.go (fun _ k => XS.lloadN X0.here hx rfl (hb hby d5_22) rfl  k) ?_
  show Run p e below s 0 0 (Q_rm5 Z q1 h0 n0) (s₁.setTop (mkF m 23 #[.val (.long q1), .second, .val (.long z2), .second] [(.long z2)]))
  refine Run.go (fun _ k => X0.ldc2Long hx hown (mvT hZ (hw _ (List.mem_of_getElem? (i := 28) rfl))) (g := (mkF m 23 #[.val (.long q1), .second, .val (.long z2), .second] [(.long z2)])) rfl (hb hby d5_23) _ k) ?_
  show Run p e below s 0 0 (Q_rm5 Z q1 h0 n0) (s₁.setTop (mkF m 26 #[.val (.long q1), .second, .val (.long z2), .second] [(.long (2 : Int64)), (.long z2)]))
  refine Run.go (fun _ k => XS.lloadN X0.here hx rfl (hb hby d5_26) rfl  k) ?_
  show Run p e below s 0 0 (Q_rm5 Z q1 h0 n0) (s₁.setTop (mkF m 27 #[.val (.long q1), .second, .val (.long z2), .second] [(.long q1), (.long (2 : Int64)), (.long z2)]))
  refine Run.go (fun _ k => XS.lloadN X0.here hx rfl (hb hby d5_27) rfl  k) ?_
  show Run p e below s 0 0 (Q_rm5 Z q1 h0 n0) (s₁.setTop (mkF m 28 #[.val (.long q1), .second, .val (.long z2), .second] [(.long z2), (.long q1), (.long (2 : Int64)), (.long z2)]))
  refine Run.go (fun _ k => XS.lmul X0.here hx rfl (hb hby d5_28) rfl k) ?_
  show Run p e below s 0 0 (Q_rm5 Z q1 h0 n0) (s₁.setTop (mkF m 29 #[.val (.long q1), .second, .val (.long z2), .second] [(.long (q1 * z2)), (.long (2 : Int64)), (.long z2)]))
  refine Run.go (fun _ k => XS.lsub X0.here hx rfl (hb hby d5_29) rfl k) ?_
  show Run p e below s 0 0 (Q_rm5 Z q1 h0 n0) (s₁.setTop (mkF m 30 #[.val (.long q1), .second, .val (.long z2), .second] [(.long ((2 : Int64) - (q1 * z2))), (.long z2)]))
  refine Run.go (fun _ k => XS.lmul X0.here hx rfl (hb hby d5_30) rfl k) ?_
  show Run p e below s 0 0 (Q_rm5 Z q1 h0 n0) (s₁.setTop (mkF m 31 #[.val (.long q1), .second, .val (.long z2), .second] [(.long (z2 * ((2 : Int64) - (q1 * z2))))]))
  refine Run.go (fun _ k => XS.lstoreN X0.here hx rfl (hb hby d5_31) rfl (l' := #[.val (.long q1), .second, .val (.long (z2 * ((2 : Int64) - (q1 * z2)))), .second]) rfl k) ?_
  show Run p e below s 0 0 (Q_rm5 Z q1 h0 n0) (s₁.setTop (mkF m 32 #[.val (.long q1), .second, .val (.long (z2 * ((2 : Int64) - (q1 * z2)))), .second] []))
  refine Run.go (fun _ k => XS.lloadN X0.here hx rfl (hb hby d5_32) rfl  k) ?_
  show Run p e below s 0 0 (Q_rm5 Z q1 h0 n0) (s₁.setTop (mkF m 33 #[.val (.long q1), .second, .val (.long (z2 * ((2 : Int64) - (q1 * z2)))), .second] [(.long (z2 * ((2 : Int64) - (q1 * z2))))]))
  refine Run.go (fun _ k => X0.ldc2Long hx hown (mvT hZ (hw _ (List.mem_of_getElem? (i := 28) rfl))) (g := (mkF m 33 #[.val (.long q1), .second, .val (.long (z2 * ((2 : Int64) - (q1 * z2)))), .second] [(.long (z2 * ((2 : Int64) - (q1 * z2))))])) rfl (hb hby d5_33) _ k) ?_
  show Run p e below s 0 0 (Q_rm5 Z q1 h0 n0) (s₁.setTop (mkF m 36 #[.val (.long q1), .second, .val (.long (z2 * ((2 : Int64) - (q1 * z2)))), .second] [(.long (2 : Int64)), (.long (z2 * ((2 : Int64) - (q1 * z2))))]))
  refine Run.go (fun _ k => XS.lloadN X0.here hx rfl (hb hby d5_36) rfl  k) ?_
  show Run p e below s 0 0 (Q_rm5 Z q1 h0 n0) (s₁.setTop (mkF m 37 #[.val (.long q1), .second, .val (.long (z2 * ((2 : Int64) - (q1 * z2)))), .second] [(.long q1), (.long (2 : Int64)), (.long (z2 * ((2 : Int64) - (q1 * z2))))]))
  refine Run.go (fun _ k => XS.lloadN X0.here hx rfl (hb hby d5_37) rfl  k) ?_
  show Run p e below s 0 0 (Q_rm5 Z q1 h0 n0) (s₁.setTop (mkF m 38 #[.val (.long q1), .second, .val (.long (z2 * ((2 : Int64) - (q1 * z2)))), .second] [(.long (z2 * ((2 : Int64) - (q1 * z2)))), (.long q1), (.long (2 : Int64)), (.long (z2 * ((2 : Int64) - (q1 * z2))))]))
  refine Run.go (fun _ k => XS.lmul X0.here hx rfl (hb hby d5_38) rfl k) ?_
  show Run p e below s 0 0 (Q_rm5 Z q1 h0 n0) (s₁.setTop (mkF m 39 #[.val (.long q1), .second, .val (.long (z2 * ((2 : Int64) - (q1 * z2)))), .second] [(.long (q1 * (z2 * ((2 : Int64) - (q1 * z2))))), (.long (2 : Int64)), (.long (z2 * ((2 : Int64) - (q1 * z2))))]))
  refine Run.go (fun _ k => XS.lsub X0.here hx rfl (hb hby d5_39) rfl k) ?_
  show Run p e below s 0 0 (Q_rm5 Z q1 h0 n0) (s₁.setTop (mkF m 40 #[.val (.long q1), .second, .val (.long (z2 * ((2 : Int64) - (q1 * z2)))), .second] [(.long ((2 : Int64) - (q1 * (z2 * ((2 : Int64) - (q1 * z2)))))), (.long (z2 * ((2 : Int64) - (q1 * z2))))]))
  refine Run.go (fun _ k => XS.lmul X0.here hx rfl (hb hby d5_40) rfl k) ?_
  show Run p e below s 0 0 (Q_rm5 Z q1 h0 n0) (s₁.setTop (mkF m 41 #[.val (.long q1), .second, .val (.long (z2 * ((2 : Int64) - (q1 * z2)))), .second] [(.long ((z2 * ((2 : Int64) - (q1 * z2))) * ((2 : Int64) - (q1 * (z2 * ((2 : Int64) - (q1 * z2)))))))]))
  refine Run.go (fun _ k => XS.lstoreN X0.here hx rfl (hb hby d5_41) rfl (l' := #[.val (.long q1), .second, .val (.long ((z2 * ((2 : Int64) - (q1 * z2))) * ((2 : Int64) - (q1 * (z2 * ((2 : Int64) - (q1 * z2))))))), .second]) rfl k) ?_
  show Run p e below s 0 0 (Q_rm5 Z q1 h0 n0) (s₁.setTop (mkF m 42 #[.val (.long q1), .second, .val (.long ((z2 * ((2 : Int64) - (q1 * z2))) * ((2 : Int64) - (q1 * (z2 * ((2 : Int64) - (q1 * z2))))))), .second] []))
  obtain ⟨z3, hz3⟩ : ∃ z, z = ((z2 * ((2 : Int64) - (q1 * z2))) * ((2 : Int64) - (q1 * (z2 * ((2 : Int64) - (q1 * z2)))))) := ⟨_, rfl⟩
  rw [← hz3]
  show Run p e below s 0 0 (Q_rm5 Z q1 h0 n0) (s₁.setTop (mkF m 42 #[.val (.long q1), .second, .val (.long z3), .second] []))
  refine Run.go (fun _ k => XS.lloadN X0.here hx rfl (hb hby d5_42) rfl  k) ?_
  show Run p e below s 0 0 (Q_rm5 Z q1 h0 n0) (s₁.setTop (mkF m 43 #[.val (.long q1), .second, .val (.long z3), .second] [(.long z3)]))
  refine Run.go (fun _ k => X0.ldc2Long hx hown (mvT hZ (hw _ (List.mem_of_getElem? (i := 28) rfl))) (g := (mkF m 43 #[.val (.long q1), .second, .val (.long z3), .second] [(.long z3)])) rfl (hb hby d5_43) _ k) ?_
  show Run p e below s 0 0 (Q_rm5 Z q1 h0 n0) (s₁.setTop (mkF m 46 #[.val (.long q1), .second, .val (.long z3), .second] [(.long (2 : Int64)), (.long z3)]))
  refine Run.go (fun _ k => XS.lloadN X0.here hx rfl (hb hby d5_46) rfl  k) ?_
  show Run p e below s 0 0 (Q_rm5 Z q1 h0 n0) (s₁.setTop (mkF m 47 #[.val (.long q1), .second, .val (.long z3), .second] [(.long q1), (.long (2 : Int64)), (.long z3)]))
  refine Run.go (fun _ k => XS.lloadN X0.here hx rfl (hb hby d5_47) rfl  k) ?_
  show Run p e below s 0 0 (Q_rm5 Z q1 h0 n0) (s₁.setTop (mkF m 48 #[.val (.long q1), .second, .val (.long z3), .second] [(.long z3), (.long q1), (.long (2 : Int64)), (.long z3)]))
  refine Run.go (fun _ k => XS.lmul X0.here hx rfl (hb hby d5_48) rfl k) ?_
  show Run p e below s 0 0 (Q_rm5 Z q1 h0 n0) (s₁.setTop (mkF m 49 #[.val (.long q1), .second, .val (.long z3), .second] [(.long (q1 * z3)), (.long (2 : Int64)), (.long z3)]))
  refine Run.go (fun _ k => XS.lsub X0.here hx rfl (hb hby d5_49) rfl k) ?_
  show Run p e below s 0 0 (Q_rm5 Z q1 h0 n0) (s₁.setTop (mkF m 50 #[.val (.long q1), .second, .val (.long z3), .second] [(.long ((2 : Int64) - (q1 * z3))), (.long z3)]))
  refine Run.go (fun _ k => XS.lmul X0.here hx rfl (hb hby d5_50) rfl k) ?_
  show Run p e below s 0 0 (Q_rm5 Z q1 h0 n0) (s₁.setTop (mkF m 51 #[.val (.long q1), .second, .val (.long z3), .second] [(.long (z3 * ((2 : Int64) - (q1 * z3))))]))
  refine Run.go (fun _ k => XS.lstoreN X0.here hx rfl (hb hby d5_51) rfl (l' := #[.val (.long q1), .second, .val (.long (z3 * ((2 : Int64) - (q1 * z3)))), .second]) rfl k) ?_
  show Run p e below s 0 0 (Q_rm5 Z q1 h0 n0) (s₁.setTop (mkF m 52 #[.val (.long q1), .second, .val (.long (z3 * ((2 : Int64) - (q1 * z3)))), .second] []))
  refine Run.go (fun _ k => XS.lloadN X0.here hx rfl (hb hby d5_52) rfl  k) ?_
  show Run p e below s 0 0 (Q_rm5 Z q1 h0 n0) (s₁.setTop (mkF m 53 #[.val (.long q1), .second, .val (.long (z3 * ((2 : Int64) - (q1 * z3)))), .second] [(.long (z3 * ((2 : Int64) - (q1 * z3))))]))
  refine Run.retJ X0 hx Bd.returns Bd.notSynchronized (hb hby d5_53) (by decide) (by decide) ?_
  show Q_rm5 Z q1 h0 n0 _ s₁.heap _
  exact ⟨congrArg some (congrArg Value.long (show (z3 * ((2 : Int64) - (q1 * z3))) = (F_rm5 q1) from (by subst hz3; subst hz2; unfold F_rm5; rfl))), N0, e0⟩
theorem d4_0 : decode method_3_code 0 = .ok (.ldc2_w 9, 3) := by decide +kernel
theorem d4_3 : decode method_3_code 3 = .ok (.invokestatic 11, 3) := by decide +kernel
theorem pd_0 : parseMethodDescriptor "(J)J" = some ⟨[.long], some .long⟩ := by decide +kernel
theorem d4_6 : decode method_3_code 6 = .ok (.lstore_n 2, 1) := by decide +kernel
theorem d4_7 : decode method_3_code 7 = .ok (.ldc2_w 17, 3) := by decide +kernel
theorem d4_10 : decode method_3_code 10 = .ok (.invokestatic 11, 3) := by decide +kernel
theorem d4_13 : decode method_3_code 13 = .ok (.lstore 4, 2) := by decide +kernel
theorem d4_15 : decode method_3_code 15 = .ok (.lload_n 0, 1) := by decide +kernel
theorem d4_16 : decode method_3_code 16 = .ok (.lstore 6, 2) := by decide +kernel
theorem d4_18 : decode method_3_code 18 = .ok (.lload 6, 2) := by decide +kernel
theorem d4_20 : decode method_3_code 20 = .ok (.lload 6, 2) := by decide +kernel
theorem d4_22 : decode method_3_code 22 = .ok (.bipush 31, 2) := by decide +kernel
theorem d4_24 : decode method_3_code 24 = .ok (.lushr, 1) := by decide +kernel
theorem d4_25 : decode method_3_code 25 = .ok (.lxor, 1) := by decide +kernel
theorem d4_26 : decode method_3_code 26 = .ok (.lload 6, 2) := by decide +kernel
theorem d4_28 : decode method_3_code 28 = .ok (.bipush 62, 2) := by decide +kernel
theorem d4_30 : decode method_3_code 30 = .ok (.lushr, 1) := by decide +kernel
theorem d4_31 : decode method_3_code 31 = .ok (.lxor, 1) := by decide +kernel
theorem d4_32 : decode method_3_code 32 = .ok (.lstore 6, 2) := by decide +kernel
theorem d4_34 : decode method_3_code 34 = .ok (.lload 6, 2) := by decide +kernel
theorem d4_36 : decode method_3_code 36 = .ok (.lload 4, 2) := by decide +kernel
theorem d4_38 : decode method_3_code 38 = .ok (.lmul, 1) := by decide +kernel
theorem d4_39 : decode method_3_code 39 = .ok (.lstore 6, 2) := by decide +kernel
theorem d4_41 : decode method_3_code 41 = .ok (.lload 6, 2) := by decide +kernel
theorem d4_43 : decode method_3_code 43 = .ok (.lload 6, 2) := by decide +kernel
theorem d4_45 : decode method_3_code 45 = .ok (.bipush 27, 2) := by decide +kernel
theorem d4_47 : decode method_3_code 47 = .ok (.lushr, 1) := by decide +kernel
theorem d4_48 : decode method_3_code 48 = .ok (.lxor, 1) := by decide +kernel
theorem d4_49 : decode method_3_code 49 = .ok (.lload 6, 2) := by decide +kernel
theorem d4_51 : decode method_3_code 51 = .ok (.bipush 54, 2) := by decide +kernel
theorem d4_53 : decode method_3_code 53 = .ok (.lushr, 1) := by decide +kernel
theorem d4_54 : decode method_3_code 54 = .ok (.lxor, 1) := by decide +kernel
theorem d4_55 : decode method_3_code 55 = .ok (.lstore 6, 2) := by decide +kernel
theorem d4_57 : decode method_3_code 57 = .ok (.lload 6, 2) := by decide +kernel
theorem d4_59 : decode method_3_code 59 = .ok (.lload_n 2, 1) := by decide +kernel
theorem d4_60 : decode method_3_code 60 = .ok (.lmul, 1) := by decide +kernel
theorem d4_61 : decode method_3_code 61 = .ok (.lstore 6, 2) := by decide +kernel
theorem d4_63 : decode method_3_code 63 = .ok (.lload 6, 2) := by decide +kernel
theorem d4_65 : decode method_3_code 65 = .ok (.lload 6, 2) := by decide +kernel
theorem d4_67 : decode method_3_code 67 = .ok (.bipush 30, 2) := by decide +kernel
theorem d4_69 : decode method_3_code 69 = .ok (.lushr, 1) := by decide +kernel
theorem d4_70 : decode method_3_code 70 = .ok (.lxor, 1) := by decide +kernel
theorem d4_71 : decode method_3_code 71 = .ok (.lload 6, 2) := by decide +kernel
theorem d4_73 : decode method_3_code 73 = .ok (.bipush 60, 2) := by decide +kernel
theorem d4_75 : decode method_3_code 75 = .ok (.lushr, 1) := by decide +kernel
theorem d4_76 : decode method_3_code 76 = .ok (.lxor, 1) := by decide +kernel
theorem d4_77 : decode method_3_code 77 = .ok (.lstore 6, 2) := by decide +kernel
theorem d4_79 : decode method_3_code 79 = .ok (.lload 6, 2) := by decide +kernel
theorem d4_81 : decode method_3_code 81 = .ok (.lreturn, 1) := by decide +kernel
def F_rm4 (q1 : Int64) : Int64 := let z4 : Int64 := ((q1 ^^^ ((q1.toUInt64 >>> ((31 : Int32) &&& 0x3f).toInt64.toUInt64).toInt64)) ^^^ ((q1.toUInt64 >>> ((62 : Int32) &&& 0x3f).toInt64.toUInt64).toInt64)); let z5 : Int64 := (((z4 * (F_rm5 (-7723592293110705685 : Int64))) ^^^ (((z4 * (F_rm5 (-7723592293110705685 : Int64))).toUInt64 >>> ((27 : Int32) &&& 0x3f).toInt64.toUInt64).toInt64)) ^^^ (((z4 * (F_rm5 (-7723592293110705685 : Int64))).toUInt64 >>> ((54 : Int32) &&& 0x3f).toInt64.toUInt64).toInt64)); let z6 : Int64 := (((z5 * (F_rm5 (-4658895280553007687 : Int64))) ^^^ (((z5 * (F_rm5 (-4658895280553007687 : Int64))).toUInt64 >>> ((30 : Int32) &&& 0x3f).toInt64.toUInt64).toInt64)) ^^^ (((z5 * (F_rm5 (-4658895280553007687 : Int64))).toUInt64 >>> ((60 : Int32) &&& 0x3f).toInt64.toUInt64).toInt64)); z6
def Q_rm4 (Z : State) (q1 : Int64) (h0 : Heap) (n0 : Nat) (v : Option Value) (h : Heap) (L : List Loc) : Prop := v = some (.long (F_rm4 q1)) ∧ Fr n0 L ∧ h = h0
theorem ef_rm4 (m : MethodId) (x0 : Int64) : entryFrame m #[(.long x0)] 8 = mkF m 0 #[.val (.long x0), .second, .unset, .unset, .unset, .unset, .unset, .unset] [] := by first | (simp [entryFrame, mkF, argsToLocals, Value.category]; done) | rfl
set_option maxRecDepth 65536 in
set_option maxHeartbeats 40000000 in
theorem rm4 (l : Launch) (Z : State) (a0 : Array Value) (hw : ∀ d ∈ tables_1, d.before a0 Z = true) (ws : List Jvm.Cond) (q1 : Int64) (h0 : Heap) (n0 : Nat) (Z0 : n0 ≤ h0.size)  :
    MetFree l (⟨"com/example/throngwise/throngwise/generate/RandomStreamNextLongPinLaw", "unmix", "(J)J"⟩ : MethodName) (head1 (Jvm.Cond.code (⟨"com/example/throngwise/throngwise/generate/RandomStreamNextLongPinLaw", "unmix", "(J)J"⟩ : MethodName) method_3_code 8 (some .long) :: ws) ({ frames := 1, cells := 0, slots := 0, locals := 15 } : Room)) (fun a U => a = #[(.long q1)] ∧ Z.Warmed39 U.vm ∧ U.heap = h0) (fun _ _ _ _ _ => True) (fun _ U o U' => ∃ v L, o = .returned v ∧ Q_rm4 Z q1 h0 n0 v U'.heap L ∧ FrameEnd U o U' L ({ frames := 1, cells := 0, slots := 0, locals := 15 } : Room).cells ({ frames := 1, cells := 0, slots := 0, locals := 15 } : Room).slots) := by
  refine MetFree.of_bodySF (plainFor_of_name pn_0) hisR ?_
  intro p e s m args below meth c s₁ Bd hml0 hP hK
  obtain ⟨rfl, hZ, hh⟩ := hP
  have hx := Bd.exec
  have hby := Bd.bytes
  have hml : c.maxLocals = 8 := hml0
  have hown : s.vm.findClass "com/example/throngwise/throngwise/generate/RandomStreamNextLongPinLaw" = some m.cls := findClass_of_methodNamed Bd.named
  have hnm := (name_of_methodNamed Bd.named Bd.method).1
  have X0 : Stand p l e ({ frames := 1, cells := 0, slots := 0, locals := 15 } : Room) s m #[(.long q1)] below meth c s₁ [] 0 0 := Stand.of_body Bd
  have e0 : s₁.heap = h0 := by rw [← hh, Bd.state]; rfl
  have N0 := Fr.nil n0
  show Run p e below s 0 0 (Q_rm4 Z q1 h0 n0) (s₁.setTop (entryFrame m #[(.long q1)] 8))
  refine Run.go (fun _ k => castTop (ef_rm4 m q1) k) ?_
  show Run p e below s 0 0 (Q_rm4 Z q1 h0 n0) (s₁.setTop (mkF m 0 #[.val (.long q1), .second, .unset, .unset, .unset, .unset, .unset, .unset] []))
  refine Run.go (fun _ k => X0.ldc2Long hx hown (mvT hZ (hw _ (List.mem_of_getElem? (i := 24) rfl))) (g := (mkF m 0 #[.val (.long q1), .second, .unset, .unset, .unset, .unset, .unset, .unset] [])) rfl (hb hby d4_0) _ k) ?_
  show Run p e below s 0 0 (Q_rm4 Z q1 h0 n0) (s₁.setTop (mkF m 3 #[.val (.long q1), .second, .unset, .unset, .unset, .unset, .unset, .unset] [(.long (-4658895280553007687 : Int64))]))
  obtain ⟨_, _, ⟨T2, L2, k2, n2⟩, -, X2, ⟨Lc2, hQ2, l2, y2, z2⟩, st2⟩ := Jvm.LawKit.callS X0 hx (y := (⟨"com/example/throngwise/throngwise/generate/RandomStreamNextLongPinLaw", "inverse", "(J)J"⟩ : MethodName)) hown (mvT hZ (hw _ (List.mem_of_getElem? (i := 25) rfl))) (mvT hZ (hw _ (List.mem_of_getElem? (i := 26) rfl))) (mvT hZ (hw _ (List.mem_of_getElem? (i := 22) rfl))) (mvT hZ (hw _ (List.mem_of_getElem? (i := 27) rfl))) (by decide) (backOf (W := 0) (rm5 l Z a0 hw [] (-4658895280553007687 : Int64) h0 n0 Z0 ) hZ (hw _ (List.mem_of_getElem? (i := 27) rfl)) (hw _ (List.mem_of_getElem? (i := 22) rfl)) (by decide) (by decide)) (g := (mkF m 3 #[.val (.long q1), .second, .unset, .unset, .unset, .unset, .unset, .unset] [(.long (-4658895280553007687 : Int64))])) rfl (by rw [hml]; rfl) (argsL := [(.long (-4658895280553007687 : Int64))]) (rest := []) (lenOf pd_0 rfl) rfl (by show 2 * 0 + _ ≤ _; exact Nat.le_of_eq rfl) (hb hby d4_3) (fun _ _ => ⟨rfl, e0, (by decide : 0 + 0 ≤ _), (by decide : 0 + 0 ≤ _)⟩)
  dsimp only [Pt.U, Pt.locs, Pt.cells, Pt.slots] at X2 l2 y2 z2 st2 hQ2
  subst l2 y2 z2
  obtain ⟨rfl, N2q, e2q⟩ := hQ2
  have N2 := Fr.app N0 N2q
  refine Run.go st2 ?_
  show Run p e below s 0 0 (Q_rm4 Z q1 h0 n0) (T2.setTop (mkF m 6 #[.val (.long q1), .second, .unset, .unset, .unset, .unset, .unset, .unset] [(.long (F_rm5 (-4658895280553007687 : Int64)))]))
  refine Run.go (fun _ k => XS.lstoreN X2.here hx rfl (hb hby d4_6) rfl (l' := #[.val (.long q1), .second, .val (.long (F_rm5 (-4658895280553007687 : Int64))), .second, .unset, .unset, .unset, .unset]) rfl k) ?_
  show Run p e below s 0 0 (Q_rm4 Z q1 h0 n0) (T2.setTop (mkF m 7 #[.val (.long q1), .second, .val (.long (F_rm5 (-4658895280553007687 : Int64))), .second, .unset, .unset, .unset, .unset] []))
  refine Run.go (fun _ k => X2.ldc2Long hx hown (mvT hZ (hw _ (List.mem_of_getElem? (i := 29) rfl))) (g := (mkF m 7 #[.val (.long q1), .second, .val (.long (F_rm5 (-4658895280553007687 : Int64))), .second, .unset, .unset, .unset, .unset] [])) rfl (hb hby d4_7) _ k) ?_
  show Run p e below s 0 0 (Q_rm4 Z q1 h0 n0) (T2.setTop (mkF m 10 #[.val (.long q1), .second, .val (.long (F_rm5 (-4658895280553007687 : Int64))), .second, .unset, .unset, .unset, .unset] [(.long (-7723592293110705685 : Int64))]))
  obtain ⟨_, _, ⟨T3, L3, k3, n3⟩, -, X3, ⟨Lc3, hQ3, l3, y3, z3⟩, st3⟩ := Jvm.LawKit.callS X2 hx (y := (⟨"com/example/throngwise/throngwise/generate/RandomStreamNextLongPinLaw", "inverse", "(J)J"⟩ : MethodName)) hown (mvT hZ (hw _ (List.mem_of_getElem? (i := 25) rfl))) (mvT hZ (hw _ (List.mem_of_getElem? (i := 26) rfl))) (mvT hZ (hw _ (List.mem_of_getElem? (i := 22) rfl))) (mvT hZ (hw _ (List.mem_of_getElem? (i := 27) rfl))) (by decide) (backOf (W := 0) (rm5 l Z a0 hw [] (-7723592293110705685 : Int64) h0 n0 Z0 ) hZ (hw _ (List.mem_of_getElem? (i := 27) rfl)) (hw _ (List.mem_of_getElem? (i := 22) rfl)) (by decide) (by decide)) (g := (mkF m 10 #[.val (.long q1), .second, .val (.long (F_rm5 (-4658895280553007687 : Int64))), .second, .unset, .unset, .unset, .unset] [(.long (-7723592293110705685 : Int64))])) rfl (by rw [hml]; rfl) (argsL := [(.long (-7723592293110705685 : Int64))]) (rest := []) (lenOf pd_0 rfl) rfl (by show 2 * 0 + _ ≤ _; exact Nat.le_of_eq rfl) (hb hby d4_10) (fun _ _ => ⟨rfl, e2q, (by decide : 0 + 0 ≤ _), (by decide : 0 + 0 ≤ _)⟩)
  dsimp only [Pt.U, Pt.locs, Pt.cells, Pt.slots] at X3 l3 y3 z3 st3 hQ3
  subst l3 y3 z3
  obtain ⟨rfl, N3q, e3q⟩ := hQ3
  have N3 := Fr.app N2 N3q
  refine Run.go st3 ?_
  show Run p e below s 0 0 (Q_rm4 Z q1 h0 n0) (T3.setTop (mkF m 13 #[.val (.long q1), .second, .val (.long (F_rm5 (-4658895280553007687 : Int64))), .second, .unset, .unset, .unset, .unset] [(.long (F_rm5 (-7723592293110705685 : Int64)))]))
  refine Run.go (fun _ k => XS.lstore X3.here hx rfl (hb hby d4_13) rfl (l' := #[.val (.long q1), .second, .val (.long (F_rm5 (-4658895280553007687 : Int64))), .second, .val (.long (F_rm5 (-7723592293110705685 : Int64))), .second, .unset, .unset]) rfl k) ?_
  show Run p e below s 0 0 (Q_rm4 Z q1 h0 n0) (T3.setTop (mkF m 15 #[.val (.long q1), .second, .val (.long (F_rm5 (-4658895280553007687 : Int64))), .second, .val (.long (F_rm5 (-7723592293110705685 : Int64))), .second, .unset, .unset] []))
  refine Run.go (fun _ k => XS.lloadN X3.here hx rfl (hb hby d4_15) rfl  k) ?_
  show Run p e below s 0 0 (Q_rm4 Z q1 h0 n0) (T3.setTop (mkF m 16 #[.val (.long q1), .second, .val (.long (F_rm5 (-4658895280553007687 : Int64))), .second, .val (.long (F_rm5 (-7723592293110705685 : Int64))), .second, .unset, .unset] [(.long q1)]))
  refine Run.go (fun _ k => XS.lstore X3.here hx rfl (hb hby d4_16) rfl (l' := #[.val (.long q1), .second, .val (.long (F_rm5 (-4658895280553007687 : Int64))), .second, .val (.long (F_rm5 (-7723592293110705685 : Int64))), .second, .val (.long q1), .second]) rfl k) ?_
  show Run p e below s 0 0 (Q_rm4 Z q1 h0 n0) (T3.setTop (mkF m 18 #[.val (.long q1), .second, .val (.long (F_rm5 (-4658895280553007687 : Int64))), .second, .val (.long (F_rm5 (-7723592293110705685 : Int64))), .second, .val (.long q1), .second] []))
  refine Run.go (fun _ k => XS.lload X3.here hx rfl (hb hby d4_18) rfl  k) ?_
  show Run p e below s 0 0 (Q_rm4 Z q1 h0 n0) (T3.setTop (mkF m 20 #[.val (.long q1), .second, .val (.long (F_rm5 (-4658895280553007687 : Int64))), .second, .val (.long (F_rm5 (-7723592293110705685 : Int64))), .second, .val (.long q1), .second] [(.long q1)]))
  refine Run.go (fun _ k => XS.lload X3.here hx rfl (hb hby d4_20) rfl  k) ?_
  show Run p e below s 0 0 (Q_rm4 Z q1 h0 n0) (T3.setTop (mkF m 22 #[.val (.long q1), .second, .val (.long (F_rm5 (-4658895280553007687 : Int64))), .second, .val (.long (F_rm5 (-7723592293110705685 : Int64))), .second, .val (.long q1), .second] [(.long q1), (.long q1)]))
  refine Run.go (fun _ k => XS.bipush X3.here hx rfl (hb hby d4_22) k) ?_
  show Run p e below s 0 0 (Q_rm4 Z q1 h0 n0) (T3.setTop (mkF m 24 #[.val (.long q1), .second, .val (.long (F_rm5 (-4658895280553007687 : Int64))), .second, .val (.long (F_rm5 (-7723592293110705685 : Int64))), .second, .val (.long q1), .second] [(.int (31 : Int32)), (.long q1), (.long q1)]))
  refine Run.go (fun _ k => XS.lushr X3.here hx rfl (hb hby d4_24) rfl k) ?_
  show Run p e below s 0 0 (Q_rm4 Z q1 h0 n0) (T3.setTop (mkF m 25 #[.val (.long q1), .second, .val (.long (F_rm5 (-4658895280553007687 : Int64))), .second, .val (.long (F_rm5 (-7723592293110705685 : Int64))), .second, .val (.long q1), .second] [(.long ((q1.toUInt64 >>> ((31 : Int32) &&& 0x3f).toInt64.toUInt64).toInt64)), (.long q1)]))
  refine Run.go (fun _ k => XS.lxor X3.here hx rfl (hb hby d4_25) rfl k) ?_
  show Run p e below s 0 0 (Q_rm4 Z q1 h0 n0) (T3.setTop (mkF m 26 #[.val (.long q1), .second, .val (.long (F_rm5 (-4658895280553007687 : Int64))), .second, .val (.long (F_rm5 (-7723592293110705685 : Int64))), .second, .val (.long q1), .second] [(.long (q1 ^^^ ((q1.toUInt64 >>> ((31 : Int32) &&& 0x3f).toInt64.toUInt64).toInt64)))]))
  refine Run.go (fun _ k => XS.lload X3.here hx rfl (hb hby d4_26) rfl  k) ?_
  show Run p e below s 0 0 (Q_rm4 Z q1 h0 n0) (T3.setTop (mkF m 28 #[.val (.long q1), .second, .val (.long (F_rm5 (-4658895280553007687 : Int64))), .second, .val (.long (F_rm5 (-7723592293110705685 : Int64))), .second, .val (.long q1), .second] [(.long q1), (.long (q1 ^^^ ((q1.toUInt64 >>> ((31 : Int32) &&& 0x3f).toInt64.toUInt64).toInt64)))]))
  refine Run.go (fun _ k => XS.bipush X3.here hx rfl (hb hby d4_28) k) ?_
  show Run p e below s 0 0 (Q_rm4 Z q1 h0 n0) (T3.setTop (mkF m 30 #[.val (.long q1), .second, .val (.long (F_rm5 (-4658895280553007687 : Int64))), .second, .val (.long (F_rm5 (-7723592293110705685 : Int64))), .second, .val (.long q1), .second] [(.int (62 : Int32)), (.long q1), (.long (q1 ^^^ ((q1.toUInt64 >>> ((31 : Int32) &&& 0x3f).toInt64.toUInt64).toInt64)))]))
  refine Run.go (fun _ k => XS.lushr X3.here hx rfl (hb hby d4_30) rfl k) ?_
  show Run p e below s 0 0 (Q_rm4 Z q1 h0 n0) (T3.setTop (mkF m 31 #[.val (.long q1), .second, .val (.long (F_rm5 (-4658895280553007687 : Int64))), .second, .val (.long (F_rm5 (-7723592293110705685 : Int64))), .second, .val (.long q1), .second] [(.long ((q1.toUInt64 >>> ((62 : Int32) &&& 0x3f).toInt64.toUInt64).toInt64)), (.long (q1 ^^^ ((q1.toUInt64 >>> ((31 : Int32) &&& 0x3f).toInt64.toUInt64).toInt64)))]))
  refine Run.go (fun _ k => XS.lxor X3.here hx rfl (hb hby d4_31) rfl k) ?_
  show Run p e below s 0 0 (Q_rm4 Z q1 h0 n0) (T3.setTop (mkF m 32 #[.val (.long q1), .second, .val (.long (F_rm5 (-4658895280553007687 : Int64))), .second, .val (.long (F_rm5 (-7723592293110705685 : Int64))), .second, .val (.long q1), .second] [(.long ((q1 ^^^ ((q1.toUInt64 >>> ((31 : Int32) &&& 0x3f).toInt64.toUInt64).toInt64)) ^^^ ((q1.toUInt64 >>> ((62 : Int32) &&& 0x3f).toInt64.toUInt64).toInt64)))]))
  refine Run.go (fun _ k => XS.lstore X3.here hx rfl (hb hby d4_32) rfl (l' := #[.val (.long q1), .second, .val (.long (F_rm5 (-4658895280553007687 : Int64))), .second, .val (.long (F_rm5 (-7723592293110705685 : Int64))), .second, .val (.long ((q1 ^^^ ((q1.toUInt64 >>> ((31 : Int32) &&& 0x3f).toInt64.toUInt64).toInt64)) ^^^ ((q1.toUInt64 >>> ((62 : Int32) &&& 0x3f).toInt64.toUInt64).toInt64))), .second]) rfl k) ?_
  show Run p e below s 0 0 (Q_rm4 Z q1 h0 n0) (T3.setTop (mkF m 34 #[.val (.long q1), .second, .val (.long (F_rm5 (-4658895280553007687 : Int64))), .second, .val (.long (F_rm5 (-7723592293110705685 : Int64))), .second, .val (.long ((q1 ^^^ ((q1.toUInt64 >>> ((31 : Int32) &&& 0x3f).toInt64.toUInt64).toInt64)) ^^^ ((q1.toUInt64 >>> ((62 : Int32) &&& 0x3f).toInt64.toUInt64).toInt64))), .second] []))
  obtain ⟨z4, hz4⟩ : ∃ z, z = ((q1 ^^^ ((q1.toUInt64 >>> ((31 : Int32) &&& 0x3f).toInt64.toUInt64).toInt64)) ^^^ ((q1.toUInt64 >>> ((62 : Int32) &&& 0x3f).toInt64.toUInt64).toInt64)) := ⟨_, rfl⟩
  rw [← hz4]
  show Run p e below s 0 0 (Q_rm4 Z q1 h0 n0) (T3.setTop (mkF m 34 #[.val (.long q1), .second, .val (.long (F_rm5 (-4658895280553007687 : Int64))), .second, .val (.long (F_rm5 (-7723592293110705685 : Int64))), .second, .val (.long z4), .second] []))
  refine Run.go (fun _ k => XS.lload X3.here hx rfl (hb hby d4_34) rfl  k) ?_
  show Run p e below s 0 0 (Q_rm4 Z q1 h0 n0) (T3.setTop (mkF m 36 #[.val (.long q1), .second, .val (.long (F_rm5 (-4658895280553007687 : Int64))), .second, .val (.long (F_rm5 (-7723592293110705685 : Int64))), .second, .val (.long z4), .second] [(.long z4)]))
  refine Run.go (fun _ k => XS.lload X3.here hx rfl (hb hby d4_36) rfl  k) ?_
  show Run p e below s 0 0 (Q_rm4 Z q1 h0 n0) (T3.setTop (mkF m 38 #[.val (.long q1), .second, .val (.long (F_rm5 (-4658895280553007687 : Int64))), .second, .val (.long (F_rm5 (-7723592293110705685 : Int64))), .second, .val (.long z4), .second] [(.long (F_rm5 (-7723592293110705685 : Int64))), (.long z4)]))
  refine Run.go (fun _ k => XS.lmul X3.here hx rfl (hb hby d4_38) rfl k) ?_
  show Run p e below s 0 0 (Q_rm4 Z q1 h0 n0) (T3.setTop (mkF m 39 #[.val (.long q1), .second, .val (.long (F_rm5 (-4658895280553007687 : Int64))), .second, .val (.long (F_rm5 (-7723592293110705685 : Int64))), .second, .val (.long z4), .second] [(.long (z4 * (F_rm5 (-7723592293110705685 : Int64))))]))
  refine Run.go (fun _ k => XS.lstore X3.here hx rfl (hb hby d4_39) rfl (l' := #[.val (.long q1), .second, .val (.long (F_rm5 (-4658895280553007687 : Int64))), .second, .val (.long (F_rm5 (-7723592293110705685 : Int64))), .second, .val (.long (z4 * (F_rm5 (-7723592293110705685 : Int64)))), .second]) rfl k) ?_
  show Run p e below s 0 0 (Q_rm4 Z q1 h0 n0) (T3.setTop (mkF m 41 #[.val (.long q1), .second, .val (.long (F_rm5 (-4658895280553007687 : Int64))), .second, .val (.long (F_rm5 (-7723592293110705685 : Int64))), .second, .val (.long (z4 * (F_rm5 (-7723592293110705685 : Int64)))), .second] []))
  refine Run.go (fun _ k => XS.lload X3.here hx rfl (hb hby d4_41) rfl  k) ?_
  show Run p e below s 0 0 (Q_rm4 Z q1 h0 n0) (T3.setTop (mkF m 43 #[.val (.long q1), .second, .val (.long (F_rm5 (-4658895280553007687 : Int64))), .second, .val (.long (F_rm5 (-7723592293110705685 : Int64))), .second, .val (.long (z4 * (F_rm5 (-7723592293110705685 : Int64)))), .second] [(.long (z4 * (F_rm5 (-7723592293110705685 : Int64))))]))
  refine Run.go (fun _ k => XS.lload X3.here hx rfl (hb hby d4_43) rfl  k) ?_
  show Run p e below s 0 0 (Q_rm4 Z q1 h0 n0) (T3.setTop (mkF m 45 #[.val (.long q1), .second, .val (.long (F_rm5 (-4658895280553007687 : Int64))), .second, .val (.long (F_rm5 (-7723592293110705685 : Int64))), .second, .val (.long (z4 * (F_rm5 (-7723592293110705685 : Int64)))), .second] [(.long (z4 * (F_rm5 (-7723592293110705685 : Int64)))), (.long (z4 * (F_rm5 (-7723592293110705685 : Int64))))]))
  refine Run.go (fun _ k => XS.bipush X3.here hx rfl (hb hby d4_45) k) ?_
  show Run p e below s 0 0 (Q_rm4 Z q1 h0 n0) (T3.setTop (mkF m 47 #[.val (.long q1), .second, .val (.long (F_rm5 (-4658895280553007687 : Int64))), .second, .val (.long (F_rm5 (-7723592293110705685 : Int64))), .second, .val (.long (z4 * (F_rm5 (-7723592293110705685 : Int64)))), .second] [(.int (27 : Int32)), (.long (z4 * (F_rm5 (-7723592293110705685 : Int64)))), (.long (z4 * (F_rm5 (-7723592293110705685 : Int64))))]))
  refine Run.go (fun _ k => XS.lushr X3.here hx rfl (hb hby d4_47) rfl k) ?_
  show Run p e below s 0 0 (Q_rm4 Z q1 h0 n0) (T3.setTop (mkF m 48 #[.val (.long q1), .second, .val (.long (F_rm5 (-4658895280553007687 : Int64))), .second, .val (.long (F_rm5 (-7723592293110705685 : Int64))), .second, .val (.long (z4 * (F_rm5 (-7723592293110705685 : Int64)))), .second] [(.long (((z4 * (F_rm5 (-7723592293110705685 : Int64))).toUInt64 >>> ((27 : Int32) &&& 0x3f).toInt64.toUInt64).toInt64)), (.long (z4 * (F_rm5 (-7723592293110705685 : Int64))))]))
  refine Run.go (fun _ k => XS.lxor X3.here hx rfl (hb hby d4_48) rfl k) ?_
  show Run p e below s 0 0 (Q_rm4 Z q1 h0 n0) (T3.setTop (mkF m 49 #[.val (.long q1), .second, .val (.long (F_rm5 (-4658895280553007687 : Int64))), .second, .val (.long (F_rm5 (-7723592293110705685 : Int64))), .second, .val (.long (z4 * (F_rm5 (-7723592293110705685 : Int64)))), .second] [(.long ((z4 * (F_rm5 (-7723592293110705685 : Int64))) ^^^ (((z4 * (F_rm5 (-7723592293110705685 : Int64))).toUInt64 >>> ((27 : Int32) &&& 0x3f).toInt64.toUInt64).toInt64)))]))
  refine Run.go (fun _ k => XS.lload X3.here hx rfl (hb hby d4_49) rfl  k) ?_
  show Run p e below s 0 0 (Q_rm4 Z q1 h0 n0) (T3.setTop (mkF m 51 #[.val (.long q1), .second, .val (.long (F_rm5 (-4658895280553007687 : Int64))), .second, .val (.long (F_rm5 (-7723592293110705685 : Int64))), .second, .val (.long (z4 * (F_rm5 (-7723592293110705685 : Int64)))), .second] [(.long (z4 * (F_rm5 (-7723592293110705685 : Int64)))), (.long ((z4 * (F_rm5 (-7723592293110705685 : Int64))) ^^^ (((z4 * (F_rm5 (-7723592293110705685 : Int64))).toUInt64 >>> ((27 : Int32) &&& 0x3f).toInt64.toUInt64).toInt64)))]))
  refine Run.go (fun _ k => XS.bipush X3.here hx rfl (hb hby d4_51) k) ?_
  show Run p e below s 0 0 (Q_rm4 Z q1 h0 n0) (T3.setTop (mkF m 53 #[.val (.long q1), .second, .val (.long (F_rm5 (-4658895280553007687 : Int64))), .second, .val (.long (F_rm5 (-7723592293110705685 : Int64))), .second, .val (.long (z4 * (F_rm5 (-7723592293110705685 : Int64)))), .second] [(.int (54 : Int32)), (.long (z4 * (F_rm5 (-7723592293110705685 : Int64)))), (.long ((z4 * (F_rm5 (-7723592293110705685 : Int64))) ^^^ (((z4 * (F_rm5 (-7723592293110705685 : Int64))).toUInt64 >>> ((27 : Int32) &&& 0x3f).toInt64.toUInt64).toInt64)))]))
  refine Run.go (fun _ k => XS.lushr X3.here hx rfl (hb hby d4_53) rfl k) ?_
  show Run p e below s 0 0 (Q_rm4 Z q1 h0 n0) (T3.setTop (mkF m 54 #[.val (.long q1), .second, .val (.long (F_rm5 (-4658895280553007687 : Int64))), .second, .val (.long (F_rm5 (-7723592293110705685 : Int64))), .second, .val (.long (z4 * (F_rm5 (-7723592293110705685 : Int64)))), .second] [(.long (((z4 * (F_rm5 (-7723592293110705685 : Int64))).toUInt64 >>> ((54 : Int32) &&& 0x3f).toInt64.toUInt64).toInt64)), (.long ((z4 * (F_rm5 (-7723592293110705685 : Int64))) ^^^ (((z4 * (F_rm5 (-7723592293110705685 : Int64))).toUInt64 >>> ((27 : Int32) &&& 0x3f).toInt64.toUInt64).toInt64)))]))
  refine Run.go (fun _ k => XS.lxor X3.here hx rfl (hb hby d4_54) rfl k) ?_
  show Run p e below s 0 0 (Q_rm4 Z q1 h0 n0) (T3.setTop (mkF m 55 #[.val (.long q1), .second, .val (.long (F_rm5 (-4658895280553007687 : Int64))), .second, .val (.long (F_rm5 (-7723592293110705685 : Int64))), .second, .val (.long (z4 * (F_rm5 (-7723592293110705685 : Int64)))), .second] [(.long (((z4 * (F_rm5 (-7723592293110705685 : Int64))) ^^^ (((z4 * (F_rm5 (-7723592293110705685 : Int64))).toUInt64 >>> ((27 : Int32) &&& 0x3f).toInt64.toUInt64).toInt64)) ^^^ (((z4 * (F_rm5 (-7723592293110705685 : Int64))).toUInt64 >>> ((54 : Int32) &&& 0x3f).toInt64.toUInt64).toInt64)))]))
  refine Run.go (fun _ k => XS.lstore X3.here hx rfl (hb hby d4_55) rfl (l' := #[.val (.long q1), .second, .val (.long (F_rm5 (-4658895280553007687 : Int64))), .second, .val (.long (F_rm5 (-7723592293110705685 : Int64))), .second, .val (.long (((z4 * (F_rm5 (-7723592293110705685 : Int64))) ^^^ (((z4 * (F_rm5 (-7723592293110705685 : Int64))).toUInt64 >>> ((27 : Int32) &&& 0x3f).toInt64.toUInt64).toInt64)) ^^^ (((z4 * (F_rm5 (-7723592293110705685 : Int64))).toUInt64 >>> ((54 : Int32) &&& 0x3f).toInt64.toUInt64).toInt64))), .second]) rfl k) ?_
  show Run p e below s 0 0 (Q_rm4 Z q1 h0 n0) (T3.setTop (mkF m 57 #[.val (.long q1), .second, .val (.long (F_rm5 (-4658895280553007687 : Int64))), .second, .val (.long (F_rm5 (-7723592293110705685 : Int64))), .second, .val (.long (((z4 * (F_rm5 (-7723592293110705685 : Int64))) ^^^ (((z4 * (F_rm5 (-7723592293110705685 : Int64))).toUInt64 >>> ((27 : Int32) &&& 0x3f).toInt64.toUInt64).toInt64)) ^^^ (((z4 * (F_rm5 (-7723592293110705685 : Int64))).toUInt64 >>> ((54 : Int32) &&& 0x3f).toInt64.toUInt64).toInt64))), .second] []))
  obtain ⟨z5, hz5⟩ : ∃ z, z = (((z4 * (F_rm5 (-7723592293110705685 : Int64))) ^^^ (((z4 * (F_rm5 (-7723592293110705685 : Int64))).toUInt64 >>> ((27 : Int32) &&& 0x3f).toInt64.toUInt64).toInt64)) ^^^ (((z4 * (F_rm5 (-7723592293110705685 : Int64))).toUInt64 >>> ((54 : Int32) &&& 0x3f).toInt64.toUInt64).toInt64)) := ⟨_, rfl⟩
  rw [← hz5]
  show Run p e below s 0 0 (Q_rm4 Z q1 h0 n0) (T3.setTop (mkF m 57 #[.val (.long q1), .second, .val (.long (F_rm5 (-4658895280553007687 : Int64))), .second, .val (.long (F_rm5 (-7723592293110705685 : Int64))), .second, .val (.long z5), .second] []))
  refine Run.go (fun _ k => XS.lload X3.here hx rfl (hb hby d4_57) rfl  k) ?_
  show Run p e below s 0 0 (Q_rm4 Z q1 h0 n0) (T3.setTop (mkF m 59 #[.val (.long q1), .second, .val (.long (F_rm5 (-4658895280553007687 : Int64))), .second, .val (.long (F_rm5 (-7723592293110705685 : Int64))), .second, .val (.long z5), .second] [(.long z5)]))
  refine Run.go (fun _ k => XS.lloadN X3.here hx rfl (hb hby d4_59) rfl  k) ?_
  show Run p e below s 0 0 (Q_rm4 Z q1 h0 n0) (T3.setTop (mkF m 60 #[.val (.long q1), .second, .val (.long (F_rm5 (-4658895280553007687 : Int64))), .second, .val (.long (F_rm5 (-7723592293110705685 : Int64))), .second, .val (.long z5), .second] [(.long (F_rm5 (-4658895280553007687 : Int64))), (.long z5)]))
  refine Run.go (fun _ k => XS.lmul X3.here hx rfl (hb hby d4_60) rfl k) ?_
  show Run p e below s 0 0 (Q_rm4 Z q1 h0 n0) (T3.setTop (mkF m 61 #[.val (.long q1), .second, .val (.long (F_rm5 (-4658895280553007687 : Int64))), .second, .val (.long (F_rm5 (-7723592293110705685 : Int64))), .second, .val (.long z5), .second] [(.long (z5 * (F_rm5 (-4658895280553007687 : Int64))))]))
  refine Run.go (fun _ k => XS.lstore X3.here hx rfl (hb hby d4_61) rfl (l' := #[.val (.long q1), .second, .val (.long (F_rm5 (-4658895280553007687 : Int64))), .second, .val (.long (F_rm5 (-7723592293110705685 : Int64))), .second, .val (.long (z5 * (F_rm5 (-4658895280553007687 : Int64)))), .second]) rfl k) ?_
  show Run p e below s 0 0 (Q_rm4 Z q1 h0 n0) (T3.setTop (mkF m 63 #[.val (.long q1), .second, .val (.long (F_rm5 (-4658895280553007687 : Int64))), .second, .val (.long (F_rm5 (-7723592293110705685 : Int64))), .second, .val (.long (z5 * (F_rm5 (-4658895280553007687 : Int64)))), .second] []))
  refine Run.go (fun _ k => XS.lload X3.here hx rfl (hb hby d4_63) rfl  k) ?_
  show Run p e below s 0 0 (Q_rm4 Z q1 h0 n0) (T3.setTop (mkF m 65 #[.val (.long q1), .second, .val (.long (F_rm5 (-4658895280553007687 : Int64))), .second, .val (.long (F_rm5 (-7723592293110705685 : Int64))), .second, .val (.long (z5 * (F_rm5 (-4658895280553007687 : Int64)))), .second] [(.long (z5 * (F_rm5 (-4658895280553007687 : Int64))))]))
  refine Run.go (fun _ k => XS.lload X3.here hx rfl (hb hby d4_65) rfl  k) ?_
  show Run p e below s 0 0 (Q_rm4 Z q1 h0 n0) (T3.setTop (mkF m 67 #[.val (.long q1), .second, .val (.long (F_rm5 (-4658895280553007687 : Int64))), .second, .val (.long (F_rm5 (-7723592293110705685 : Int64))), .second, .val (.long (z5 * (F_rm5 (-4658895280553007687 : Int64)))), .second] [(.long (z5 * (F_rm5 (-4658895280553007687 : Int64)))), (.long (z5 * (F_rm5 (-4658895280553007687 : Int64))))]))
  refine Run.go (fun _ k => XS.bipush X3.here hx rfl (hb hby d4_67) k) ?_
  show Run p e below s 0 0 (Q_rm4 Z q1 h0 n0) (T3.setTop (mkF m 69 #[.val (.long q1), .second, .val (.long (F_rm5 (-4658895280553007687 : Int64))), .second, .val (.long (F_rm5 (-7723592293110705685 : Int64))), .second, .val (.long (z5 * (F_rm5 (-4658895280553007687 : Int64)))), .second] [(.int (30 : Int32)), (.long (z5 * (F_rm5 (-4658895280553007687 : Int64)))), (.long (z5 * (F_rm5 (-4658895280553007687 : Int64))))]))
  refine Run.go (fun _ k => XS.lushr X3.here hx rfl (hb hby d4_69) rfl k) ?_
  show Run p e below s 0 0 (Q_rm4 Z q1 h0 n0) (T3.setTop (mkF m 70 #[.val (.long q1), .second, .val (.long (F_rm5 (-4658895280553007687 : Int64))), .second, .val (.long (F_rm5 (-7723592293110705685 : Int64))), .second, .val (.long (z5 * (F_rm5 (-4658895280553007687 : Int64)))), .second] [(.long (((z5 * (F_rm5 (-4658895280553007687 : Int64))).toUInt64 >>> ((30 : Int32) &&& 0x3f).toInt64.toUInt64).toInt64)), (.long (z5 * (F_rm5 (-4658895280553007687 : Int64))))]))
  refine Run.go (fun _ k => XS.lxor X3.here hx rfl (hb hby d4_70) rfl k) ?_
  show Run p e below s 0 0 (Q_rm4 Z q1 h0 n0) (T3.setTop (mkF m 71 #[.val (.long q1), .second, .val (.long (F_rm5 (-4658895280553007687 : Int64))), .second, .val (.long (F_rm5 (-7723592293110705685 : Int64))), .second, .val (.long (z5 * (F_rm5 (-4658895280553007687 : Int64)))), .second] [(.long ((z5 * (F_rm5 (-4658895280553007687 : Int64))) ^^^ (((z5 * (F_rm5 (-4658895280553007687 : Int64))).toUInt64 >>> ((30 : Int32) &&& 0x3f).toInt64.toUInt64).toInt64)))]))
  refine Run.go (fun _ k => XS.lload X3.here hx rfl (hb hby d4_71) rfl  k) ?_
  show Run p e below s 0 0 (Q_rm4 Z q1 h0 n0) (T3.setTop (mkF m 73 #[.val (.long q1), .second, .val (.long (F_rm5 (-4658895280553007687 : Int64))), .second, .val (.long (F_rm5 (-7723592293110705685 : Int64))), .second, .val (.long (z5 * (F_rm5 (-4658895280553007687 : Int64)))), .second] [(.long (z5 * (F_rm5 (-4658895280553007687 : Int64)))), (.long ((z5 * (F_rm5 (-4658895280553007687 : Int64))) ^^^ (((z5 * (F_rm5 (-4658895280553007687 : Int64))).toUInt64 >>> ((30 : Int32) &&& 0x3f).toInt64.toUInt64).toInt64)))]))
  refine Run.go (fun _ k => XS.bipush X3.here hx rfl (hb hby d4_73) k) ?_
  show Run p e below s 0 0 (Q_rm4 Z q1 h0 n0) (T3.setTop (mkF m 75 #[.val (.long q1), .second, .val (.long (F_rm5 (-4658895280553007687 : Int64))), .second, .val (.long (F_rm5 (-7723592293110705685 : Int64))), .second, .val (.long (z5 * (F_rm5 (-4658895280553007687 : Int64)))), .second] [(.int (60 : Int32)), (.long (z5 * (F_rm5 (-4658895280553007687 : Int64)))), (.long ((z5 * (F_rm5 (-4658895280553007687 : Int64))) ^^^ (((z5 * (F_rm5 (-4658895280553007687 : Int64))).toUInt64 >>> ((30 : Int32) &&& 0x3f).toInt64.toUInt64).toInt64)))]))
  refine Run.go (fun _ k => XS.lushr X3.here hx rfl (hb hby d4_75) rfl k) ?_
  show Run p e below s 0 0 (Q_rm4 Z q1 h0 n0) (T3.setTop (mkF m 76 #[.val (.long q1), .second, .val (.long (F_rm5 (-4658895280553007687 : Int64))), .second, .val (.long (F_rm5 (-7723592293110705685 : Int64))), .second, .val (.long (z5 * (F_rm5 (-4658895280553007687 : Int64)))), .second] [(.long (((z5 * (F_rm5 (-4658895280553007687 : Int64))).toUInt64 >>> ((60 : Int32) &&& 0x3f).toInt64.toUInt64).toInt64)), (.long ((z5 * (F_rm5 (-4658895280553007687 : Int64))) ^^^ (((z5 * (F_rm5 (-4658895280553007687 : Int64))).toUInt64 >>> ((30 : Int32) &&& 0x3f).toInt64.toUInt64).toInt64)))]))
  refine Run.go (fun _ k => XS.lxor X3.here hx rfl (hb hby d4_76) rfl k) ?_
  show Run p e below s 0 0 (Q_rm4 Z q1 h0 n0) (T3.setTop (mkF m 77 #[.val (.long q1), .second, .val (.long (F_rm5 (-4658895280553007687 : Int64))), .second, .val (.long (F_rm5 (-7723592293110705685 : Int64))), .second, .val (.long (z5 * (F_rm5 (-4658895280553007687 : Int64)))), .second] [(.long (((z5 * (F_rm5 (-4658895280553007687 : Int64))) ^^^ (((z5 * (F_rm5 (-4658895280553007687 : Int64))).toUInt64 >>> ((30 : Int32) &&& 0x3f).toInt64.toUInt64).toInt64)) ^^^ (((z5 * (F_rm5 (-4658895280553007687 : Int64))).toUInt64 >>> ((60 : Int32) &&& 0x3f).toInt64.toUInt64).toInt64)))]))
  refine Run.go (fun _ k => XS.lstore X3.here hx rfl (hb hby d4_77) rfl (l' := #[.val (.long q1), .second, .val (.long (F_rm5 (-4658895280553007687 : Int64))), .second, .val (.long (F_rm5 (-7723592293110705685 : Int64))), .second, .val (.long (((z5 * (F_rm5 (-4658895280553007687 : Int64))) ^^^ (((z5 * (F_rm5 (-4658895280553007687 : Int64))).toUInt64 >>> ((30 : Int32) &&& 0x3f).toInt64.toUInt64).toInt64)) ^^^ (((z5 * (F_rm5 (-4658895280553007687 : Int64))).toUInt64 >>> ((60 : Int32) &&& 0x3f).toInt64.toUInt64).toInt64))), .second]) rfl k) ?_
  show Run p e below s 0 0 (Q_rm4 Z q1 h0 n0) (T3.setTop (mkF m 79 #[.val (.long q1), .second, .val (.long (F_rm5 (-4658895280553007687 : Int64))), .second, .val (.long (F_rm5 (-7723592293110705685 : Int64))), .second, .val (.long (((z5 * (F_rm5 (-4658895280553007687 : Int64))) ^^^ (((z5 * (F_rm5 (-4658895280553007687 : Int64))).toUInt64 >>> ((30 : Int32) &&& 0x3f).toInt64.toUInt64).toInt64)) ^^^ (((z5 * (F_rm5 (-4658895280553007687 : Int64))).toUInt64 >>> ((60 : Int32) &&& 0x3f).toInt64.toUInt64).toInt64))), .second] []))
  obtain ⟨z6, hz6⟩ : ∃ z, z = (((z5 * (F_rm5 (-4658895280553007687 : Int64))) ^^^ (((z5 * (F_rm5 (-4658895280553007687 : Int64))).toUInt64 >>> ((30 : Int32) &&& 0x3f).toInt64.toUInt64).toInt64)) ^^^ (((z5 * (F_rm5 (-4658895280553007687 : Int64))).toUInt64 >>> ((60 : Int32) &&& 0x3f).toInt64.toUInt64).toInt64)) := ⟨_, rfl⟩
  rw [← hz6]
  show Run p e below s 0 0 (Q_rm4 Z q1 h0 n0) (T3.setTop (mkF m 79 #[.val (.long q1), .second, .val (.long (F_rm5 (-4658895280553007687 : Int64))), .second, .val (.long (F_rm5 (-7723592293110705685 : Int64))), .second, .val (.long z6), .second] []))
  refine Run.go (fun _ k => XS.lload X3.here hx rfl (hb hby d4_79) rfl  k) ?_
  show Run p e below s 0 0 (Q_rm4 Z q1 h0 n0) (T3.setTop (mkF m 81 #[.val (.long q1), .second, .val (.long (F_rm5 (-4658895280553007687 : Int64))), .second, .val (.long (F_rm5 (-7723592293110705685 : Int64))), .second, .val (.long z6), .second] [(.long z6)]))
  refine Run.retJ X3 hx Bd.returns Bd.notSynchronized (hb hby d4_81) (by decide) (by decide) ?_
  show Q_rm4 Z q1 h0 n0 _ T3.heap _
  exact ⟨congrArg some (congrArg Value.long (show z6 = (F_rm4 q1) from (by subst hz6; subst hz5; subst hz4; unfold F_rm4; rfl))), N3, e3q⟩
theorem d1_0 : decode prog_14_method_1_code 0 = .ok (.aload_n 0, 1) := by decide +kernel
theorem d1_1 : decode prog_14_method_1_code 1 = .ok (.invokespecial 1, 3) := by decide +kernel
theorem d1_4 : decode prog_14_method_1_code 4 = .ok (.aload_n 0, 1) := by decide +kernel
theorem d1_5 : decode prog_14_method_1_code 5 = .ok (.lload_n 1, 1) := by decide +kernel
theorem d1_6 : decode prog_14_method_1_code 6 = .ok (.putfield 7, 3) := by decide +kernel
theorem d1_9 : decode prog_14_method_1_code 9 = .ok (.return_, 1) := by decide +kernel
def Q_rm1 (Z : State) (a1 : Addr) (q2 : Int64) (u_state_a1 : Value) (h0 : Heap) (n0 : Nat) (v : Option Value) (h : Heap) (L : List Loc) : Prop := v = none ∧ Fr n0 L ∧ Keep h0 h [a1] ∧ Exa Z h a1 "com/example/throngwise/throngwise/generate/RandomStream" ∧ Fld Z h a1 "com/example/throngwise/throngwise/generate/RandomStream" "state" "J" (.long q2)
theorem ef_rm1 (m : MethodId) (x0 : Addr) (x1 : Int64) : entryFrame m #[(.ref x0), (.long x1)] 3 = mkF m 0 #[.val (.ref x0), .val (.long x1), .second] [] := by first | (simp [entryFrame, mkF, argsToLocals, Value.category]; done) | rfl
theorem pn_1 : plainName "com/example/throngwise/throngwise/generate/RandomStream" = true := by first | (simp [plainName, overriddenIn]; done) | decide +kernel
set_option maxRecDepth 65536 in
set_option maxHeartbeats 40000000 in
theorem rm1 (l : Launch) (Z : State) (a0 : Array Value) (hw : ∀ d ∈ tables_1, d.before a0 Z = true) (ws : List Jvm.Cond) (a1 : Addr) (q2 : Int64) (u_state_a1 : Value) (h0 : Heap) (n0 : Nat) (Z0 : n0 ≤ h0.size) (E_a1 : Exa Z h0 a1 "com/example/throngwise/throngwise/generate/RandomStream") (F_state_a1 : Fld Z h0 a1 "com/example/throngwise/throngwise/generate/RandomStream" "state" "J" u_state_a1) (g_a1 : n0 ≤ a1) :
    MetFree l (⟨"com/example/throngwise/throngwise/generate/RandomStream", "<init>", "(J)V"⟩ : MethodName) (head1 (Jvm.Cond.code (⟨"com/example/throngwise/throngwise/generate/RandomStream", "<init>", "(J)V"⟩ : MethodName) prog_14_method_1_code 3 none :: ws) ({ frames := 1, cells := 0, slots := 0, locals := 12 } : Room)) (fun a U => a = #[(.ref a1), (.long q2)] ∧ Z.Warmed39 U.vm ∧ U.heap = h0) (fun _ _ _ _ _ => True) (fun _ U o U' => ∃ v L, o = .returned v ∧ Q_rm1 Z a1 q2 u_state_a1 h0 n0 v U'.heap L ∧ FrameEnd U o U' L ({ frames := 1, cells := 0, slots := 0, locals := 12 } : Room).cells ({ frames := 1, cells := 0, slots := 0, locals := 12 } : Room).slots) := by
  refine MetFree.of_bodySF (plainFor_of_name pn_1) hisR ?_
  intro p e s m args below meth c s₁ Bd hml0 hP hK
  obtain ⟨rfl, hZ, hh⟩ := hP
  have hx := Bd.exec
  have hby := Bd.bytes
  have hml : c.maxLocals = 3 := hml0
  have hown : s.vm.findClass "com/example/throngwise/throngwise/generate/RandomStream" = some m.cls := findClass_of_methodNamed Bd.named
  have hnm := (name_of_methodNamed Bd.named Bd.method).1
  have X0 : Stand p l e ({ frames := 1, cells := 0, slots := 0, locals := 12 } : Room) s m #[(.ref a1), (.long q2)] below meth c s₁ [] 0 0 := Stand.of_body Bd
  have e0 : s₁.heap = h0 := by rw [← hh, Bd.state]; rfl
  have N0 := Fr.nil n0
  show Run p e below s 0 0 (Q_rm1 Z a1 q2 u_state_a1 h0 n0) (s₁.setTop (entryFrame m #[(.ref a1), (.long q2)] 3))
  refine Run.go (fun _ k => castTop (ef_rm1 m a1 q2) k) ?_
  show Run p e below s 0 0 (Q_rm1 Z a1 q2 u_state_a1 h0 n0) (s₁.setTop (mkF m 0 #[.val (.ref a1), .val (.long q2), .second] []))
  refine Run.go (fun _ k => XS.aloadN X0.here hx rfl (hb hby d1_0) rfl rfl k) ?_
  show Run p e below s 0 0 (Q_rm1 Z a1 q2 u_state_a1 h0 n0) (s₁.setTop (mkF m 1 #[.val (.ref a1), .val (.long q2), .second] [(.ref a1)]))
  obtain ⟨T3, X3, e3, st3⟩ := initO X0 hx hZ hown (hw _ (List.mem_of_getElem? (i := 7) rfl)) (hw _ (List.mem_of_getElem? (i := 8) rfl)) (hw _ (List.mem_of_getElem? (i := 9) rfl)) e0 (g := (mkF m 1 #[.val (.ref a1), .val (.long q2), .second] [(.ref a1)])) rfl (by rw [hml]; rfl) rfl (hb hby d1_1) (by decide) (W := 0) (by show 2 * 0 + _ ≤ _; exact Nat.le_of_eq rfl) (by decide)
  refine Run.go st3 ?_
  show Run p e below s 0 0 (Q_rm1 Z a1 q2 u_state_a1 h0 n0) (T3.setTop (mkF m 4 #[.val (.ref a1), .val (.long q2), .second] []))
  refine Run.go (fun _ k => XS.aloadN X3.here hx rfl (hb hby d1_4) rfl rfl k) ?_
  show Run p e below s 0 0 (Q_rm1 Z a1 q2 u_state_a1 h0 n0) (T3.setTop (mkF m 5 #[.val (.ref a1), .val (.long q2), .second] [(.ref a1)]))
  refine Run.go (fun _ k => XS.lloadN X3.here hx rfl (hb hby d1_5) rfl  k) ?_
  show Run p e below s 0 0 (Q_rm1 Z a1 q2 u_state_a1 h0 n0) (T3.setTop (mkF m 6 #[.val (.ref a1), .val (.long q2), .second] [(.long q2), (.ref a1)]))
  obtain ⟨T4, h4, X4, e4, W4, st4⟩ := putF X3 hx hZ hown (host := "") (Or.inl (hw _ (List.mem_of_getElem? (i := 10) rfl))) Via.refl e3 F_state_a1 E_a1 (Or.inl (hw _ (List.mem_of_getElem? (i := 11) rfl))) (hw _ (List.mem_of_getElem? (i := 2) rfl)) (ty := .long) (by decide) rfl rfl (g := (mkF m 6 #[.val (.ref a1), .val (.long q2), .second] [(.long q2), (.ref a1)])) rfl rfl (hb hby d1_6)
  have N4 := Fr.snoc X4 N0 g_a1
  have Z4 : n0 ≤ h4.size := Nat.le_trans Z0 (Keep.of_wr W4).1
  have K4 : Keep h0 h4 [a1] := (Keep.refl h0 [a1]).wr W4 (Or.inl (List.mem_of_getElem? (i := 0) rfl))
  have fx5 := F_state_a1.same W4
  refine Run.go st4 ?_
  show Run p e below s 0 0 (Q_rm1 Z a1 q2 u_state_a1 h0 n0) (T4.setTop (mkF m 9 #[.val (.ref a1), .val (.long q2), .second] []))
  refine Run.ret0 X4 hx Bd.returns Bd.notSynchronized (hb hby d1_9) (by decide) (by decide) ?_
  show Q_rm1 Z a1 q2 u_state_a1 h0 n0 _ T4.heap _
  have fx6 := (E_a1.wr W4)
  rw [e4]
  exact ⟨rfl, N4, K4, fx6, fx5⟩
theorem d3_0 : decode prog_14_method_2_code 0 = .ok (.aload_n 0, 1) := by decide +kernel
theorem d3_1 : decode prog_14_method_2_code 1 = .ok (.dup, 1) := by decide +kernel
theorem d3_2 : decode prog_14_method_2_code 2 = .ok (.getfield 7, 3) := by decide +kernel
theorem d3_5 : decode prog_14_method_2_code 5 = .ok (.ldc2_w 13, 3) := by decide +kernel
theorem d3_8 : decode prog_14_method_2_code 8 = .ok (.ladd, 1) := by decide +kernel
theorem d3_9 : decode prog_14_method_2_code 9 = .ok (.putfield 7, 3) := by decide +kernel
theorem d3_12 : decode prog_14_method_2_code 12 = .ok (.aload_n 0, 1) := by decide +kernel
theorem d3_13 : decode prog_14_method_2_code 13 = .ok (.getfield 7, 3) := by decide +kernel
theorem d3_16 : decode prog_14_method_2_code 16 = .ok (.lstore_n 1, 1) := by decide +kernel
theorem d3_17 : decode prog_14_method_2_code 17 = .ok (.lload_n 1, 1) := by decide +kernel
theorem d3_18 : decode prog_14_method_2_code 18 = .ok (.lload_n 1, 1) := by decide +kernel
theorem d3_19 : decode prog_14_method_2_code 19 = .ok (.bipush 30, 2) := by decide +kernel
theorem d3_21 : decode prog_14_method_2_code 21 = .ok (.lushr, 1) := by decide +kernel
theorem d3_22 : decode prog_14_method_2_code 22 = .ok (.lxor, 1) := by decide +kernel
theorem d3_23 : decode prog_14_method_2_code 23 = .ok (.ldc2_w 15, 3) := by decide +kernel
theorem d3_26 : decode prog_14_method_2_code 26 = .ok (.lmul, 1) := by decide +kernel
theorem d3_27 : decode prog_14_method_2_code 27 = .ok (.lstore_n 1, 1) := by decide +kernel
theorem d3_28 : decode prog_14_method_2_code 28 = .ok (.lload_n 1, 1) := by decide +kernel
theorem d3_29 : decode prog_14_method_2_code 29 = .ok (.lload_n 1, 1) := by decide +kernel
theorem d3_30 : decode prog_14_method_2_code 30 = .ok (.bipush 27, 2) := by decide +kernel
theorem d3_32 : decode prog_14_method_2_code 32 = .ok (.lushr, 1) := by decide +kernel
theorem d3_33 : decode prog_14_method_2_code 33 = .ok (.lxor, 1) := by decide +kernel
theorem d3_34 : decode prog_14_method_2_code 34 = .ok (.ldc2_w 17, 3) := by decide +kernel
theorem d3_37 : decode prog_14_method_2_code 37 = .ok (.lmul, 1) := by decide +kernel
theorem d3_38 : decode prog_14_method_2_code 38 = .ok (.lstore_n 1, 1) := by decide +kernel
theorem d3_39 : decode prog_14_method_2_code 39 = .ok (.lload_n 1, 1) := by decide +kernel
theorem d3_40 : decode prog_14_method_2_code 40 = .ok (.lload_n 1, 1) := by decide +kernel
theorem d3_41 : decode prog_14_method_2_code 41 = .ok (.bipush 31, 2) := by decide +kernel
theorem d3_43 : decode prog_14_method_2_code 43 = .ok (.lushr, 1) := by decide +kernel
theorem d3_44 : decode prog_14_method_2_code 44 = .ok (.lxor, 1) := by decide +kernel
theorem d3_45 : decode prog_14_method_2_code 45 = .ok (.lreturn, 1) := by decide +kernel
def F_rm3 (w2 : Int64) : Int64 := let z7 : Int64 := (((w2 + (-7046029254386353131 : Int64)) ^^^ (((w2 + (-7046029254386353131 : Int64)).toUInt64 >>> ((30 : Int32) &&& 0x3f).toInt64.toUInt64).toInt64)) * (-4658895280553007687 : Int64)); let z8 : Int64 := ((z7 ^^^ ((z7.toUInt64 >>> ((27 : Int32) &&& 0x3f).toInt64.toUInt64).toInt64)) * (-7723592293110705685 : Int64)); (z8 ^^^ ((z8.toUInt64 >>> ((31 : Int32) &&& 0x3f).toInt64.toUInt64).toInt64))
def Q_rm3 (Z : State) (a1 : Addr) (w2 : Int64) (h0 : Heap) (n0 : Nat) (v : Option Value) (h : Heap) (L : List Loc) : Prop := v = some (.long (F_rm3 w2)) ∧ Fr n0 L ∧ Keep h0 h [a1] ∧ Fld Z h a1 "com/example/throngwise/throngwise/generate/RandomStream" "state" "J" (.long (w2 + (-7046029254386353131 : Int64))) ∧ Exa Z h a1 "com/example/throngwise/throngwise/generate/RandomStream"
theorem ef_rm3 (m : MethodId) (x0 : Addr) : entryFrame m #[(.ref x0)] 3 = mkF m 0 #[.val (.ref x0), .unset, .unset] [] := by first | (simp [entryFrame, mkF, argsToLocals, Value.category]; done) | rfl
set_option maxRecDepth 65536 in
set_option maxHeartbeats 40000000 in
theorem rm3 (l : Launch) (Z : State) (a0 : Array Value) (hw : ∀ d ∈ tables_1, d.before a0 Z = true) (ws : List Jvm.Cond) (a1 : Addr) (w2 : Int64) (h0 : Heap) (n0 : Nat) (Z0 : n0 ≤ h0.size) (F_state_a1 : Fld Z h0 a1 "com/example/throngwise/throngwise/generate/RandomStream" "state" "J" (.long w2)) (E_a1 : Exa Z h0 a1 "com/example/throngwise/throngwise/generate/RandomStream") (g_a1 : n0 ≤ a1) :
    MetFree l (⟨"com/example/throngwise/throngwise/generate/RandomStream", "nextLong", "()J"⟩ : MethodName) (head1 (Jvm.Cond.code (⟨"com/example/throngwise/throngwise/generate/RandomStream", "nextLong", "()J"⟩ : MethodName) prog_14_method_2_code 3 (some .long) :: ws) ({ frames := 0, cells := 0, slots := 0, locals := 0 } : Room)) (fun a U => a = #[(.ref a1)] ∧ Z.Warmed39 U.vm ∧ U.heap = h0) (fun _ _ _ _ _ => True) (fun _ U o U' => ∃ v L, o = .returned v ∧ Q_rm3 Z a1 w2 h0 n0 v U'.heap L ∧ FrameEnd U o U' L ({ frames := 0, cells := 0, slots := 0, locals := 0 } : Room).cells ({ frames := 0, cells := 0, slots := 0, locals := 0 } : Room).slots) := by
  refine MetFree.of_bodySF (plainFor_of_name pn_1) hisR ?_
  intro p e s m args below meth c s₁ Bd hml0 hP hK
  obtain ⟨rfl, hZ, hh⟩ := hP
  have hx := Bd.exec
  have hby := Bd.bytes
  have hml : c.maxLocals = 3 := hml0
  have hown : s.vm.findClass "com/example/throngwise/throngwise/generate/RandomStream" = some m.cls := findClass_of_methodNamed Bd.named
  have hnm := (name_of_methodNamed Bd.named Bd.method).1
  have X0 : Stand p l e ({ frames := 0, cells := 0, slots := 0, locals := 0 } : Room) s m #[(.ref a1)] below meth c s₁ [] 0 0 := Stand.of_body Bd
  have e0 : s₁.heap = h0 := by rw [← hh, Bd.state]; rfl
  have N0 := Fr.nil n0
  show Run p e below s 0 0 (Q_rm3 Z a1 w2 h0 n0) (s₁.setTop (entryFrame m #[(.ref a1)] 3))
  refine Run.go (fun _ k => castTop (ef_rm3 m a1) k) ?_
  show Run p e below s 0 0 (Q_rm3 Z a1 w2 h0 n0) (s₁.setTop (mkF m 0 #[.val (.ref a1), .unset, .unset] []))
  refine Run.go (fun _ k => XS.aloadN X0.here hx rfl (hb hby d3_0) rfl rfl k) ?_
  show Run p e below s 0 0 (Q_rm3 Z a1 w2 h0 n0) (s₁.setTop (mkF m 1 #[.val (.ref a1), .unset, .unset] [(.ref a1)]))
  refine Run.go (fun _ k => XS.dup X0.here hx rfl (hb hby d3_1) rfl rfl k) ?_
  show Run p e below s 0 0 (Q_rm3 Z a1 w2 h0 n0) (s₁.setTop (mkF m 2 #[.val (.ref a1), .unset, .unset] [(.ref a1), (.ref a1)]))
  obtain ⟨T3, X3, e3, st3⟩ := getF X0 hx hZ hown (host := "") (Or.inl (hw _ (List.mem_of_getElem? (i := 10) rfl))) Via.refl e0 F_state_a1 (g := (mkF m 2 #[.val (.ref a1), .unset, .unset] [(.ref a1), (.ref a1)])) rfl rfl (hb hby d3_2)
  refine Run.go st3 ?_
  show Run p e below s 0 0 (Q_rm3 Z a1 w2 h0 n0) (T3.setTop (mkF m 5 #[.val (.ref a1), .unset, .unset] [(.long w2), (.ref a1)]))
  refine Run.go (fun _ k => X3.ldc2Long hx hown (mvT hZ (hw _ (List.mem_of_getElem? (i := 17) rfl))) (g := (mkF m 5 #[.val (.ref a1), .unset, .unset] [(.long w2), (.ref a1)])) rfl (hb hby d3_5) _ k) ?_
  show Run p e below s 0 0 (Q_rm3 Z a1 w2 h0 n0) (T3.setTop (mkF m 8 #[.val (.ref a1), .unset, .unset] [(.long (-7046029254386353131 : Int64)), (.long w2), (.ref a1)]))
  refine Run.go (fun _ k => XS.ladd X3.here hx rfl (hb hby d3_8) rfl k) ?_
  show Run p e below s 0 0 (Q_rm3 Z a1 w2 h0 n0) (T3.setTop (mkF m 9 #[.val (.ref a1), .unset, .unset] [(.long (w2 + (-7046029254386353131 : Int64))), (.ref a1)]))
  obtain ⟨T4, h4, X4, e4, W4, st4⟩ := putF X3 hx hZ hown (host := "") (Or.inl (hw _ (List.mem_of_getElem? (i := 10) rfl))) Via.refl e3 F_state_a1 E_a1 (Or.inl (hw _ (List.mem_of_getElem? (i := 11) rfl))) (hw _ (List.mem_of_getElem? (i := 2) rfl)) (ty := .long) (by decide) rfl rfl (g := (mkF m 9 #[.val (.ref a1), .unset, .unset] [(.long (w2 + (-7046029254386353131 : Int64))), (.ref a1)])) rfl rfl (hb hby d3_9)
  have N4 := Fr.snoc X4 N0 g_a1
  have Z4 : n0 ≤ h4.size := Nat.le_trans Z0 (Keep.of_wr W4).1
  have K4 : Keep h0 h4 [a1] := (Keep.refl h0 [a1]).wr W4 (Or.inl (List.mem_of_getElem? (i := 0) rfl))
  have fx5 := F_state_a1.same W4
  refine Run.go st4 ?_
  show Run p e below s 0 0 (Q_rm3 Z a1 w2 h0 n0) (T4.setTop (mkF m 12 #[.val (.ref a1), .unset, .unset] []))
  refine Run.go (fun _ k => XS.aloadN X4.here hx rfl (hb hby d3_12) rfl rfl k) ?_
  show Run p e below s 0 0 (Q_rm3 Z a1 w2 h0 n0) (T4.setTop (mkF m 13 #[.val (.ref a1), .unset, .unset] [(.ref a1)]))
  obtain ⟨T6, X6, e6, st6⟩ := getF X4 hx hZ hown (host := "") (Or.inl (hw _ (List.mem_of_getElem? (i := 10) rfl))) Via.refl e4 fx5 (g := (mkF m 13 #[.val (.ref a1), .unset, .unset] [(.ref a1)])) rfl rfl (hb hby d3_13)
  refine Run.go st6 ?_
  show Run p e below s 0 0 (Q_rm3 Z a1 w2 h0 n0) (T6.setTop (mkF m 16 #[.val (.ref a1), .unset, .unset] [(.long (w2 + (-7046029254386353131 : Int64)))]))
  refine Run.go (fun _ k => XS.lstoreN X6.here hx rfl (hb hby d3_16) rfl (l' := #[.val (.ref a1), .val (.long (w2 + (-7046029254386353131 : Int64))), .second]) rfl k) ?_
  show Run p e below s 0 0 (Q_rm3 Z a1 w2 h0 n0) (T6.setTop (mkF m 17 #[.val (.ref a1), .val (.long (w2 + (-7046029254386353131 : Int64))), .second] []))
  refine Run.go (fun _ k => XS.lloadN X6.here hx rfl (hb hby d3_17) rfl  k) ?_
  show Run p e below s 0 0 (Q_rm3 Z a1 w2 h0 n0) (T6.setTop (mkF m 18 #[.val (.ref a1), .val (.long (w2 + (-7046029254386353131 : Int64))), .second] [(.long (w2 + (-7046029254386353131 : Int64)))]))
  refine Run.go (fun _ k => XS.lloadN X6.here hx rfl (hb hby d3_18) rfl  k) ?_
  show Run p e below s 0 0 (Q_rm3 Z a1 w2 h0 n0) (T6.setTop (mkF m 19 #[.val (.ref a1), .val (.long (w2 + (-7046029254386353131 : Int64))), .second] [(.long (w2 + (-7046029254386353131 : Int64))), (.long (w2 + (-7046029254386353131 : Int64)))]))
  refine Run.go (fun _ k => XS.bipush X6.here hx rfl (hb hby d3_19) k) ?_
  show Run p e below s 0 0 (Q_rm3 Z a1 w2 h0 n0) (T6.setTop (mkF m 21 #[.val (.ref a1), .val (.long (w2 + (-7046029254386353131 : Int64))), .second] [(.int (30 : Int32)), (.long (w2 + (-7046029254386353131 : Int64))), (.long (w2 + (-7046029254386353131 : Int64)))]))
  refine Run.go (fun _ k => XS.lushr X6.here hx rfl (hb hby d3_21) rfl k) ?_
  show Run p e below s 0 0 (Q_rm3 Z a1 w2 h0 n0) (T6.setTop (mkF m 22 #[.val (.ref a1), .val (.long (w2 + (-7046029254386353131 : Int64))), .second] [(.long (((w2 + (-7046029254386353131 : Int64)).toUInt64 >>> ((30 : Int32) &&& 0x3f).toInt64.toUInt64).toInt64)), (.long (w2 + (-7046029254386353131 : Int64)))]))
  refine Run.go (fun _ k => XS.lxor X6.here hx rfl (hb hby d3_22) rfl k) ?_
  show Run p e below s 0 0 (Q_rm3 Z a1 w2 h0 n0) (T6.setTop (mkF m 23 #[.val (.ref a1), .val (.long (w2 + (-7046029254386353131 : Int64))), .second] [(.long ((w2 + (-7046029254386353131 : Int64)) ^^^ (((w2 + (-7046029254386353131 : Int64)).toUInt64 >>> ((30 : Int32) &&& 0x3f).toInt64.toUInt64).toInt64)))]))
  refine Run.go (fun _ k => X6.ldc2Long hx hown (mvT hZ (hw _ (List.mem_of_getElem? (i := 18) rfl))) (g := (mkF m 23 #[.val (.ref a1), .val (.long (w2 + (-7046029254386353131 : Int64))), .second] [(.long ((w2 + (-7046029254386353131 : Int64)) ^^^ (((w2 + (-7046029254386353131 : Int64)).toUInt64 >>> ((30 : Int32) &&& 0x3f).toInt64.toUInt64).toInt64)))])) rfl (hb hby d3_23) _ k) ?_
  show Run p e below s 0 0 (Q_rm3 Z a1 w2 h0 n0) (T6.setTop (mkF m 26 #[.val (.ref a1), .val (.long (w2 + (-7046029254386353131 : Int64))), .second] [(.long (-4658895280553007687 : Int64)), (.long ((w2 + (-7046029254386353131 : Int64)) ^^^ (((w2 + (-7046029254386353131 : Int64)).toUInt64 >>> ((30 : Int32) &&& 0x3f).toInt64.toUInt64).toInt64)))]))
  refine Run.go (fun _ k => XS.lmul X6.here hx rfl (hb hby d3_26) rfl k) ?_
  show Run p e below s 0 0 (Q_rm3 Z a1 w2 h0 n0) (T6.setTop (mkF m 27 #[.val (.ref a1), .val (.long (w2 + (-7046029254386353131 : Int64))), .second] [(.long (((w2 + (-7046029254386353131 : Int64)) ^^^ (((w2 + (-7046029254386353131 : Int64)).toUInt64 >>> ((30 : Int32) &&& 0x3f).toInt64.toUInt64).toInt64)) * (-4658895280553007687 : Int64)))]))
  refine Run.go (fun _ k => XS.lstoreN X6.here hx rfl (hb hby d3_27) rfl (l' := #[.val (.ref a1), .val (.long (((w2 + (-7046029254386353131 : Int64)) ^^^ (((w2 + (-7046029254386353131 : Int64)).toUInt64 >>> ((30 : Int32) &&& 0x3f).toInt64.toUInt64).toInt64)) * (-4658895280553007687 : Int64))), .second]) rfl k) ?_
  show Run p e below s 0 0 (Q_rm3 Z a1 w2 h0 n0) (T6.setTop (mkF m 28 #[.val (.ref a1), .val (.long (((w2 + (-7046029254386353131 : Int64)) ^^^ (((w2 + (-7046029254386353131 : Int64)).toUInt64 >>> ((30 : Int32) &&& 0x3f).toInt64.toUInt64).toInt64)) * (-4658895280553007687 : Int64))), .second] []))
  obtain ⟨z7, hz7⟩ : ∃ z, z = (((w2 + (-7046029254386353131 : Int64)) ^^^ (((w2 + (-7046029254386353131 : Int64)).toUInt64 >>> ((30 : Int32) &&& 0x3f).toInt64.toUInt64).toInt64)) * (-4658895280553007687 : Int64)) := ⟨_, rfl⟩
  rw [← hz7]
  show Run p e below s 0 0 (Q_rm3 Z a1 w2 h0 n0) (T6.setTop (mkF m 28 #[.val (.ref a1), .val (.long z7), .second] []))
  refine Run.go (fun _ k => XS.lloadN X6.here hx rfl (hb hby d3_28) rfl  k) ?_
  show Run p e below s 0 0 (Q_rm3 Z a1 w2 h0 n0) (T6.setTop (mkF m 29 #[.val (.ref a1), .val (.long z7), .second] [(.long z7)]))
  refine Run.go (fun _ k => XS.lloadN X6.here hx rfl (hb hby d3_29) rfl  k) ?_
  show Run p e below s 0 0 (Q_rm3 Z a1 w2 h0 n0) (T6.setTop (mkF m 30 #[.val (.ref a1), .val (.long z7), .second] [(.long z7), (.long z7)]))
  refine Run.go (fun _ k => XS.bipush X6.here hx rfl (hb hby d3_30) k) ?_
  show Run p e below s 0 0 (Q_rm3 Z a1 w2 h0 n0) (T6.setTop (mkF m 32 #[.val (.ref a1), .val (.long z7), .second] [(.int (27 : Int32)), (.long z7), (.long z7)]))
  refine Run.go (fun _ k => XS.lushr X6.here hx rfl (hb hby d3_32) rfl k) ?_
  show Run p e below s 0 0 (Q_rm3 Z a1 w2 h0 n0) (T6.setTop (mkF m 33 #[.val (.ref a1), .val (.long z7), .second] [(.long ((z7.toUInt64 >>> ((27 : Int32) &&& 0x3f).toInt64.toUInt64).toInt64)), (.long z7)]))
  refine Run.go (fun _ k => XS.lxor X6.here hx rfl (hb hby d3_33) rfl k) ?_
  show Run p e below s 0 0 (Q_rm3 Z a1 w2 h0 n0) (T6.setTop (mkF m 34 #[.val (.ref a1), .val (.long z7), .second] [(.long (z7 ^^^ ((z7.toUInt64 >>> ((27 : Int32) &&& 0x3f).toInt64.toUInt64).toInt64)))]))
  refine Run.go (fun _ k => X6.ldc2Long hx hown (mvT hZ (hw _ (List.mem_of_getElem? (i := 19) rfl))) (g := (mkF m 34 #[.val (.ref a1), .val (.long z7), .second] [(.long (z7 ^^^ ((z7.toUInt64 >>> ((27 : Int32) &&& 0x3f).toInt64.toUInt64).toInt64)))])) rfl (hb hby d3_34) _ k) ?_
  show Run p e below s 0 0 (Q_rm3 Z a1 w2 h0 n0) (T6.setTop (mkF m 37 #[.val (.ref a1), .val (.long z7), .second] [(.long (-7723592293110705685 : Int64)), (.long (z7 ^^^ ((z7.toUInt64 >>> ((27 : Int32) &&& 0x3f).toInt64.toUInt64).toInt64)))]))
  refine Run.go (fun _ k => XS.lmul X6.here hx rfl (hb hby d3_37) rfl k) ?_
  show Run p e below s 0 0 (Q_rm3 Z a1 w2 h0 n0) (T6.setTop (mkF m 38 #[.val (.ref a1), .val (.long z7), .second] [(.long ((z7 ^^^ ((z7.toUInt64 >>> ((27 : Int32) &&& 0x3f).toInt64.toUInt64).toInt64)) * (-7723592293110705685 : Int64)))]))
  refine Run.go (fun _ k => XS.lstoreN X6.here hx rfl (hb hby d3_38) rfl (l' := #[.val (.ref a1), .val (.long ((z7 ^^^ ((z7.toUInt64 >>> ((27 : Int32) &&& 0x3f).toInt64.toUInt64).toInt64)) * (-7723592293110705685 : Int64))), .second]) rfl k) ?_
  show Run p e below s 0 0 (Q_rm3 Z a1 w2 h0 n0) (T6.setTop (mkF m 39 #[.val (.ref a1), .val (.long ((z7 ^^^ ((z7.toUInt64 >>> ((27 : Int32) &&& 0x3f).toInt64.toUInt64).toInt64)) * (-7723592293110705685 : Int64))), .second] []))
  obtain ⟨z8, hz8⟩ : ∃ z, z = ((z7 ^^^ ((z7.toUInt64 >>> ((27 : Int32) &&& 0x3f).toInt64.toUInt64).toInt64)) * (-7723592293110705685 : Int64)) := ⟨_, rfl⟩
  rw [← hz8]
  show Run p e below s 0 0 (Q_rm3 Z a1 w2 h0 n0) (T6.setTop (mkF m 39 #[.val (.ref a1), .val (.long z8), .second] []))
  refine Run.go (fun _ k => XS.lloadN X6.here hx rfl (hb hby d3_39) rfl  k) ?_
  show Run p e below s 0 0 (Q_rm3 Z a1 w2 h0 n0) (T6.setTop (mkF m 40 #[.val (.ref a1), .val (.long z8), .second] [(.long z8)]))
  refine Run.go (fun _ k => XS.lloadN X6.here hx rfl (hb hby d3_40) rfl  k) ?_
  show Run p e below s 0 0 (Q_rm3 Z a1 w2 h0 n0) (T6.setTop (mkF m 41 #[.val (.ref a1), .val (.long z8), .second] [(.long z8), (.long z8)]))
  refine Run.go (fun _ k => XS.bipush X6.here hx rfl (hb hby d3_41) k) ?_
  show Run p e below s 0 0 (Q_rm3 Z a1 w2 h0 n0) (T6.setTop (mkF m 43 #[.val (.ref a1), .val (.long z8), .second] [(.int (31 : Int32)), (.long z8), (.long z8)]))
  refine Run.go (fun _ k => XS.lushr X6.here hx rfl (hb hby d3_43) rfl k) ?_
  show Run p e below s 0 0 (Q_rm3 Z a1 w2 h0 n0) (T6.setTop (mkF m 44 #[.val (.ref a1), .val (.long z8), .second] [(.long ((z8.toUInt64 >>> ((31 : Int32) &&& 0x3f).toInt64.toUInt64).toInt64)), (.long z8)]))
  refine Run.go (fun _ k => XS.lxor X6.here hx rfl (hb hby d3_44) rfl k) ?_
  show Run p e below s 0 0 (Q_rm3 Z a1 w2 h0 n0) (T6.setTop (mkF m 45 #[.val (.ref a1), .val (.long z8), .second] [(.long (z8 ^^^ ((z8.toUInt64 >>> ((31 : Int32) &&& 0x3f).toInt64.toUInt64).toInt64)))]))
  refine Run.retJ X6 hx Bd.returns Bd.notSynchronized (hb hby d3_45) (by decide) (by decide) ?_
  show Q_rm3 Z a1 w2 h0 n0 _ T6.heap _
  subst hz8
  subst hz7
  have fx9 := (E_a1.wr W4)
  rw [e6]
  exact ⟨rfl, N4, K4, fx5, fx9⟩
theorem own_xs (s : Nat) (hs : 64 ≤ 3 * s) (z : BitVec 64) : (z ^^^ z >>> s) ^^^ (z ^^^ z >>> s) >>> s ^^^ (z ^^^ z >>> s) >>> (2 * s) = z := by
  apply BitVec.eq_of_getLsbD_eq
  intro i hi
  simp only [BitVec.getLsbD_xor, BitVec.getLsbD_ushiftRight]
  have e1 : s + (s + i) = 2 * s + i := by omega
  have e2 : z.getLsbD (s + (2 * s + i)) = false := BitVec.getLsbD_of_ge _ _ (by omega)
  rw [e1, e2]
  cases z.getLsbD i <;> cases z.getLsbD (s + i) <;> cases z.getLsbD (2 * s + i) <;> rfl
theorem own_b (x y : Int64) (h : x.toBitVec = y.toBitVec) : x = y := Int64.toBitVec_inj.mp h
theorem own_x31 (z : Int64) : (z ^^^ ((z.toUInt64 >>> ((31 : Int32) &&& 0x3f).toInt64.toUInt64).toInt64)) ^^^ (((z ^^^ ((z.toUInt64 >>> ((31 : Int32) &&& 0x3f).toInt64.toUInt64).toInt64)).toUInt64 >>> ((31 : Int32) &&& 0x3f).toInt64.toUInt64).toInt64) ^^^ (((z ^^^ ((z.toUInt64 >>> ((31 : Int32) &&& 0x3f).toInt64.toUInt64).toInt64)).toUInt64 >>> ((62 : Int32) &&& 0x3f).toInt64.toUInt64).toInt64) = z := own_b _ _ (own_xs 31 (by decide) z.toBitVec)
theorem own_x27 (z : Int64) : (z ^^^ ((z.toUInt64 >>> ((27 : Int32) &&& 0x3f).toInt64.toUInt64).toInt64)) ^^^ (((z ^^^ ((z.toUInt64 >>> ((27 : Int32) &&& 0x3f).toInt64.toUInt64).toInt64)).toUInt64 >>> ((27 : Int32) &&& 0x3f).toInt64.toUInt64).toInt64) ^^^ (((z ^^^ ((z.toUInt64 >>> ((27 : Int32) &&& 0x3f).toInt64.toUInt64).toInt64)).toUInt64 >>> ((54 : Int32) &&& 0x3f).toInt64.toUInt64).toInt64) = z := own_b _ _ (own_xs 27 (by decide) z.toBitVec)
theorem own_x30 (z : Int64) : (z ^^^ ((z.toUInt64 >>> ((30 : Int32) &&& 0x3f).toInt64.toUInt64).toInt64)) ^^^ (((z ^^^ ((z.toUInt64 >>> ((30 : Int32) &&& 0x3f).toInt64.toUInt64).toInt64)).toUInt64 >>> ((30 : Int32) &&& 0x3f).toInt64.toUInt64).toInt64) ^^^ (((z ^^^ ((z.toUInt64 >>> ((30 : Int32) &&& 0x3f).toInt64.toUInt64).toInt64)).toUInt64 >>> ((60 : Int32) &&& 0x3f).toInt64.toUInt64).toInt64) = z := own_b _ _ (own_xs 30 (by decide) z.toBitVec)
theorem own_i1 : (-7723592293110705685 : Int64) * F_rm5 (-7723592293110705685 : Int64) = 1 := by decide +kernel
theorem own_i2 : (-4658895280553007687 : Int64) * F_rm5 (-4658895280553007687 : Int64) = 1 := by decide +kernel
theorem own_law (x : Int64) : F_rm4 (F_rm3 x) = x + (-7046029254386353131 : Int64) := by
  simp only [F_rm4, F_rm3]
  rw [own_x31, Int64.mul_assoc, own_i1, Int64.mul_one, own_x27, Int64.mul_assoc, own_i2, Int64.mul_one, own_x30]
theorem own_g2 (x : Int64) : (x + (-7046029254386353131 : Int64)) + (-7046029254386353131 : Int64) = x + (4354685564936845354 : Int64) := by
  rw [Int64.add_assoc, show (-7046029254386353131 : Int64) + (-7046029254386353131 : Int64) = (4354685564936845354 : Int64) from by decide +kernel]
theorem own_g3 (x : Int64) : ((x + (-7046029254386353131 : Int64)) + (-7046029254386353131 : Int64)) + (-7046029254386353131 : Int64) = x + (-2691343689449507777 : Int64) := by
  rw [own_g2, Int64.add_assoc]; exact congrArg (x + ·) (by decide +kernel)
theorem pd_1 : parseMethodDescriptor "(J)V" = some ⟨[.long], none⟩ := by decide +kernel
theorem pd_2 : parseMethodDescriptor "()J" = some ⟨[], some .long⟩ := by decide +kernel
def Q_rm0 (Z : State) (q1 : Int64) (h0 : Heap) (n0 : Nat) (v : Option Value) (h : Heap) (L : List Loc) : Prop := v = some (.int 1) ∧ Fr n0 L
theorem ef_rm0 (m : MethodId) (x0 : Int64) : entryFrame m #[(.long x0)] maxLocals = mkF m 0 #[.val (.long x0), .second, .unset, .unset, .unset, .unset, .unset, .unset, .unset, .unset, .unset] [] := by first | (simp [entryFrame, mkF, argsToLocals, Value.category, maxLocals]; done) | rfl
set_option maxRecDepth 65536 in
set_option maxHeartbeats 40000000 in
theorem rm0 (l : Launch) (Z : State) (a0 : Array Value) (hw : ∀ d ∈ tables_1, d.before a0 Z = true) (ws : List Jvm.Cond) (q1 : Int64) (h0 : Heap) (n0 : Nat) (Z0 : n0 ≤ h0.size)  :
    MetFree l x (head1 (Jvm.Cond.code x code maxLocals ret :: ws) room_1) (fun a U => a = #[(.long q1)] ∧ Z.Warmed39 U.vm ∧ U.heap = h0) (fun _ _ _ _ _ => True) (fun _ U o U' => ∃ v L, o = .returned v ∧ Q_rm0 Z q1 h0 n0 v U'.heap L ∧ FrameEnd U o U' L 1 1) := by
  refine MetFree.of_bodySF (plainFor_of_name pn_0) hisR ?_
  intro p e s m args below meth c s₁ Bd hml0 hP hK
  obtain ⟨rfl, hZ, hh⟩ := hP
  have hx := Bd.exec
  have hby := Bd.bytes
  have hml : c.maxLocals = 11 := hml0
  have hown : s.vm.findClass "com/example/throngwise/throngwise/generate/RandomStreamNextLongPinLaw" = some m.cls := findClass_of_methodNamed Bd.named
  have hnm := (name_of_methodNamed Bd.named Bd.method).1
  have X0 : Stand p l e room_1 s m #[(.long q1)] below meth c s₁ [] 0 0 := Stand.of_body Bd
  have e0 : s₁.heap = h0 := by rw [← hh, Bd.state]; rfl
  have N0 := Fr.nil n0
  show Run p e below s 1 1 (Q_rm0 Z q1 h0 n0) (s₁.setTop (entryFrame m #[(.long q1)] maxLocals))
  refine Run.go (fun _ k => castTop (ef_rm0 m q1) k) ?_
  show Run p e below s 1 1 (Q_rm0 Z q1 h0 n0) (s₁.setTop (mkF m 0 #[.val (.long q1), .second, .unset, .unset, .unset, .unset, .unset, .unset, .unset, .unset, .unset] []))
  refine Run.go (fun _ k => X0.ldc2Long hx hown (mvT hZ (hw _ (List.mem_of_getElem? (i := 0) rfl))) (g := (mkF m 0 #[.val (.long q1), .second, .unset, .unset, .unset, .unset, .unset, .unset, .unset, .unset, .unset] [])) rfl (hb hby at_0) _ k) ?_
  show Run p e below s 1 1 (Q_rm0 Z q1 h0 n0) (s₁.setTop (mkF m 3 #[.val (.long q1), .second, .unset, .unset, .unset, .unset, .unset, .unset, .unset, .unset, .unset] [(.long (-7046029254386353131 : Int64))]))
  refine Run.go (fun _ k => XS.lstoreN X0.here hx rfl (hb hby at_3) rfl (l' := #[.val (.long q1), .second, .val (.long (-7046029254386353131 : Int64)), .second, .unset, .unset, .unset, .unset, .unset, .unset, .unset]) rfl k) ?_
  show Run p e below s 1 1 (Q_rm0 Z q1 h0 n0) (s₁.setTop (mkF m 4 #[.val (.long q1), .second, .val (.long (-7046029254386353131 : Int64)), .second, .unset, .unset, .unset, .unset, .unset, .unset, .unset] []))
  obtain ⟨T2, h2, X2, e2, E2, A2, D2, -, st2⟩ := newO X0 hx hZ hown (hw _ (List.mem_of_getElem? (i := 1) rfl)) (hw _ (List.mem_of_getElem? (i := 2) rfl)) (hw _ (List.mem_of_getElem? (i := 3) rfl)) e0 (g := (mkF m 4 #[.val (.long q1), .second, .val (.long (-7046029254386353131 : Int64)), .second, .unset, .unset, .unset, .unset, .unset, .unset, .unset] [])) rfl (hb hby at_4) (by decide) (by decide)
  obtain ⟨b2, g2⟩ : ∃ z, z = h0.size := ⟨_, rfl⟩
  rw [← g2] at A2 D2 st2
  have g_b2 : n0 ≤ b2 := Nat.le_trans Z0 (Nat.le_of_eq g2.symm)
  have Z2 : n0 ≤ h2.size := Nat.le_trans Z0 E2.1
  have fx3 : Fld Z h2 b2 "com/example/throngwise/throngwise/generate/RandomStream" "state" "J" (.long (0 : Int64)) := D2 (Or.inl (hw _ (List.mem_of_getElem? (i := 11) rfl))) (ty := .long) (by decide)
  refine Run.go st2 ?_
  show Run p e below s 1 1 (Q_rm0 Z q1 h0 n0) (T2.setTop (mkF m 7 #[.val (.long q1), .second, .val (.long (-7046029254386353131 : Int64)), .second, .unset, .unset, .unset, .unset, .unset, .unset, .unset] [(.ref b2)]))
  refine Run.go (fun _ k => XS.dup X2.here hx rfl (hb hby at_7) rfl rfl k) ?_
  show Run p e below s 1 1 (Q_rm0 Z q1 h0 n0) (T2.setTop (mkF m 8 #[.val (.long q1), .second, .val (.long (-7046029254386353131 : Int64)), .second, .unset, .unset, .unset, .unset, .unset, .unset, .unset] [(.ref b2), (.ref b2)]))
  refine Run.go (fun _ k => XS.lloadN X2.here hx rfl (hb hby at_8) rfl  k) ?_
  show Run p e below s 1 1 (Q_rm0 Z q1 h0 n0) (T2.setTop (mkF m 9 #[.val (.long q1), .second, .val (.long (-7046029254386353131 : Int64)), .second, .unset, .unset, .unset, .unset, .unset, .unset, .unset] [(.long q1), (.ref b2), (.ref b2)]))
  obtain ⟨_, _, ⟨T4, L4, k4, n4⟩, -, X4, ⟨Lc4, hQ4, l4, y4, z4⟩, st4⟩ := X2.specialBack hx (y := (⟨"com/example/throngwise/throngwise/generate/RandomStream", "<init>", "(J)V"⟩ : MethodName)) rfl hown (mvT hZ (hw _ (List.mem_of_getElem? (i := 4) rfl))) (mvT hZ (hw _ (List.mem_of_getElem? (i := 5) rfl))) (mvT hZ (hw _ (List.mem_of_getElem? (i := 6) rfl))) (by decide) (backOf (W := 1) (rm1 l Z a0 hw [] b2 q1 (.long (0 : Int64)) h2 n0 Z2 A2 fx3 g_b2) hZ (hw _ (List.mem_of_getElem? (i := 6) rfl)) (hw _ (List.mem_of_getElem? (i := 3) rfl)) (by decide) (by decide)) (g := (mkF m 9 #[.val (.long q1), .second, .val (.long (-7046029254386353131 : Int64)), .second, .unset, .unset, .unset, .unset, .unset, .unset, .unset] [(.long q1), (.ref b2), (.ref b2)])) rfl (by rw [hml]; rfl) (Steps.refl _) (a := b2) (argsL := [(.long q1)]) (rest := [(.ref b2)]) (lenOf pd_1 rfl) rfl (by show 2 * 0 + _ ≤ _; exact Nat.le_of_eq rfl) (hb hby at_9) (fun _ _ => ⟨rfl, e2, (by decide : 1 + 0 ≤ _), (by decide : 1 + 0 ≤ _)⟩)
  dsimp only [Pt.U, Pt.locs, Pt.cells, Pt.slots] at X4 l4 y4 z4 st4 hQ4
  subst l4 y4 z4
  obtain ⟨rfl, N4q, K4q, fq4_0, fq4_1⟩ := hQ4
  have N4 := Fr.app N0 N4q
  have Z4 : n0 ≤ T4.heap.size := Nat.le_trans Z2 K4q.1
  refine Run.tr st4 ?_
  show Run p e below s 1 1 (Q_rm0 Z q1 h0 n0) (T4.setTop (mkF m 12 #[.val (.long q1), .second, .val (.long (-7046029254386353131 : Int64)), .second, .unset, .unset, .unset, .unset, .unset, .unset, .unset] [(.ref b2)]))
  refine Run.go (fun _ k => XS.astore X4.here hx rfl (hb hby at_12) rfl rfl (l' := #[.val (.long q1), .second, .val (.long (-7046029254386353131 : Int64)), .second, .val (.ref b2), .unset, .unset, .unset, .unset, .unset, .unset]) rfl k) ?_
  show Run p e below s 1 1 (Q_rm0 Z q1 h0 n0) (T4.setTop (mkF m 14 #[.val (.long q1), .second, .val (.long (-7046029254386353131 : Int64)), .second, .val (.ref b2), .unset, .unset, .unset, .unset, .unset, .unset] []))
  refine Run.go (fun _ k => XS.aload X4.here hx rfl (hb hby at_14) rfl rfl k) ?_
  show Run p e below s 1 1 (Q_rm0 Z q1 h0 n0) (T4.setTop (mkF m 16 #[.val (.long q1), .second, .val (.long (-7046029254386353131 : Int64)), .second, .val (.ref b2), .unset, .unset, .unset, .unset, .unset, .unset] [(.ref b2)]))
  obtain ⟨cq5, kq5, q5a, q5b, q5c⟩ := isOf hZ rfl fq4_0
  obtain ⟨_, _, ⟨T5, L5, k5, n5⟩, -, X5, ⟨Lc5, hQ5, l5, y5, z5⟩, st5⟩ := X4.virtualBack hx (y := (⟨"com/example/throngwise/throngwise/generate/RandomStream", "nextLong", "()J"⟩ : MethodName)) (z := (⟨"com/example/throngwise/throngwise/generate/RandomStream", "nextLong", "()J"⟩ : MethodName)) hown (mvT hZ (hw _ (List.mem_of_getElem? (i := 12) rfl))) (mvT hZ (hw _ (List.mem_of_getElem? (i := 13) rfl))) (notFace_of_selects (args := #[]) (mvT hZ (hw _ (List.mem_of_getElem? (i := 15) rfl)))) (mvT hZ (hw _ (List.mem_of_getElem? (i := 15) rfl))) (mvT hZ (hw _ (List.mem_of_getElem? (i := 14) rfl))) (by decide) (backOf (W := 0) (rm3 l Z a0 hw [] b2 q1 T4.heap n0 Z4 fq4_1 fq4_0 g_b2) hZ (hw _ (List.mem_of_getElem? (i := 16) rfl)) (hw _ (List.mem_of_getElem? (i := 3) rfl)) (by decide) (by decide)) q5a q5c (g := (mkF m 16 #[.val (.long q1), .second, .val (.long (-7046029254386353131 : Int64)), .second, .val (.ref b2), .unset, .unset, .unset, .unset, .unset, .unset] [(.ref b2)])) rfl (by rw [hml]; rfl) (Steps.refl _) (argsL := []) (rest := []) (lenOf pd_2 rfl) rfl (by show 2 * 0 + _ ≤ _; exact Nat.le_of_eq rfl) (hb hby at_16) (fun _ _ => ⟨rfl, rfl, (by decide : 1 + 0 ≤ _), (by decide : 1 + 0 ≤ _)⟩)
  dsimp only [Pt.U, Pt.locs, Pt.cells, Pt.slots] at X5 l5 y5 z5 st5 hQ5
  subst l5 y5 z5
  obtain ⟨rfl, N5q, K5q, fq5_0, fq5_1⟩ := hQ5
  have N5 := Fr.app N4 N5q
  have Z5 : n0 ≤ T5.heap.size := Nat.le_trans Z4 K5q.1
  refine Run.tr st5 ?_
  show Run p e below s 1 1 (Q_rm0 Z q1 h0 n0) (T5.setTop (mkF m 19 #[.val (.long q1), .second, .val (.long (-7046029254386353131 : Int64)), .second, .val (.ref b2), .unset, .unset, .unset, .unset, .unset, .unset] [(.long (F_rm3 q1))]))
  refine Run.go (fun _ k => XS.lstore X5.here hx rfl (hb hby at_19) rfl (l' := #[.val (.long q1), .second, .val (.long (-7046029254386353131 : Int64)), .second, .val (.ref b2), .val (.long (F_rm3 q1)), .second, .unset, .unset, .unset, .unset]) rfl k) ?_
  show Run p e below s 1 1 (Q_rm0 Z q1 h0 n0) (T5.setTop (mkF m 21 #[.val (.long q1), .second, .val (.long (-7046029254386353131 : Int64)), .second, .val (.ref b2), .val (.long (F_rm3 q1)), .second, .unset, .unset, .unset, .unset] []))
  refine Run.go (fun _ k => XS.aload X5.here hx rfl (hb hby at_21) rfl rfl k) ?_
  show Run p e below s 1 1 (Q_rm0 Z q1 h0 n0) (T5.setTop (mkF m 23 #[.val (.long q1), .second, .val (.long (-7046029254386353131 : Int64)), .second, .val (.ref b2), .val (.long (F_rm3 q1)), .second, .unset, .unset, .unset, .unset] [(.ref b2)]))
  obtain ⟨cq6, kq6, q6a, q6b, q6c⟩ := isOf hZ rfl fq5_1
  obtain ⟨_, _, ⟨T6, L6, k6, n6⟩, -, X6, ⟨Lc6, hQ6, l6, y6, z6⟩, st6⟩ := X5.virtualBack hx (y := (⟨"com/example/throngwise/throngwise/generate/RandomStream", "nextLong", "()J"⟩ : MethodName)) (z := (⟨"com/example/throngwise/throngwise/generate/RandomStream", "nextLong", "()J"⟩ : MethodName)) hown (mvT hZ (hw _ (List.mem_of_getElem? (i := 12) rfl))) (mvT hZ (hw _ (List.mem_of_getElem? (i := 13) rfl))) (notFace_of_selects (args := #[]) (mvT hZ (hw _ (List.mem_of_getElem? (i := 15) rfl)))) (mvT hZ (hw _ (List.mem_of_getElem? (i := 15) rfl))) (mvT hZ (hw _ (List.mem_of_getElem? (i := 14) rfl))) (by decide) (backOf (W := 0) (rm3 l Z a0 hw [] b2 (q1 + (-7046029254386353131 : Int64)) T5.heap n0 Z5 fq5_0 fq5_1 g_b2) hZ (hw _ (List.mem_of_getElem? (i := 16) rfl)) (hw _ (List.mem_of_getElem? (i := 3) rfl)) (by decide) (by decide)) q6a q6c (g := (mkF m 23 #[.val (.long q1), .second, .val (.long (-7046029254386353131 : Int64)), .second, .val (.ref b2), .val (.long (F_rm3 q1)), .second, .unset, .unset, .unset, .unset] [(.ref b2)])) rfl (by rw [hml]; rfl) (Steps.refl _) (argsL := []) (rest := []) (lenOf pd_2 rfl) rfl (by show 2 * 0 + _ ≤ _; exact Nat.le_of_eq rfl) (hb hby at_23) (fun _ _ => ⟨rfl, rfl, (by decide : 1 + 0 ≤ _), (by decide : 1 + 0 ≤ _)⟩)
  dsimp only [Pt.U, Pt.locs, Pt.cells, Pt.slots] at X6 l6 y6 z6 st6 hQ6
  subst l6 y6 z6
  obtain ⟨rfl, N6q, K6q, fq6_0, fq6_1⟩ := hQ6
  have N6 := Fr.app N5 N6q
  have Z6 : n0 ≤ T6.heap.size := Nat.le_trans Z5 K6q.1
  refine Run.tr st6 ?_
  show Run p e below s 1 1 (Q_rm0 Z q1 h0 n0) (T6.setTop (mkF m 26 #[.val (.long q1), .second, .val (.long (-7046029254386353131 : Int64)), .second, .val (.ref b2), .val (.long (F_rm3 q1)), .second, .unset, .unset, .unset, .unset] [(.long (F_rm3 (q1 + (-7046029254386353131 : Int64))))]))
  refine Run.go (fun _ k => XS.lstore X6.here hx rfl (hb hby at_26) rfl (l' := #[.val (.long q1), .second, .val (.long (-7046029254386353131 : Int64)), .second, .val (.ref b2), .val (.long (F_rm3 q1)), .second, .val (.long (F_rm3 (q1 + (-7046029254386353131 : Int64)))), .second, .unset, .unset]) rfl k) ?_
  show Run p e below s 1 1 (Q_rm0 Z q1 h0 n0) (T6.setTop (mkF m 28 #[.val (.long q1), .second, .val (.long (-7046029254386353131 : Int64)), .second, .val (.ref b2), .val (.long (F_rm3 q1)), .second, .val (.long (F_rm3 (q1 + (-7046029254386353131 : Int64)))), .second, .unset, .unset] []))
  refine Run.go (fun _ k => XS.aload X6.here hx rfl (hb hby at_28) rfl rfl k) ?_
  show Run p e below s 1 1 (Q_rm0 Z q1 h0 n0) (T6.setTop (mkF m 30 #[.val (.long q1), .second, .val (.long (-7046029254386353131 : Int64)), .second, .val (.ref b2), .val (.long (F_rm3 q1)), .second, .val (.long (F_rm3 (q1 + (-7046029254386353131 : Int64)))), .second, .unset, .unset] [(.ref b2)]))
  obtain ⟨cq7, kq7, q7a, q7b, q7c⟩ := isOf hZ rfl fq6_1
  obtain ⟨_, _, ⟨T7, L7, k7, n7⟩, -, X7, ⟨Lc7, hQ7, l7, y7, z7⟩, st7⟩ := X6.virtualBack hx (y := (⟨"com/example/throngwise/throngwise/generate/RandomStream", "nextLong", "()J"⟩ : MethodName)) (z := (⟨"com/example/throngwise/throngwise/generate/RandomStream", "nextLong", "()J"⟩ : MethodName)) hown (mvT hZ (hw _ (List.mem_of_getElem? (i := 12) rfl))) (mvT hZ (hw _ (List.mem_of_getElem? (i := 13) rfl))) (notFace_of_selects (args := #[]) (mvT hZ (hw _ (List.mem_of_getElem? (i := 15) rfl)))) (mvT hZ (hw _ (List.mem_of_getElem? (i := 15) rfl))) (mvT hZ (hw _ (List.mem_of_getElem? (i := 14) rfl))) (by decide) (backOf (W := 0) (rm3 l Z a0 hw [] b2 ((q1 + (-7046029254386353131 : Int64)) + (-7046029254386353131 : Int64)) T6.heap n0 Z6 fq6_0 fq6_1 g_b2) hZ (hw _ (List.mem_of_getElem? (i := 16) rfl)) (hw _ (List.mem_of_getElem? (i := 3) rfl)) (by decide) (by decide)) q7a q7c (g := (mkF m 30 #[.val (.long q1), .second, .val (.long (-7046029254386353131 : Int64)), .second, .val (.ref b2), .val (.long (F_rm3 q1)), .second, .val (.long (F_rm3 (q1 + (-7046029254386353131 : Int64)))), .second, .unset, .unset] [(.ref b2)])) rfl (by rw [hml]; rfl) (Steps.refl _) (argsL := []) (rest := []) (lenOf pd_2 rfl) rfl (by show 2 * 0 + _ ≤ _; exact Nat.le_of_eq rfl) (hb hby at_30) (fun _ _ => ⟨rfl, rfl, (by decide : 1 + 0 ≤ _), (by decide : 1 + 0 ≤ _)⟩)
  dsimp only [Pt.U, Pt.locs, Pt.cells, Pt.slots] at X7 l7 y7 z7 st7 hQ7
  subst l7 y7 z7
  obtain ⟨rfl, N7q, K7q, fq7_0, fq7_1⟩ := hQ7
  have N7 := Fr.app N6 N7q
  have Z7 : n0 ≤ T7.heap.size := Nat.le_trans Z6 K7q.1
  refine Run.tr st7 ?_
  show Run p e below s 1 1 (Q_rm0 Z q1 h0 n0) (T7.setTop (mkF m 33 #[.val (.long q1), .second, .val (.long (-7046029254386353131 : Int64)), .second, .val (.ref b2), .val (.long (F_rm3 q1)), .second, .val (.long (F_rm3 (q1 + (-7046029254386353131 : Int64)))), .second, .unset, .unset] [(.long (F_rm3 ((q1 + (-7046029254386353131 : Int64)) + (-7046029254386353131 : Int64))))]))
  refine Run.go (fun _ k => XS.lstore X7.here hx rfl (hb hby at_33) rfl (l' := #[.val (.long q1), .second, .val (.long (-7046029254386353131 : Int64)), .second, .val (.ref b2), .val (.long (F_rm3 q1)), .second, .val (.long (F_rm3 (q1 + (-7046029254386353131 : Int64)))), .second, .val (.long (F_rm3 ((q1 + (-7046029254386353131 : Int64)) + (-7046029254386353131 : Int64)))), .second]) rfl k) ?_
  show Run p e below s 1 1 (Q_rm0 Z q1 h0 n0) (T7.setTop (mkF m 35 #[.val (.long q1), .second, .val (.long (-7046029254386353131 : Int64)), .second, .val (.ref b2), .val (.long (F_rm3 q1)), .second, .val (.long (F_rm3 (q1 + (-7046029254386353131 : Int64)))), .second, .val (.long (F_rm3 ((q1 + (-7046029254386353131 : Int64)) + (-7046029254386353131 : Int64)))), .second] []))
  refine Run.go (fun _ k => XS.lload X7.here hx rfl (hb hby at_35) rfl  k) ?_
  show Run p e below s 1 1 (Q_rm0 Z q1 h0 n0) (T7.setTop (mkF m 37 #[.val (.long q1), .second, .val (.long (-7046029254386353131 : Int64)), .second, .val (.ref b2), .val (.long (F_rm3 q1)), .second, .val (.long (F_rm3 (q1 + (-7046029254386353131 : Int64)))), .second, .val (.long (F_rm3 ((q1 + (-7046029254386353131 : Int64)) + (-7046029254386353131 : Int64)))), .second] [(.long (F_rm3 q1))]))
  obtain ⟨_, _, ⟨T8, L8, k8, n8⟩, -, X8, ⟨Lc8, hQ8, l8, y8, z8⟩, st8⟩ := Jvm.LawKit.callS X7 hx (y := (⟨"com/example/throngwise/throngwise/generate/RandomStreamNextLongPinLaw", "unmix", "(J)J"⟩ : MethodName)) hown (mvT hZ (hw _ (List.mem_of_getElem? (i := 20) rfl))) (mvT hZ (hw _ (List.mem_of_getElem? (i := 21) rfl))) (mvT hZ (hw _ (List.mem_of_getElem? (i := 22) rfl))) (mvT hZ (hw _ (List.mem_of_getElem? (i := 23) rfl))) (by decide) (backOf (W := 0) (rm4 l Z a0 hw [] (F_rm3 q1) T7.heap n0 Z7 ) hZ (hw _ (List.mem_of_getElem? (i := 23) rfl)) (hw _ (List.mem_of_getElem? (i := 22) rfl)) (by decide) (by decide)) (g := (mkF m 37 #[.val (.long q1), .second, .val (.long (-7046029254386353131 : Int64)), .second, .val (.ref b2), .val (.long (F_rm3 q1)), .second, .val (.long (F_rm3 (q1 + (-7046029254386353131 : Int64)))), .second, .val (.long (F_rm3 ((q1 + (-7046029254386353131 : Int64)) + (-7046029254386353131 : Int64)))), .second] [(.long (F_rm3 q1))])) rfl (by rw [hml]; rfl) (argsL := [(.long (F_rm3 q1))]) (rest := []) (lenOf pd_0 rfl) rfl (by show 2 * 0 + _ ≤ _; exact Nat.le_of_eq rfl) (hb hby at_37) (fun _ _ => ⟨rfl, rfl, (by decide : 1 + 0 ≤ _), (by decide : 1 + 0 ≤ _)⟩)
  dsimp only [Pt.U, Pt.locs, Pt.cells, Pt.slots] at X8 l8 y8 z8 st8 hQ8
  subst l8 y8 z8
  obtain ⟨rfl, N8q, e8q⟩ := hQ8
  have N8 := Fr.app N7 N8q
  refine Run.go st8 ?_
  show Run p e below s 1 1 (Q_rm0 Z q1 h0 n0) (T8.setTop (mkF m 40 #[.val (.long q1), .second, .val (.long (-7046029254386353131 : Int64)), .second, .val (.ref b2), .val (.long (F_rm3 q1)), .second, .val (.long (F_rm3 (q1 + (-7046029254386353131 : Int64)))), .second, .val (.long (F_rm3 ((q1 + (-7046029254386353131 : Int64)) + (-7046029254386353131 : Int64)))), .second] [(.long (F_rm4 (F_rm3 q1)))]))
  refine Run.go (fun _ k => XS.lloadN X8.here hx rfl (hb hby at_40) rfl  k) ?_
  show Run p e below s 1 1 (Q_rm0 Z q1 h0 n0) (T8.setTop (mkF m 41 #[.val (.long q1), .second, .val (.long (-7046029254386353131 : Int64)), .second, .val (.ref b2), .val (.long (F_rm3 q1)), .second, .val (.long (F_rm3 (q1 + (-7046029254386353131 : Int64)))), .second, .val (.long (F_rm3 ((q1 + (-7046029254386353131 : Int64)) + (-7046029254386353131 : Int64)))), .second] [(.long q1), (.long (F_rm4 (F_rm3 q1)))]))
  refine Run.go (fun _ k => XS.lloadN X8.here hx rfl (hb hby at_41) rfl  k) ?_
  show Run p e below s 1 1 (Q_rm0 Z q1 h0 n0) (T8.setTop (mkF m 42 #[.val (.long q1), .second, .val (.long (-7046029254386353131 : Int64)), .second, .val (.ref b2), .val (.long (F_rm3 q1)), .second, .val (.long (F_rm3 (q1 + (-7046029254386353131 : Int64)))), .second, .val (.long (F_rm3 ((q1 + (-7046029254386353131 : Int64)) + (-7046029254386353131 : Int64)))), .second] [(.long (-7046029254386353131 : Int64)), (.long q1), (.long (F_rm4 (F_rm3 q1)))]))
  refine Run.go (fun _ k => XS.ladd X8.here hx rfl (hb hby at_42) rfl k) ?_
  show Run p e below s 1 1 (Q_rm0 Z q1 h0 n0) (T8.setTop (mkF m 43 #[.val (.long q1), .second, .val (.long (-7046029254386353131 : Int64)), .second, .val (.ref b2), .val (.long (F_rm3 q1)), .second, .val (.long (F_rm3 (q1 + (-7046029254386353131 : Int64)))), .second, .val (.long (F_rm3 ((q1 + (-7046029254386353131 : Int64)) + (-7046029254386353131 : Int64)))), .second] [(.long (q1 + (-7046029254386353131 : Int64))), (.long (F_rm4 (F_rm3 q1)))]))
  refine Run.go (fun _ k => XS.lcmp X8.here hx rfl (hb hby at_43) rfl k) ?_
  show Run p e below s 1 1 (Q_rm0 Z q1 h0 n0) (T8.setTop (mkF m 44 #[.val (.long q1), .second, .val (.long (-7046029254386353131 : Int64)), .second, .val (.ref b2), .val (.long (F_rm3 q1)), .second, .val (.long (F_rm3 (q1 + (-7046029254386353131 : Int64)))), .second, .val (.long (F_rm3 ((q1 + (-7046029254386353131 : Int64)) + (-7046029254386353131 : Int64)))), .second] [(.int (lcmpW (F_rm4 (F_rm3 q1)) (q1 + (-7046029254386353131 : Int64))))]))
  refine Run.go (fun _ k => XS.ifNo X8.here hx rfl (hb hby at_44) rfl ((if0 _ _).trans (teq ((lw_eq (F_rm4 (F_rm3 q1)) (q1 + (-7046029254386353131 : Int64))).mpr (own_law q1))).2) k) ?_
  show Run p e below s 1 1 (Q_rm0 Z q1 h0 n0) (T8.setTop (mkF m 47 #[.val (.long q1), .second, .val (.long (-7046029254386353131 : Int64)), .second, .val (.ref b2), .val (.long (F_rm3 q1)), .second, .val (.long (F_rm3 (q1 + (-7046029254386353131 : Int64)))), .second, .val (.long (F_rm3 ((q1 + (-7046029254386353131 : Int64)) + (-7046029254386353131 : Int64)))), .second] []))
  refine Run.go (fun _ k => XS.lload X8.here hx rfl (hb hby at_47) rfl  k) ?_
  show Run p e below s 1 1 (Q_rm0 Z q1 h0 n0) (T8.setTop (mkF m 49 #[.val (.long q1), .second, .val (.long (-7046029254386353131 : Int64)), .second, .val (.ref b2), .val (.long (F_rm3 q1)), .second, .val (.long (F_rm3 (q1 + (-7046029254386353131 : Int64)))), .second, .val (.long (F_rm3 ((q1 + (-7046029254386353131 : Int64)) + (-7046029254386353131 : Int64)))), .second] [(.long (F_rm3 (q1 + (-7046029254386353131 : Int64))))]))
  obtain ⟨_, _, ⟨T9, L9, k9, n9⟩, -, X9, ⟨Lc9, hQ9, l9, y9, z9⟩, st9⟩ := Jvm.LawKit.callS X8 hx (y := (⟨"com/example/throngwise/throngwise/generate/RandomStreamNextLongPinLaw", "unmix", "(J)J"⟩ : MethodName)) hown (mvT hZ (hw _ (List.mem_of_getElem? (i := 20) rfl))) (mvT hZ (hw _ (List.mem_of_getElem? (i := 21) rfl))) (mvT hZ (hw _ (List.mem_of_getElem? (i := 22) rfl))) (mvT hZ (hw _ (List.mem_of_getElem? (i := 23) rfl))) (by decide) (backOf (W := 0) (rm4 l Z a0 hw [] (F_rm3 (q1 + (-7046029254386353131 : Int64))) T7.heap n0 Z7 ) hZ (hw _ (List.mem_of_getElem? (i := 23) rfl)) (hw _ (List.mem_of_getElem? (i := 22) rfl)) (by decide) (by decide)) (g := (mkF m 49 #[.val (.long q1), .second, .val (.long (-7046029254386353131 : Int64)), .second, .val (.ref b2), .val (.long (F_rm3 q1)), .second, .val (.long (F_rm3 (q1 + (-7046029254386353131 : Int64)))), .second, .val (.long (F_rm3 ((q1 + (-7046029254386353131 : Int64)) + (-7046029254386353131 : Int64)))), .second] [(.long (F_rm3 (q1 + (-7046029254386353131 : Int64))))])) rfl (by rw [hml]; rfl) (argsL := [(.long (F_rm3 (q1 + (-7046029254386353131 : Int64))))]) (rest := []) (lenOf pd_0 rfl) rfl (by show 2 * 0 + _ ≤ _; exact Nat.le_of_eq rfl) (hb hby at_49) (fun _ _ => ⟨rfl, e8q, (by decide : 1 + 0 ≤ _), (by decide : 1 + 0 ≤ _)⟩)
  dsimp only [Pt.U, Pt.locs, Pt.cells, Pt.slots] at X9 l9 y9 z9 st9 hQ9
  subst l9 y9 z9
  obtain ⟨rfl, N9q, e9q⟩ := hQ9
  have N9 := Fr.app N8 N9q
  refine Run.go st9 ?_
  show Run p e below s 1 1 (Q_rm0 Z q1 h0 n0) (T9.setTop (mkF m 52 #[.val (.long q1), .second, .val (.long (-7046029254386353131 : Int64)), .second, .val (.ref b2), .val (.long (F_rm3 q1)), .second, .val (.long (F_rm3 (q1 + (-7046029254386353131 : Int64)))), .second, .val (.long (F_rm3 ((q1 + (-7046029254386353131 : Int64)) + (-7046029254386353131 : Int64)))), .second] [(.long (F_rm4 (F_rm3 (q1 + (-7046029254386353131 : Int64)))))]))
  refine Run.go (fun _ k => XS.lloadN X9.here hx rfl (hb hby at_52) rfl  k) ?_
  show Run p e below s 1 1 (Q_rm0 Z q1 h0 n0) (T9.setTop (mkF m 53 #[.val (.long q1), .second, .val (.long (-7046029254386353131 : Int64)), .second, .val (.ref b2), .val (.long (F_rm3 q1)), .second, .val (.long (F_rm3 (q1 + (-7046029254386353131 : Int64)))), .second, .val (.long (F_rm3 ((q1 + (-7046029254386353131 : Int64)) + (-7046029254386353131 : Int64)))), .second] [(.long q1), (.long (F_rm4 (F_rm3 (q1 + (-7046029254386353131 : Int64)))))]))
  refine Run.go (fun _ k => X9.ldc2Long hx hown (mvT hZ (hw _ (List.mem_of_getElem? (i := 28) rfl))) (g := (mkF m 53 #[.val (.long q1), .second, .val (.long (-7046029254386353131 : Int64)), .second, .val (.ref b2), .val (.long (F_rm3 q1)), .second, .val (.long (F_rm3 (q1 + (-7046029254386353131 : Int64)))), .second, .val (.long (F_rm3 ((q1 + (-7046029254386353131 : Int64)) + (-7046029254386353131 : Int64)))), .second] [(.long q1), (.long (F_rm4 (F_rm3 (q1 + (-7046029254386353131 : Int64)))))])) rfl (hb hby at_53) _ k) ?_
  show Run p e below s 1 1 (Q_rm0 Z q1 h0 n0) (T9.setTop (mkF m 56 #[.val (.long q1), .second, .val (.long (-7046029254386353131 : Int64)), .second, .val (.ref b2), .val (.long (F_rm3 q1)), .second, .val (.long (F_rm3 (q1 + (-7046029254386353131 : Int64)))), .second, .val (.long (F_rm3 ((q1 + (-7046029254386353131 : Int64)) + (-7046029254386353131 : Int64)))), .second] [(.long (2 : Int64)), (.long q1), (.long (F_rm4 (F_rm3 (q1 + (-7046029254386353131 : Int64)))))]))
  refine Run.go (fun _ k => XS.lloadN X9.here hx rfl (hb hby at_56) rfl  k) ?_
  show Run p e below s 1 1 (Q_rm0 Z q1 h0 n0) (T9.setTop (mkF m 57 #[.val (.long q1), .second, .val (.long (-7046029254386353131 : Int64)), .second, .val (.ref b2), .val (.long (F_rm3 q1)), .second, .val (.long (F_rm3 (q1 + (-7046029254386353131 : Int64)))), .second, .val (.long (F_rm3 ((q1 + (-7046029254386353131 : Int64)) + (-7046029254386353131 : Int64)))), .second] [(.long (-7046029254386353131 : Int64)), (.long (2 : Int64)), (.long q1), (.long (F_rm4 (F_rm3 (q1 + (-7046029254386353131 : Int64)))))]))
  refine Run.go (fun _ k => XS.lmul X9.here hx rfl (hb hby at_57) rfl k) ?_
  show Run p e below s 1 1 (Q_rm0 Z q1 h0 n0) (T9.setTop (mkF m 58 #[.val (.long q1), .second, .val (.long (-7046029254386353131 : Int64)), .second, .val (.ref b2), .val (.long (F_rm3 q1)), .second, .val (.long (F_rm3 (q1 + (-7046029254386353131 : Int64)))), .second, .val (.long (F_rm3 ((q1 + (-7046029254386353131 : Int64)) + (-7046029254386353131 : Int64)))), .second] [(.long (4354685564936845354 : Int64)), (.long q1), (.long (F_rm4 (F_rm3 (q1 + (-7046029254386353131 : Int64)))))]))
  refine Run.go (fun _ k => XS.ladd X9.here hx rfl (hb hby at_58) rfl k) ?_
  show Run p e below s 1 1 (Q_rm0 Z q1 h0 n0) (T9.setTop (mkF m 59 #[.val (.long q1), .second, .val (.long (-7046029254386353131 : Int64)), .second, .val (.ref b2), .val (.long (F_rm3 q1)), .second, .val (.long (F_rm3 (q1 + (-7046029254386353131 : Int64)))), .second, .val (.long (F_rm3 ((q1 + (-7046029254386353131 : Int64)) + (-7046029254386353131 : Int64)))), .second] [(.long (q1 + (4354685564936845354 : Int64))), (.long (F_rm4 (F_rm3 (q1 + (-7046029254386353131 : Int64)))))]))
  refine Run.go (fun _ k => XS.lcmp X9.here hx rfl (hb hby at_59) rfl k) ?_
  show Run p e below s 1 1 (Q_rm0 Z q1 h0 n0) (T9.setTop (mkF m 60 #[.val (.long q1), .second, .val (.long (-7046029254386353131 : Int64)), .second, .val (.ref b2), .val (.long (F_rm3 q1)), .second, .val (.long (F_rm3 (q1 + (-7046029254386353131 : Int64)))), .second, .val (.long (F_rm3 ((q1 + (-7046029254386353131 : Int64)) + (-7046029254386353131 : Int64)))), .second] [(.int (lcmpW (F_rm4 (F_rm3 (q1 + (-7046029254386353131 : Int64)))) (q1 + (4354685564936845354 : Int64))))]))
  refine Run.go (fun _ k => XS.ifNo X9.here hx rfl (hb hby at_60) rfl ((if0 _ _).trans (teq ((lw_eq (F_rm4 (F_rm3 (q1 + (-7046029254386353131 : Int64)))) (q1 + (4354685564936845354 : Int64))).mpr ((own_law _).trans (own_g2 q1)))).2) k) ?_
  show Run p e below s 1 1 (Q_rm0 Z q1 h0 n0) (T9.setTop (mkF m 63 #[.val (.long q1), .second, .val (.long (-7046029254386353131 : Int64)), .second, .val (.ref b2), .val (.long (F_rm3 q1)), .second, .val (.long (F_rm3 (q1 + (-7046029254386353131 : Int64)))), .second, .val (.long (F_rm3 ((q1 + (-7046029254386353131 : Int64)) + (-7046029254386353131 : Int64)))), .second] []))
  refine Run.go (fun _ k => XS.lload X9.here hx rfl (hb hby at_63) rfl  k) ?_
  show Run p e below s 1 1 (Q_rm0 Z q1 h0 n0) (T9.setTop (mkF m 65 #[.val (.long q1), .second, .val (.long (-7046029254386353131 : Int64)), .second, .val (.ref b2), .val (.long (F_rm3 q1)), .second, .val (.long (F_rm3 (q1 + (-7046029254386353131 : Int64)))), .second, .val (.long (F_rm3 ((q1 + (-7046029254386353131 : Int64)) + (-7046029254386353131 : Int64)))), .second] [(.long (F_rm3 ((q1 + (-7046029254386353131 : Int64)) + (-7046029254386353131 : Int64))))]))
  obtain ⟨_, _, ⟨T10, L10, k10, n10⟩, -, X10, ⟨Lc10, hQ10, l10, y10, z10⟩, st10⟩ := Jvm.LawKit.callS X9 hx (y := (⟨"com/example/throngwise/throngwise/generate/RandomStreamNextLongPinLaw", "unmix", "(J)J"⟩ : MethodName)) hown (mvT hZ (hw _ (List.mem_of_getElem? (i := 20) rfl))) (mvT hZ (hw _ (List.mem_of_getElem? (i := 21) rfl))) (mvT hZ (hw _ (List.mem_of_getElem? (i := 22) rfl))) (mvT hZ (hw _ (List.mem_of_getElem? (i := 23) rfl))) (by decide) (backOf (W := 0) (rm4 l Z a0 hw [] (F_rm3 ((q1 + (-7046029254386353131 : Int64)) + (-7046029254386353131 : Int64))) T7.heap n0 Z7 ) hZ (hw _ (List.mem_of_getElem? (i := 23) rfl)) (hw _ (List.mem_of_getElem? (i := 22) rfl)) (by decide) (by decide)) (g := (mkF m 65 #[.val (.long q1), .second, .val (.long (-7046029254386353131 : Int64)), .second, .val (.ref b2), .val (.long (F_rm3 q1)), .second, .val (.long (F_rm3 (q1 + (-7046029254386353131 : Int64)))), .second, .val (.long (F_rm3 ((q1 + (-7046029254386353131 : Int64)) + (-7046029254386353131 : Int64)))), .second] [(.long (F_rm3 ((q1 + (-7046029254386353131 : Int64)) + (-7046029254386353131 : Int64))))])) rfl (by rw [hml]; rfl) (argsL := [(.long (F_rm3 ((q1 + (-7046029254386353131 : Int64)) + (-7046029254386353131 : Int64))))]) (rest := []) (lenOf pd_0 rfl) rfl (by show 2 * 0 + _ ≤ _; exact Nat.le_of_eq rfl) (hb hby at_65) (fun _ _ => ⟨rfl, e9q, (by decide : 1 + 0 ≤ _), (by decide : 1 + 0 ≤ _)⟩)
  dsimp only [Pt.U, Pt.locs, Pt.cells, Pt.slots] at X10 l10 y10 z10 st10 hQ10
  subst l10 y10 z10
  obtain ⟨rfl, N10q, e10q⟩ := hQ10
  have N10 := Fr.app N9 N10q
  refine Run.go st10 ?_
  show Run p e below s 1 1 (Q_rm0 Z q1 h0 n0) (T10.setTop (mkF m 68 #[.val (.long q1), .second, .val (.long (-7046029254386353131 : Int64)), .second, .val (.ref b2), .val (.long (F_rm3 q1)), .second, .val (.long (F_rm3 (q1 + (-7046029254386353131 : Int64)))), .second, .val (.long (F_rm3 ((q1 + (-7046029254386353131 : Int64)) + (-7046029254386353131 : Int64)))), .second] [(.long (F_rm4 (F_rm3 ((q1 + (-7046029254386353131 : Int64)) + (-7046029254386353131 : Int64)))))]))
  refine Run.go (fun _ k => XS.lloadN X10.here hx rfl (hb hby at_68) rfl  k) ?_
  show Run p e below s 1 1 (Q_rm0 Z q1 h0 n0) (T10.setTop (mkF m 69 #[.val (.long q1), .second, .val (.long (-7046029254386353131 : Int64)), .second, .val (.ref b2), .val (.long (F_rm3 q1)), .second, .val (.long (F_rm3 (q1 + (-7046029254386353131 : Int64)))), .second, .val (.long (F_rm3 ((q1 + (-7046029254386353131 : Int64)) + (-7046029254386353131 : Int64)))), .second] [(.long q1), (.long (F_rm4 (F_rm3 ((q1 + (-7046029254386353131 : Int64)) + (-7046029254386353131 : Int64)))))]))
  refine Run.go (fun _ k => X10.ldc2Long hx hown (mvT hZ (hw _ (List.mem_of_getElem? (i := 30) rfl))) (g := (mkF m 69 #[.val (.long q1), .second, .val (.long (-7046029254386353131 : Int64)), .second, .val (.ref b2), .val (.long (F_rm3 q1)), .second, .val (.long (F_rm3 (q1 + (-7046029254386353131 : Int64)))), .second, .val (.long (F_rm3 ((q1 + (-7046029254386353131 : Int64)) + (-7046029254386353131 : Int64)))), .second] [(.long q1), (.long (F_rm4 (F_rm3 ((q1 + (-7046029254386353131 : Int64)) + (-7046029254386353131 : Int64)))))])) rfl (hb hby at_69) _ k) ?_
  show Run p e below s 1 1 (Q_rm0 Z q1 h0 n0) (T10.setTop (mkF m 72 #[.val (.long q1), .second, .val (.long (-7046029254386353131 : Int64)), .second, .val (.ref b2), .val (.long (F_rm3 q1)), .second, .val (.long (F_rm3 (q1 + (-7046029254386353131 : Int64)))), .second, .val (.long (F_rm3 ((q1 + (-7046029254386353131 : Int64)) + (-7046029254386353131 : Int64)))), .second] [(.long (3 : Int64)), (.long q1), (.long (F_rm4 (F_rm3 ((q1 + (-7046029254386353131 : Int64)) + (-7046029254386353131 : Int64)))))]))
  refine Run.go (fun _ k => XS.lloadN X10.here hx rfl (hb hby at_72) rfl  k) ?_
  show Run p e below s 1 1 (Q_rm0 Z q1 h0 n0) (T10.setTop (mkF m 73 #[.val (.long q1), .second, .val (.long (-7046029254386353131 : Int64)), .second, .val (.ref b2), .val (.long (F_rm3 q1)), .second, .val (.long (F_rm3 (q1 + (-7046029254386353131 : Int64)))), .second, .val (.long (F_rm3 ((q1 + (-7046029254386353131 : Int64)) + (-7046029254386353131 : Int64)))), .second] [(.long (-7046029254386353131 : Int64)), (.long (3 : Int64)), (.long q1), (.long (F_rm4 (F_rm3 ((q1 + (-7046029254386353131 : Int64)) + (-7046029254386353131 : Int64)))))]))
  refine Run.go (fun _ k => XS.lmul X10.here hx rfl (hb hby at_73) rfl k) ?_
  show Run p e below s 1 1 (Q_rm0 Z q1 h0 n0) (T10.setTop (mkF m 74 #[.val (.long q1), .second, .val (.long (-7046029254386353131 : Int64)), .second, .val (.ref b2), .val (.long (F_rm3 q1)), .second, .val (.long (F_rm3 (q1 + (-7046029254386353131 : Int64)))), .second, .val (.long (F_rm3 ((q1 + (-7046029254386353131 : Int64)) + (-7046029254386353131 : Int64)))), .second] [(.long (-2691343689449507777 : Int64)), (.long q1), (.long (F_rm4 (F_rm3 ((q1 + (-7046029254386353131 : Int64)) + (-7046029254386353131 : Int64)))))]))
  refine Run.go (fun _ k => XS.ladd X10.here hx rfl (hb hby at_74) rfl k) ?_
  show Run p e below s 1 1 (Q_rm0 Z q1 h0 n0) (T10.setTop (mkF m 75 #[.val (.long q1), .second, .val (.long (-7046029254386353131 : Int64)), .second, .val (.ref b2), .val (.long (F_rm3 q1)), .second, .val (.long (F_rm3 (q1 + (-7046029254386353131 : Int64)))), .second, .val (.long (F_rm3 ((q1 + (-7046029254386353131 : Int64)) + (-7046029254386353131 : Int64)))), .second] [(.long (q1 + (-2691343689449507777 : Int64))), (.long (F_rm4 (F_rm3 ((q1 + (-7046029254386353131 : Int64)) + (-7046029254386353131 : Int64)))))]))
  refine Run.go (fun _ k => XS.lcmp X10.here hx rfl (hb hby at_75) rfl k) ?_
  show Run p e below s 1 1 (Q_rm0 Z q1 h0 n0) (T10.setTop (mkF m 76 #[.val (.long q1), .second, .val (.long (-7046029254386353131 : Int64)), .second, .val (.ref b2), .val (.long (F_rm3 q1)), .second, .val (.long (F_rm3 (q1 + (-7046029254386353131 : Int64)))), .second, .val (.long (F_rm3 ((q1 + (-7046029254386353131 : Int64)) + (-7046029254386353131 : Int64)))), .second] [(.int (lcmpW (F_rm4 (F_rm3 ((q1 + (-7046029254386353131 : Int64)) + (-7046029254386353131 : Int64)))) (q1 + (-2691343689449507777 : Int64))))]))
  refine Run.go (fun _ k => XS.ifNo X10.here hx rfl (hb hby at_76) rfl ((if0 _ _).trans (teq ((lw_eq (F_rm4 (F_rm3 ((q1 + (-7046029254386353131 : Int64)) + (-7046029254386353131 : Int64)))) (q1 + (-2691343689449507777 : Int64))).mpr ((own_law _).trans (own_g3 q1)))).2) k) ?_
  show Run p e below s 1 1 (Q_rm0 Z q1 h0 n0) (T10.setTop (mkF m 79 #[.val (.long q1), .second, .val (.long (-7046029254386353131 : Int64)), .second, .val (.ref b2), .val (.long (F_rm3 q1)), .second, .val (.long (F_rm3 (q1 + (-7046029254386353131 : Int64)))), .second, .val (.long (F_rm3 ((q1 + (-7046029254386353131 : Int64)) + (-7046029254386353131 : Int64)))), .second] []))
  refine Run.go (fun _ k => XS.iconst X10.here hx rfl (hb hby at_79) k) ?_
  show Run p e below s 1 1 (Q_rm0 Z q1 h0 n0) (T10.setTop (mkF m 80 #[.val (.long q1), .second, .val (.long (-7046029254386353131 : Int64)), .second, .val (.ref b2), .val (.long (F_rm3 q1)), .second, .val (.long (F_rm3 (q1 + (-7046029254386353131 : Int64)))), .second, .val (.long (F_rm3 ((q1 + (-7046029254386353131 : Int64)) + (-7046029254386353131 : Int64)))), .second] [(.int (1 : Int32))]))
  refine Run.go (fun _ k => XS.goto X10.here hx rfl (pc0 := 80) (pc' := 84) rfl (hb hby at_80) (by decide) (by decide) k) ?_
  show Run p e below s 1 1 (Q_rm0 Z q1 h0 n0) (T10.setTop (mkF m 84 #[.val (.long q1), .second, .val (.long (-7046029254386353131 : Int64)), .second, .val (.ref b2), .val (.long (F_rm3 q1)), .second, .val (.long (F_rm3 (q1 + (-7046029254386353131 : Int64)))), .second, .val (.long (F_rm3 ((q1 + (-7046029254386353131 : Int64)) + (-7046029254386353131 : Int64)))), .second] [(.int (1 : Int32))]))
  exact Run.retN (y := 1) X10 hx (t := .boolean) Bd.returns (by simp) rfl Bd.notSynchronized (hb hby at_84) (by decide) (by decide) ⟨rfl, N10⟩
set_option maxRecDepth 65536 in
set_option maxHeartbeats 40000000 in
theorem comes_1 {Post : Tables → Env → Array Value → State → Outcome → State → Prop} (hpost : ∀ tb e args s v u, (limb_1_1.after args s (.returned v) u = true ∧ limb_1_2.after args s (.returned v) u = true ∧ True) → FrameEnd s (.returned v) u (Jvm.fieldLocs frame_1_writes args s ++ Jvm.arrayLocs frame_1_arrays args s ++ Jvm.staticLocs frame_1_statics s) 16 128 → Post tb e args s (.returned v) u) :
    ArmFor flags0 classFile x code maxLocals ret World_1 tables_1 room_1 Calls_1 rest_1 Pre_1 Post := by
  intro l hfl _ _ p e ha hc hk s m args below hf hA hF happ hP
  obtain ⟨hcalls, hrest, hpre⟩ := hP
  obtain ⟨-, -, -, hnamed, -, -, -, hat⟩ := (Spec.applies_iff hf).mp happ
  obtain ⟨hg, hn⟩ := and_e (Cond.before_iff.mp (show (Jvm.Cond.and given_1 narrow_1).before args s = true from hpre))
  obtain ⟨g1, g2⟩ := and_e hg
  obtain ⟨w0, rfl⟩ : ∃ w0 : Value, args = #[w0] := by
    have hs : args.size = 1 := by simpa [Cond.value, given_1] using g1
    obtain ⟨L⟩ := args
    match L, hs with
    | [w0], _ => exact ⟨w0, rfl⟩
  have hw := fun d (hd : d ∈ tables_1) => atoms_spec (ws := Jvm.Cond.code x code maxLocals ret :: tables_1) hat d (List.mem_cons_of_mem _ hd)
  have hfit : Fit s := fun {y c} hc i hi => by
    obtain ⟨ha, rfl⟩ := Array.getElem?_eq_some_iff.mp hc
    have q := List.all_eq_true.mp ((Array.all_eq_true_iff_forall_mem.mp hF) _ (Array.getElem_mem ha)) i (List.mem_range.mpr hi)
    simpa [Array.getElem?_eq_getElem hi] using q
  obtain ⟨i0, ei0⟩ := isL_v g2
  obtain rfl : w0 = (.long i0) := Option.some.inj ei0
  obtain ⟨n, o, h1, h2, h3, _, L, rfl, ⟨rfl, N⟩, hq⟩ := rm0 l s _ hw tables_1 i0 s.heap s.heap.size (Nat.le_refl _)  p e ha hc hk s m _ below hf ((Spec.applies_iff_loose hf).mp happ).1 ⟨rfl, State.Warmed39.refl s, rfl⟩ trivial
  refine ⟨n, _, h1, h2, h3, hpost _ _ _ _ _ _ ⟨Cond.after_iff.mpr rfl, Cond.after_iff.mpr (eq_i res_at (Term.int_eval (1)) rfl), trivial⟩ ⟨hq.1, hq.2.1, (hq.2.2.sift fun y hy => Or.inr (N y hy)).mono (by decide) (by decide)⟩⟩
theorem main_1_1 : Claimed_1_1 := comes_1 fun _ _ _ _ _ _ h hF => ⟨h.1, hF⟩
theorem main_1_2 : Claimed_1_2 := comes_1 fun _ _ _ _ _ _ h hF => ⟨h.2.1, hF⟩
end Jvm.Pilot.@@N@@
namespace Jvm.Pilot.@@N@@
open Jvm Jvm.ClassFile Sem Op Lib Jvm.Free Jvm.Stand Jvm.Pilot.@@N@@.Jvm.D
/-! MADE BY PROGRAM (witnessworld.py) out of the Statement's table words and the real class files: 9 classes; the members and pool entries that the words name. The judged class is class 1, her method 3. -/
namespace start1
open Jvm.ClassFile
def u (s : String) : CpInfo := .utf8 (stringToUtf16 s)
/-- a pool by its gaps: so many unusable entries, then the entry; so many at the end -/
def gap : Nat → List CpInfo → List CpInfo
  | 0, r => r
  | n + 1, r => .unusable :: gap n r
def poolList (es : List (Nat × CpInfo)) (last : Nat) : List CpInfo := es.foldr (fun e r => gap e.1 (e.2 :: r)) (gap last [])
def pool (es : List (Nat × CpInfo)) (last : Nat) : Array CpInfo := ⟨poolList es last⟩
def fileOf (pool : Array CpInfo) (this : Nat) (attrs : Array Attribute := #[]) (ms : Array MethodInfo := #[]) (fl : Nat := 33) (sup : Nat := 0) (ifs : Array Nat := #[]) (fds : Array FieldInfo := #[]) : ClassFile where
  minorVersion := 0
  majorVersion := 65
  constantPool := pool
  accessFlags := fl
  thisClass := this
  superClass := sup
  interfaces := ifs
  fields := fds
  methods := ms
  attributes := attrs
def plain (name : String) (sup : Option ClassId) : Class where
  name := name
  kind := .ordinary
  loader := none
  accessFlags := 33
  super := sup
  interfaces := #[]
  cf := none
  fields := #[]
  methods := #[]
  instanceTypes := #[]
  staticTypes := #[]
  resolved := #[]
  callSites := []
  init := .initialized
  statics := none
  mirror := none

def pool0 : Array CpInfo := pool [(5, u "<init>"), (0, u "()V"), (1, .class_ 10), (1, u "java/lang/Object")] 113

def k0c0 : Code := { maxStack := 0, maxLocals := 1, code := object_method_1_code, exceptionTable := #[], attributes := #[] }
def k0m0 : Method := { name := "<init>", desc := "()V", sig := { parameters := [], returnType := none }, accessFlags := 1, code := some k0c0 }
/-- java/lang/Object -/
def k0 : Class := { plain "java/lang/Object" none with
  accessFlags := 33
  interfaces := #[]
  cf := some (fileOf pool0 8 #[] #[{ accessFlags := 1, nameIndex := 5, descriptorIndex := 6, attributes := #[] }] 33 0 #[] #[])
  fields := #[]
  methods := #[k0m0]
  instanceTypes := #[]
  staticTypes := #[]
  resolved := Array.replicate 124 none
  statics := none }

def pool1 : Array CpInfo := pool [(2, .class_ 4), (1, u "java/lang/Object"), (0, u "<init>"), (0, u "()V"), (0, .long 2), (1, .long 13787848793156543929), (1, .methodref 12 13), (0, .class_ 14), (0, .nameAndType 15 16), (0, u "com/example/throngwise/throngwise/generate/RandomStreamNextLongPinLaw"), (0, u "inverse"), (0, u "(J)J"), (0, .long 10723151780598845931), (1, .long 11400714819323198485), (1, .class_ 22), (0, u "com/example/throngwise/throngwise/generate/RandomStream"), (0, .methodref 21 24), (0, .nameAndType 5 25), (0, u "(J)V"), (0, .methodref 21 27), (0, .nameAndType 28 29), (0, u "nextLong"), (0, u "()J"), (0, .methodref 12 31), (0, .nameAndType 32 16), (0, u "unmix"), (0, .long 3), (3, u "law"), (0, u "(J)Z")] 3

def k1m0 : Method := { name := "<init>", desc := "()V", sig := { parameters := [], returnType := none }, accessFlags := 1, code := none }
def k1c1 : Code := { maxStack := 8, maxLocals := 4, code := method_2_code, exceptionTable := #[], attributes := #[] }
def k1m1 : Method := { name := "inverse", desc := "(J)J", sig := { parameters := [.long], returnType := some .long }, accessFlags := 10, code := some k1c1 }
def k1c2 : Code := { maxStack := 5, maxLocals := 8, code := method_3_code, exceptionTable := #[], attributes := #[] }
def k1m2 : Method := { name := "unmix", desc := "(J)J", sig := { parameters := [.long], returnType := some .long }, accessFlags := 10, code := some k1c2 }
def k1c3 : Code := { maxStack := 8, maxLocals := 11, code := code, exceptionTable := #[], attributes := #[] }
def k1m3 : Method := { name := "law", desc := "(J)Z", sig := { parameters := [.long], returnType := some .boolean }, accessFlags := 9, code := some k1c3 }
/-- com/example/throngwise/throngwise/generate/RandomStreamNextLongPinLaw -/
def k1 : Class := { plain "com/example/throngwise/throngwise/generate/RandomStreamNextLongPinLaw" (some 0) with
  accessFlags := 49
  interfaces := #[]
  cf := some (fileOf pool1 12 #[] #[{ accessFlags := 1, nameIndex := 5, descriptorIndex := 6, attributes := #[] }, { accessFlags := 10, nameIndex := 15, descriptorIndex := 16, attributes := #[] }, { accessFlags := 10, nameIndex := 32, descriptorIndex := 16, attributes := #[] }, { accessFlags := 9, nameIndex := 37, descriptorIndex := 38, attributes := #[] }] 49 2 #[] #[])
  fields := #[]
  methods := #[k1m0, k1m1, k1m2, k1m3]
  instanceTypes := #[]
  staticTypes := #[]
  resolved := Array.replicate 42 none
  statics := none }

def pool2 : Array CpInfo := pool [(1, .methodref 2 3), (0, .class_ 4), (0, .nameAndType 5 6), (0, u "java/lang/Object"), (0, u "<init>"), (0, u "()V"), (0, .fieldref 8 9), (0, .class_ 10), (0, .nameAndType 11 12), (0, u "com/example/throngwise/throngwise/generate/RandomStream"), (0, u "state"), (0, u "J"), (0, .long 11400714819323198485), (1, .long 13787848793156543929), (1, .long 10723151780598845931), (3, u "nextLong"), (0, u "()J"), (15, u "GAMMA"), (1, u "(J)V")] 24

def k2c0 : Code := { maxStack := 3, maxLocals := 3, code := prog_14_method_1_code, exceptionTable := #[], attributes := #[] }
def k2m0 : Method := { name := "<init>", desc := "(J)V", sig := { parameters := [.long], returnType := none }, accessFlags := 0, code := some k2c0 }
def k2c1 : Code := { maxStack := 5, maxLocals := 3, code := prog_14_method_2_code, exceptionTable := #[], attributes := #[] }
def k2m1 : Method := { name := "nextLong", desc := "()J", sig := { parameters := [], returnType := some .long }, accessFlags := 0, code := some k2c1 }
/-- com/example/throngwise/throngwise/generate/RandomStream -/
def k2 : Class := { plain "com/example/throngwise/throngwise/generate/RandomStream" (some 0) with
  accessFlags := 48
  interfaces := #[]
  cf := some (fileOf pool2 8 #[] #[{ accessFlags := 0, nameIndex := 5, descriptorIndex := 40, attributes := #[] }, { accessFlags := 0, nameIndex := 21, descriptorIndex := 22, attributes := #[] }] 48 2 #[] #[{ accessFlags := 26, nameIndex := 38, descriptorIndex := 12, attributes := #[] }, { accessFlags := 2, nameIndex := 11, descriptorIndex := 12, attributes := #[] }])
  fields := #[{ name := "GAMMA", type := .long, accessFlags := 26, slot := 0, constantValue := 0 }, { name := "state", type := .long, accessFlags := 2, slot := 0, constantValue := 0 }]
  methods := #[k2m0, k2m1]
  instanceTypes := #[.long]
  staticTypes := #[.long]
  resolved := Array.replicate 65 none
  statics := none }

def pool3 : Array CpInfo := pool [(1, u "java/lang/Cloneable"), (0, .class_ 1), (0, u "java/lang/Object"), (0, .class_ 3)] 3

/-- java/lang/Cloneable -/
def k3 : Class := { plain "java/lang/Cloneable" (some 0) with
  accessFlags := 1537
  interfaces := #[]
  cf := some (fileOf pool3 2 #[] #[] 1537 4 #[] #[])
  fields := #[]
  methods := #[]
  instanceTypes := #[]
  staticTypes := #[]
  resolved := Array.replicate 8 none
  statics := none }

def pool4 : Array CpInfo := pool [(1, u "java/io/Serializable"), (0, .class_ 1), (0, u "java/lang/Object"), (0, .class_ 3)] 3

/-- java/io/Serializable -/
def k4 : Class := { plain "java/io/Serializable" (some 0) with
  accessFlags := 1537
  interfaces := #[]
  cf := some (fileOf pool4 2 #[] #[] 1537 4 #[] #[])
  fields := #[]
  methods := #[]
  instanceTypes := #[]
  staticTypes := #[]
  resolved := Array.replicate 8 none
  statics := none }

/-- the primitive byte -/
def k5 : Class := { plain "byte" none with kind := .primitive 'B', accessFlags := 0x411 }
/-- [B -/
def k6 : Class := { plain "[B" (some 0) with kind := .array 5 .byte, interfaces := #[3, 4], accessFlags := 1041 }

/-- the primitive int -/
def k7 : Class := { plain "int" none with kind := .primitive 'I', accessFlags := 0x411 }
/-- [I -/
def k8 : Class := { plain "[I" (some 0) with kind := .array 7 .int, interfaces := #[3, 4], accessFlags := 1041 }

def heap : Heap := #[]
def classes : Array Class := #[k0, k1, k2, k3, k4, k5, k6, k7, k8]
def interned : List (Array UInt16 × Addr) := []
def slotsUsed : Nat := 0
def theMethod : MethodId := ⟨1, 3⟩
def args0 : Array Value := #[.long 5]
def aboutOver (below : List Frame) : State where
  vm := { classes := classes, interned := interned.toArray }
  heap := heap
  slotsUsed := slotsUsed
  threads := #[{ frames := .invoking theMethod args0 :: below }]
def below0 : List Frame := [.native { method := ⟨0, 0⟩, args := #[] }]
def about1 : State := aboutOver below0
def p0 : Program := .bare "" "" ""
def e0 : Env := launch0.env 0 0 0
theorem w_frames : about1.frames = Frame.invoking theMethod args0 :: below0 := rfl
set_option maxRecDepth 65536 in
theorem w_args : argsFit about1.vm theMethod args0 = true := by decide +kernel
set_option maxRecDepth 65536 in
theorem w_heap : heapFits about1 = true := by decide +kernel
set_option maxRecDepth 65536 in
theorem w_runnable : about1.curStatus? = some .runnable := by decide +kernel
set_option maxRecDepth 65536 in
theorem w_alone : about1.alone = true := by decide +kernel
set_option maxRecDepth 65536 in
theorem w_named : about1.methodNamed? x = some theMethod := by decide +kernel
set_option maxRecDepth 65536 in
theorem w_hears : about1.hears theMethod below0 = true := by decide +kernel
set_option maxRecDepth 65536 in
theorem w_ripe : about1.ripe theMethod args0 below0 = true := by decide +kernel
theorem w_running : about1.status = .running := rfl
set_option maxRecDepth 65536 in
theorem w_room : about1.hasRoom e0.platform room_1 = true :=
  launch0.hasRoom_least _ room_1 (by decide +kernel) (by decide +kernel) (by decide +kernel) (by decide +kernel) (by decide +kernel) (by decide +kernel)
theorem allAtoms_all (ts : List Jvm.Cond) (a : Array Jvm.Value) (st : Jvm.State) : (allAtoms ts).before a st = ts.all (fun c => c.before a st) := by
  induction ts with
  | nil => rfl
  | cons c t ih =>
    show (Jvm.Cond.and c (allAtoms t)).before a st = _
    rw [Jvm.Cond.before_and, ih, List.all_cons]
def words1 : List Jvm.Cond := Jvm.Cond.code x code maxLocals ret :: tables_1
/-- a 'code' word, met by the world's own term for the bytes: nothing is compared byte by byte -/
theorem code_word {y : MethodName} {bytes : ByteArray} {mx : Nat} {rt : Option FieldType} {a : Array Value} {s : State} {m : MethodId} {meth : Method} {c : Code} (h1 : s.methodNamed? y = some m) (h2 : s.vm.method? m = some meth) (h3 : meth.code = some c) (h4 : c.code = bytes)
    (h5 : (c.maxLocals == mx && c.exceptionTable.isEmpty && decide (c.maxStack ≤ mostOperands) && decide (meth.sig.returnType = rt) && !meth.locks && decide (parseMethodDescriptor y.desc = some meth.sig)) = true) : (Jvm.Cond.code y bytes mx rt).before a s = true := by
  simp only [Bool.and_eq_true, beq_iff_eq, Bool.not_eq_true', decide_eq_true_eq] at h5
  obtain ⟨⟨⟨⟨⟨g1, g2⟩, g3⟩, g4⟩, g5⟩, g6⟩ := h5
  simp [Cond.before, Cond.holds, Cond.value, h1, h2, h3, h4, g1, g2, g3, g4, g5, g6]
def isCode : Jvm.Cond → Bool
  | .code _ _ _ _ => true
  | _ => false
theorem all_split {L : List Jvm.Cond} {P : Jvm.Cond → Bool} (h1 : L.all (fun c => isCode c || P c) = true) (h2 : ∀ c ∈ L.filter isCode, P c = true) : L.all P = true := by
  refine List.all_eq_true.mpr fun c hc => ?_
  have h := List.all_eq_true.mp h1 c hc
  rcases Bool.eq_false_or_eq_true (isCode c) with hi | hi
  · exact h2 c (List.mem_filter.mpr ⟨hc, hi⟩)
  · simpa [hi] using h
set_option maxRecDepth 65536 in
theorem w_c0 : (Jvm.Cond.code x code maxLocals ret).before args0 about1 = true := code_word (m := ⟨1, 3⟩) (meth := k1m3) (c := k1c3) (by decide +kernel) rfl rfl rfl (by decide +kernel)
set_option maxRecDepth 65536 in
theorem w_c1 : (Jvm.Cond.code ({ cls := "com/example/throngwise/throngwise/generate/RandomStream", name := "<init>", desc := "(J)V" } : Jvm.MethodName) prog_14_method_1_code (3 : Nat) (Option.none : Option Jvm.ClassFile.FieldType)).before args0 about1 = true := code_word (m := ⟨2, 0⟩) (meth := k2m0) (c := k2c0) (by decide +kernel) rfl rfl rfl (by decide +kernel)
set_option maxRecDepth 65536 in
theorem w_c2 : (Jvm.Cond.code ({ cls := "java/lang/Object", name := "<init>", desc := "()V" } : Jvm.MethodName) object_method_1_code (1 : Nat) (Option.none : Option Jvm.ClassFile.FieldType)).before args0 about1 = true := code_word (m := ⟨0, 0⟩) (meth := k0m0) (c := k0c0) (by decide +kernel) rfl rfl rfl (by decide +kernel)
set_option maxRecDepth 65536 in
theorem w_c3 : (Jvm.Cond.code ({ cls := "com/example/throngwise/throngwise/generate/RandomStream", name := "nextLong", desc := "()J" } : Jvm.MethodName) prog_14_method_2_code (3 : Nat) (Option.some Jvm.ClassFile.FieldType.long)).before args0 about1 = true := code_word (m := ⟨2, 1⟩) (meth := k2m1) (c := k2c1) (by decide +kernel) rfl rfl rfl (by decide +kernel)
set_option maxRecDepth 65536 in
theorem w_c4 : (Jvm.Cond.code ({ cls := "com/example/throngwise/throngwise/generate/RandomStreamNextLongPinLaw", name := "unmix", desc := "(J)J" } : Jvm.MethodName) method_3_code (8 : Nat) (Option.some Jvm.ClassFile.FieldType.long)).before args0 about1 = true := code_word (m := ⟨1, 2⟩) (meth := k1m2) (c := k1c2) (by decide +kernel) rfl rfl rfl (by decide +kernel)
set_option maxRecDepth 65536 in
theorem w_c5 : (Jvm.Cond.code ({ cls := "com/example/throngwise/throngwise/generate/RandomStreamNextLongPinLaw", name := "inverse", desc := "(J)J" } : Jvm.MethodName) method_2_code (4 : Nat) (Option.some Jvm.ClassFile.FieldType.long)).before args0 about1 = true := code_word (m := ⟨1, 1⟩) (meth := k1m1) (c := k1c1) (by decide +kernel) rfl rfl rfl (by decide +kernel)
def codes1 : List Jvm.Cond := [Jvm.Cond.code x code maxLocals ret, Jvm.Cond.code ({ cls := "com/example/throngwise/throngwise/generate/RandomStream", name := "<init>", desc := "(J)V" } : Jvm.MethodName) prog_14_method_1_code (3 : Nat) (Option.none : Option Jvm.ClassFile.FieldType), Jvm.Cond.code ({ cls := "java/lang/Object", name := "<init>", desc := "()V" } : Jvm.MethodName) object_method_1_code (1 : Nat) (Option.none : Option Jvm.ClassFile.FieldType), Jvm.Cond.code ({ cls := "com/example/throngwise/throngwise/generate/RandomStream", name := "nextLong", desc := "()J" } : Jvm.MethodName) prog_14_method_2_code (3 : Nat) (Option.some Jvm.ClassFile.FieldType.long), Jvm.Cond.code ({ cls := "com/example/throngwise/throngwise/generate/RandomStreamNextLongPinLaw", name := "unmix", desc := "(J)J" } : Jvm.MethodName) method_3_code (8 : Nat) (Option.some Jvm.ClassFile.FieldType.long), Jvm.Cond.code ({ cls := "com/example/throngwise/throngwise/generate/RandomStreamNextLongPinLaw", name := "inverse", desc := "(J)J" } : Jvm.MethodName) method_2_code (4 : Nat) (Option.some Jvm.ClassFile.FieldType.long)]
set_option maxRecDepth 65536 in
theorem codes_eq : words1.filter isCode = codes1 := rfl
theorem w_codes : ∀ c ∈ words1.filter isCode, c.before args0 about1 = true := by
  rw [codes_eq]
  intro c hc
  simp only [codes1, List.mem_cons, List.not_mem_nil, or_false] at hc
  rcases hc with rfl | rfl | rfl | rfl | rfl | rfl
  · exact w_c0
  · exact w_c1
  · exact w_c2
  · exact w_c3
  · exact w_c4
  · exact w_c5
set_option maxRecDepth 65536 in
theorem w_t1 : (words1.take 24).all (fun c => isCode c || c.before args0 about1) = true := by decide +kernel
set_option maxRecDepth 65536 in
theorem w_t2 : (words1.drop 24).all (fun c => isCode c || c.before args0 about1) = true := by decide +kernel
theorem w_tables : (allAtoms (Jvm.Cond.code x code maxLocals ret :: tables_1)).before args0 about1 = true := by
  rw [allAtoms_all]
  show words1.all (fun c => c.before args0 about1) = true
  refine all_split ?_ w_codes
  rw [← List.take_append_drop 24 words1, List.all_append, w_t1, w_t2]
  rfl
set_option maxRecDepth 65536 in
theorem w_case : (Jvm.Cond.and given_1 narrow_1).before args0 about1 = true := by decide +kernel
theorem w_applies : (headSpec (Jvm.Cond.code x code maxLocals ret :: tables_1) room_1).applies x e0.platform about1 = true :=
  (Spec.applies_iff w_frames).mpr ⟨w_running, w_runnable, w_alone, w_named, w_hears, w_ripe, w_room, w_tables⟩
theorem atStart : AtStart classFile x code maxLocals ret World_1 tables_1 room_1 Calls_1 rest_1 Pre_1 launch0 p0 e0 about1 theMethod args0 below0 :=
  ⟨lists_1, trivial, launch0.admits_env _ _ _, launch0.least_env, fairChoices_fair.cas, fairChoices_fair.clock, w_frames, w_args, w_heap, w_applies, trivial, trivial, w_case⟩
end start1
theorem witness_1 : WitnessClaimed_1 := ⟨start1.p0, start1.e0, start1.about1, start1.theMethod, start1.args0, start1.below0, start1.atStart⟩
end Jvm.Pilot.@@N@@
