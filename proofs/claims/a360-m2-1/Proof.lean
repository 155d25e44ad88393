import JvmDerived
import JvmDerived.Pilot.@@N@@Statement
import JvmDerived.Pilot.@@N@@Code
set_option linter.unusedVariables false
set_option linter.unusedSimpArgs false
namespace Jvm.Pilot.@@N@@
open Jvm Jvm.ClassFile Sem Op Lib Jvm.Free Jvm.Stand Jvm.LawKit Jvm.RoadKit Bundle Jvm.Pilot.@@N@@.Jvm.D
section Own
variable {p : Program} {l : Launch} {e : Env} {R : Room} {s : State} {m : MethodId} {args : Array Value} {below : List Frame} {meth : Method} {c : Code} {T : State} {locs : List Loc} {cells slots : Nat} {Z : State} {h h' : Heap}
def Run (p : Program) (e : Env) (below : List Frame) (s : State) (C N : Nat) (Q : Option Value → Heap → List Loc → Prop) (S : State) : Prop :=
  ∃ s₂ o, Steps p.tables e below S s₂ ∧ s₂.status = .running ∧ Ended s₂ below o ∧ ∃ v L, o = .returned v ∧ Q v s₂.heap L ∧ FrameEnd s o s₂ L C N
variable {C N : Nat} {Q : Option Value → Heap → List Loc → Prop} {S S' : State}
theorem Run.go (k : ∀ t, Steps p.tables e below S' t → Steps p.tables e below S t) (r : Run p e below s C N Q S') : Run p e below s C N Q S := by
  obtain ⟨s₂, o, h1, r⟩ := r
  exact ⟨s₂, o, k _ h1, r⟩
theorem Run.tr (k : Steps p.tables e below S S') (r : Run p e below s C N Q S') : Run p e below s C N Q S := by
  obtain ⟨s₂, o, h1, r⟩ := r
  exact ⟨s₂, o, k.trans h1, r⟩
theorem Run.retI (X : Stand p l e R s m args below meth c T locs cells slots) (hx : p.tables.exec = Jvm.exec) {pc : Nat} {Ls : Array Slot} {z : Int32} {rest : List Value} (hret : meth.sig.returnType = some .int) (hlk : meth.locks = false) (hd : decode c.code pc = .ok (.ireturn, 1)) (hc : cells ≤ C) (hn : slots ≤ N)
    (hQ : Q (some (.int z)) T.heap locs) : Run p e below s C N Q (T.setTop (mkF m pc Ls (.int z :: rest))) := by
  obtain ⟨fs, hr, hrun, hended, hW, hsame⟩ := X.leave (v := some (.int z)) (fun q => by rw [hret] at q; cases q)
  refine ⟨_, _, ?_, hrun, hended, _, _, rfl, hQ, ⟨_, rfl⟩, hW, hsame.mono hc hn⟩
  have hm' : T.vm.method? m = some meth := X.method'
  have hn : narrow .int (.int z) = .int z := rfl
  show Steps p.tables e below (T.setTop { method := m, pc := pc, locals := Ls, stack := _ :: rest, locked := none }) _
  jvm_step X.here [X.here.top, hx, hd, hm', hret, hn]
  first | (intro acts; rw [hr _ acts rfl rfl rfl]) | rw [hr _ _ rfl rfl rfl]
  exact Steps.refl _
theorem Run.retN (X : Stand p l e R s m args below meth c T locs cells slots) (hx : p.tables.exec = Jvm.exec) {pc : Nat} {Ls : Array Slot} {z y : Int32} {t : FieldType} {rest : List Value} (hret : meth.sig.returnType = some t) (ht : t = .boolean ∨ t = .byte ∨ t = .char ∨ t = .short) (hy : nar t z = y) (hlk : meth.locks = false) (hd : decode c.code pc = .ok (.ireturn, 1)) (hc : cells ≤ C) (hn : slots ≤ N)
    (hQ : Q (some (.int y)) T.heap locs) : Run p e below s C N Q (T.setTop (mkF m pc Ls (.int z :: rest))) := by
  subst hy
  obtain ⟨fs, hr, hrun, hended, hW, hsame⟩ := X.leave (v := some (.int (nar t z))) (fun q => by rw [hret] at q; cases q)
  exact ⟨_, _, Jvm.RoadKit.retN X hx hret ht hd hr, hrun, hended, _, _, rfl, hQ, ⟨_, rfl⟩, hW, hsame.mono hc hn⟩
theorem Run.retJ (X : Stand p l e R s m args below meth c T locs cells slots) (hx : p.tables.exec = Jvm.exec) {pc : Nat} {Ls : Array Slot} {z : Int64} {rest : List Value} (hret : meth.sig.returnType = some .long) (hlk : meth.locks = false) (hd : decode c.code pc = .ok (.lreturn, 1)) (hc : cells ≤ C) (hn : slots ≤ N)
    (hQ : Q (some (.long z)) T.heap locs) : Run p e below s C N Q (T.setTop (mkF m pc Ls (.long z :: rest))) := by
  obtain ⟨fs, hr, hrun, hended, hW, hsame⟩ := X.leave (v := some (.long z)) (fun q => by rw [hret] at q; cases q)
  refine ⟨_, _, ?_, hrun, hended, _, _, rfl, hQ, ⟨_, rfl⟩, hW, hsame.mono hc hn⟩
  have hm' : T.vm.method? m = some meth := X.method'
  show Steps p.tables e below (T.setTop { method := m, pc := pc, locals := Ls, stack := _ :: rest, locked := none }) _
  jvm_step X.here [X.here.top, hx, hd, hm', hret, narrow]
  first | (intro acts; rw [hr _ acts rfl rfl rfl]) | rw [hr _ _ rfl rfl rfl]
  exact Steps.refl _
theorem Run.retA (X : Stand p l e R s m args below meth c T locs cells slots) (hx : p.tables.exec = Jvm.exec) {pc : Nat} {Ls : Array Slot} {w : Value} {t : FieldType} {rest : List Value} (hw : w.isRef = true) (hret : meth.sig.returnType = some t) (ht : t.isReference = true) (hlk : meth.locks = false) (hd : decode c.code pc = .ok (.areturn, 1)) (hc : cells ≤ C) (hn : slots ≤ N)
    (hQ : Q (some w) T.heap locs) : Run p e below s C N Q (T.setTop (mkF m pc Ls (w :: rest))) := by
  obtain ⟨fs, hr, hrun, hended, hW, hsame⟩ := X.leave (v := some w) (fun q => by rw [hret] at q; cases q)
  refine ⟨_, _, ?_, hrun, hended, _, _, rfl, hQ, ⟨_, rfl⟩, hW, hsame.mono hc hn⟩
  have hm' : T.vm.method? m = some meth := X.method'
  show Steps p.tables e below (T.setTop { method := m, pc := pc, locals := Ls, stack := _ :: rest, locked := none }) _
  rcases ref_cases hw with rfl | ⟨a, rfl⟩
  all_goals
    jvm_step X.here [X.here.top, hx, hd, hm', hret, Value.isRef, ht]
    first | (intro acts; rw [hr _ acts rfl rfl rfl]) | rw [hr _ _ rfl rfl rfl]
    exact Steps.refl _
theorem Run.ret0 (X : Stand p l e R s m args below meth c T locs cells slots) (hx : p.tables.exec = Jvm.exec) {pc : Nat} {Ls : Array Slot} (hret : meth.sig.returnType = none) (hlk : meth.locks = false) (hd : decode c.code pc = .ok (.return_, 1)) (hc : cells ≤ C) (hn : slots ≤ N)
    (hQ : Q none T.heap locs) : Run p e below s C N Q (T.setTop (mkF m pc Ls [])) := by
  obtain ⟨fs, hr, hrun, hended, hW, hsame⟩ := X.leave (v := none) (fun _ => rfl)
  exact ⟨_, _, X.returnOut hx hret hd hr, hrun, hended, _, _, rfl, hQ, ⟨_, rfl⟩, hW, hsame.mono hc hn⟩
theorem Sta.keep {C n d : String} {w : Value} {ws : List Addr} (F : Sta Z h C n d w) (K : Keep h h' ws) (q : ∀ x ∈ ws, ∀ c : Cell, h[x]? = some c → c.vm.isStatics = false) : Sta Z h' C n d w := by
  obtain ⟨cf, i, k, f, st, cell, h1, h2, h3, h4, h5, h6, h7⟩ := F
  refine ⟨cf, i, k, f, st, cell, h1, h2, h3, h4, K.2.1 st cell h5 (fun hm => ?_), h6, h7⟩
  rw [q st hm cell h5] at h6; cases h6
theorem Exa.nst {a : Addr} {C : String} (F : Exa Z h a C) : ∀ c : Cell, h[a]? = some c → c.vm.isStatics = false := fun c q => by
  obtain ⟨cell, k, h1, -, -, h4, -⟩ := F
  cases h1.symm.trans q; exact h4
/-- an array of n elements, the i-th is f i -/
def Ary (Z : State) (h : Heap) (a : Addr) (ty : FieldType) (n : Nat) (f : Nat → Value) : Prop := ∃ c : Cell, Arr Z h a c ty ∧ c.slots.size = n ∧ ∀ i, i < n → c.slots[i]? = some (f i)
variable {a b : Addr} {ty : FieldType} {n sl : Nat} {f : Nat → Value} {v : Value} {ws : List Addr}
theorem Ary.lt (F : Ary Z h a ty n f) : a < h.size := by obtain ⟨c, A, -⟩ := F; exact A.lt
theorem Ary.ext (F : Ary Z h a ty n f) (E : Ext h h') : Ary Z h' a ty n f := by obtain ⟨c, A, r⟩ := F; exact ⟨c, A.ext E, r⟩
theorem Ary.other (F : Ary Z h b ty n f) (W : Wr h h' a sl v) (q : b ≠ a) : Ary Z h' b ty n f := by obtain ⟨c, A, r⟩ := F; exact ⟨c, A.other W q, r⟩
theorem Ary.keep (F : Ary Z h a ty n f) (K : Keep h h' ws) (q : a ∉ ws) : Ary Z h' a ty n f := by obtain ⟨c, A, r⟩ := F; exact ⟨c, ⟨K.2.1 a c A.1 q, A.2⟩, r⟩
theorem Ary.ne {C : String} {a0 : Array Value} {k : Nat} (F : Ary Z h a ty n f) (G : Exa Z h b C) (wi : (Jvm.Cond.instantiable C k).before a0 Z = true) : a ≠ b := by
  obtain ⟨c, A, r⟩ := F; exact (ne_arr G wi A).symm
theorem Ary.same (F : Ary Z h a ty n f) (W : Wr h h' a sl v) : Ary Z h' a ty n (fun i => if i = sl then v else f i) := by
  obtain ⟨c, A, hs, hf⟩ := F
  obtain ⟨c1, q1, q2, q3, q4⟩ := W
  obtain rfl := Option.some.inj (q1.symm.trans A.1)
  refine ⟨c1.setSlot sl v, A.same ⟨c1, q1, q2, q3, q4⟩, by simp [Cell.setSlot, hs], fun i hi => ?_⟩
  by_cases e : i = sl
  · subst e; simp [Cell.setSlot, q3]
  · simp only [if_neg e]; rw [← hf i hi]; exact Array.getElem?_setIfInBounds_ne (Ne.symm e)
theorem Ary.nst (F : Ary Z h a ty n f) : ∀ c : Cell, h[a]? = some c → c.vm.isStatics = false := fun c q => by
  obtain ⟨cl, A, -⟩ := F
  cases A.1.symm.trans q; exact A.plain
theorem Ary.congr {g : Nat → Value} (F : Ary Z h a ty n f) (q : ∀ i, i < n → f i = g i) : Ary Z h a ty n g := by
  obtain ⟨c, A, hs, hf⟩ := F; exact ⟨c, A, hs, fun i hi => by rw [hf i hi, q i hi]⟩
theorem Ary.new {k : ClassId} {z : Int32} (A : Arr Z h a (newA k ty z) ty) (q : z.toNatClampNeg = n) : Ary Z h a ty n (fun _ => defaultValue ty) := by
  subst q
  exact ⟨_, A, sz_new _ _ _, fun i hi => by simp [newA, hi]⟩
theorem out_of {j : Int32} {c : Cell} (hs : c.slots.size = n) (h0 : ¬ j < 0) (hj : j.toNatClampNeg < n) : ¬ (j < 0 ∨ c.slots.size ≤ j.toNatClampNeg) := by
  rw [hs]; exact fun q => q.elim h0 (fun q => absurd hj (Nat.not_lt.mpr q))
/-- an array of references: besides, its class is that of arrays over C -/
def ArR (Z : State) (h : Heap) (a : Addr) (C : String) (n : Nat) (f : Nat → Value) : Prop := ∃ c : Cell, Arr Z h a c (.object C) ∧ Ovr Z c.cls C ∧ c.slots.size = n ∧ ∀ i, i < n → c.slots[i]? = some (f i)
variable {K : String}
theorem ArR.lt (F : ArR Z h a K n f) : a < h.size := by obtain ⟨c, A, -⟩ := F; exact A.lt
theorem ArR.ext (F : ArR Z h a K n f) (E : Ext h h') : ArR Z h' a K n f := by obtain ⟨c, A, r⟩ := F; exact ⟨c, A.ext E, r⟩
theorem ArR.other (F : ArR Z h b K n f) (W : Wr h h' a sl v) (q : b ≠ a) : ArR Z h' b K n f := by obtain ⟨c, A, r⟩ := F; exact ⟨c, A.other W q, r⟩
theorem ArR.keep (F : ArR Z h a K n f) (k : Keep h h' ws) (q : a ∉ ws) : ArR Z h' a K n f := by obtain ⟨c, A, r⟩ := F; exact ⟨c, ⟨k.2.1 a c A.1 q, A.2⟩, r⟩
theorem ArR.ary (F : ArR Z h a K n f) : Ary Z h a (.object K) n f := by obtain ⟨c, A, -, r⟩ := F; exact ⟨c, A, r⟩
theorem ArR.same (F : ArR Z h a K n f) (W : Wr h h' a sl v) : ArR Z h' a K n (fun i => if i = sl then v else f i) := by
  obtain ⟨c, A, o, hs, hf⟩ := F
  obtain ⟨c1, q1, q2, q3, q4⟩ := W
  obtain rfl := Option.some.inj (q1.symm.trans A.1)
  refine ⟨c1.setSlot sl v, A.same ⟨c1, q1, q2, q3, q4⟩, o, by simp [Cell.setSlot, hs], fun i hi => ?_⟩
  by_cases e : i = sl
  · subst e; simp [Cell.setSlot, q3]
  · simp only [if_neg e]; rw [← hf i hi]; exact Array.getElem?_setIfInBounds_ne (Ne.symm e)
theorem ArR.new {k : ClassId} {z : Int32} (A : Arr Z h a (newA k (.object K) z) (.object K)) (O : Ovr Z k K) (q : z.toNatClampNeg = n) : ArR Z h a K n (fun _ => .null) := by
  subst q
  exact ⟨_, A, O, sz_new _ _ _, fun i hi => by simp [newA, hi]; rfl⟩
section Arrays
theorem ary_iget (X : Stand p l e R s m args below meth c T locs cells slots) (hx : p.tables.exec = Jvm.exec) (hZ : Z.Warmed39 s.vm) (eT : T.heap = h) (A : Ary Z h a .int n f) {j : Int32} (h0 : ¬ j < 0) (hj : j.toNatClampNeg < n) {g : JFrame} (hg : g.method = m) {rest : List Value} (hs : g.stack = .int j :: .ref a :: rest) (hd : decode c.code g.pc = .ok (.iaload, 1)) {v : Value} (hv : f j.toNatClampNeg = v) (target : State)
    (k : Steps p.tables e below (T.setTop { g with pc := g.pc + 1, stack := v :: rest }) target) : Steps p.tables e below (T.setTop g) target := by
  subst hv; obtain ⟨cl, A, q, F⟩ := A
  exact X.iaload hx (by rw [eT]; exact A.1) (State.isArrayOf_alike hZ.alike A.2.1) A.2.2 (out_of q h0 hj) (F _ hj) hg hs hd target k
theorem ary_lget (X : Stand p l e R s m args below meth c T locs cells slots) (hx : p.tables.exec = Jvm.exec) (hZ : Z.Warmed39 s.vm) (eT : T.heap = h) (A : Ary Z h a .long n f) {j : Int32} (h0 : ¬ j < 0) (hj : j.toNatClampNeg < n) {g : JFrame} (hg : g.method = m) {rest : List Value} (hs : g.stack = .int j :: .ref a :: rest) (hd : decode c.code g.pc = .ok (.laload, 1)) {v : Value} (hv : f j.toNatClampNeg = v) (target : State)
    (k : Steps p.tables e below (T.setTop { g with pc := g.pc + 1, stack := v :: rest }) target) : Steps p.tables e below (T.setTop g) target := by
  subst hv; obtain ⟨cl, A, q, F⟩ := A
  exact X.laload hx (by rw [eT]; exact A.1) (State.isArrayOf_alike hZ.alike A.2.1) A.2.2 (out_of q h0 hj) (F _ hj) hg hs hd target k
theorem ary_bget (X : Stand p l e R s m args below meth c T locs cells slots) (hx : p.tables.exec = Jvm.exec) (hZ : Z.Warmed39 s.vm) (eT : T.heap = h) (A : Ary Z h a .byte n f) {j : Int32} (h0 : ¬ j < 0) (hj : j.toNatClampNeg < n) {g : JFrame} (hg : g.method = m) {rest : List Value} (hs : g.stack = .int j :: .ref a :: rest) (hd : decode c.code g.pc = .ok (.baload, 1)) {v : Value} (hv : f j.toNatClampNeg = v) (target : State)
    (k : Steps p.tables e below (T.setTop { g with pc := g.pc + 1, stack := v :: rest }) target) : Steps p.tables e below (T.setTop g) target := by
  subst hv; obtain ⟨cl, A, q, F⟩ := A
  exact X.baloadBytes hx (by rw [eT]; exact A.1) (State.isArrayOf_alike hZ.alike A.2.1) A.2.2 (out_of q h0 hj) (F _ hj) hg hs hd target k
theorem ary_cget (X : Stand p l e R s m args below meth c T locs cells slots) (hx : p.tables.exec = Jvm.exec) (hZ : Z.Warmed39 s.vm) (eT : T.heap = h) (A : Ary Z h a .char n f) {j : Int32} (h0 : ¬ j < 0) (hj : j.toNatClampNeg < n) {g : JFrame} (hg : g.method = m) {rest : List Value} (hs : g.stack = .int j :: .ref a :: rest) (hd : decode c.code g.pc = .ok (.caload, 1)) {v : Value} (hv : f j.toNatClampNeg = v) (target : State)
    (k : Steps p.tables e below (T.setTop { g with pc := g.pc + 1, stack := v :: rest }) target) : Steps p.tables e below (T.setTop g) target := by
  subst hv; obtain ⟨cl, A, q, F⟩ := A
  exact X.caload hx (by rw [eT]; exact A.1) (State.isArrayOf_alike hZ.alike A.2.1) A.2.2 (out_of q h0 hj) (F _ hj) hg hs hd target k
theorem ary_aget (X : Stand p l e R s m args below meth c T locs cells slots) (hx : p.tables.exec = Jvm.exec) (hZ : Z.Warmed39 s.vm) (eT : T.heap = h) (A : Ary Z h a ty n f) (hr : ty.isReference = true) {j : Int32} (h0 : ¬ j < 0) (hj : j.toNatClampNeg < n) {g : JFrame} (hg : g.method = m) {rest : List Value} (hs : g.stack = .int j :: .ref a :: rest) (hd : decode c.code g.pc = .ok (.aaload, 1)) {v : Value} (hv : f j.toNatClampNeg = v) (target : State)
    (k : Steps p.tables e below (T.setTop { g with pc := g.pc + 1, stack := v :: rest }) target) : Steps p.tables e below (T.setTop g) target := by
  subst hv; obtain ⟨cl, A, q, F⟩ := A
  exact X.aaload hx (by rw [eT]; exact A.1) (State.isArrayOf_alike hZ.alike A.2.1) hr A.2.2 (out_of q h0 hj) (F _ hj) hg hs hd target k
theorem ary_len (X : Stand p l e R s m args below meth c T locs cells slots) (hx : p.tables.exec = Jvm.exec) (hZ : Z.Warmed39 s.vm) (eT : T.heap = h) (A : Ary Z h a ty n f) {g : JFrame} (hg : g.method = m) {rest : List Value} (hs : g.stack = .ref a :: rest) (hd : decode c.code g.pc = .ok (.arraylength, 1)) {z : Int32} (hv : n.toInt32 = z) (target : State)
    (k : Steps p.tables e below (T.setTop { g with pc := g.pc + 1, stack := .int z :: rest }) target) : Steps p.tables e below (T.setTop g) target := by
  subst hv; obtain ⟨cl, A, q, F⟩ := A
  subst q
  exact X.arraylength hx (by rw [eT]; exact A.1) (State.isArrayOf_alike hZ.alike A.2.1) hg hs hd target k
theorem ary_iset (X : Stand p l e R s m args below meth c T locs cells slots) (hx : p.tables.exec = Jvm.exec) (hZ : Z.Warmed39 s.vm) (eT : T.heap = h) (A : Ary Z h a .int n f) {j x : Int32} (h0 : ¬ j < 0) (hj : j.toNatClampNeg < n) {g : JFrame} (hg : g.method = m) {rest : List Value} (hs : g.stack = .int x :: .int j :: .ref a :: rest) (hd : decode c.code g.pc = .ok (.iastore, 1)) :
    ∃ T' h', Stand p l e R s m args below meth c T' (locs ++ [⟨a, j.toNatClampNeg⟩]) cells slots ∧ T'.heap = h' ∧ Wr h h' a j.toNatClampNeg (.int x) ∧ ∀ target, Steps p.tables e below (T'.setTop { g with pc := g.pc + 1, stack := rest }) target → Steps p.tables e below (T.setTop g) target := by
  obtain ⟨cl, A, q, F⟩ := A
  exact stI X hx hZ eT A (out_of q h0 hj) hg hs hd
theorem ary_lset (X : Stand p l e R s m args below meth c T locs cells slots) (hx : p.tables.exec = Jvm.exec) (hZ : Z.Warmed39 s.vm) (eT : T.heap = h) (A : Ary Z h a .long n f) {j : Int32} {x : Int64} (h0 : ¬ j < 0) (hj : j.toNatClampNeg < n) {g : JFrame} (hg : g.method = m) {rest : List Value} (hs : g.stack = .long x :: .int j :: .ref a :: rest) (hd : decode c.code g.pc = .ok (.lastore, 1)) :
    ∃ T' h', Stand p l e R s m args below meth c T' (locs ++ [⟨a, j.toNatClampNeg⟩]) cells slots ∧ T'.heap = h' ∧ Wr h h' a j.toNatClampNeg (.long x) ∧ ∀ target, Steps p.tables e below (T'.setTop { g with pc := g.pc + 1, stack := rest }) target → Steps p.tables e below (T.setTop g) target := by
  obtain ⟨cl, A, q, F⟩ := A
  exact stJ X hx hZ eT A (out_of q h0 hj) hg hs hd
theorem ary_bset (X : Stand p l e R s m args below meth c T locs cells slots) (hx : p.tables.exec = Jvm.exec) (hZ : Z.Warmed39 s.vm) (eT : T.heap = h) (A : Ary Z h a .byte n f) {j x y : Int32} (h0 : ¬ j < 0) (hj : j.toNatClampNeg < n) {g : JFrame} (hg : g.method = m) {rest : List Value} (hs : g.stack = .int x :: .int j :: .ref a :: rest) (hd : decode c.code g.pc = .ok (.bastore, 1)) (hy : x.toInt8.toInt32 = y) :
    ∃ T' h', Stand p l e R s m args below meth c T' (locs ++ [⟨a, j.toNatClampNeg⟩]) cells slots ∧ T'.heap = h' ∧ Wr h h' a j.toNatClampNeg (.int y) ∧ ∀ target, Steps p.tables e below (T'.setTop { g with pc := g.pc + 1, stack := rest }) target → Steps p.tables e below (T.setTop g) target := by
  subst hy; obtain ⟨cl, A, q, F⟩ := A
  exact stB X hx hZ eT A (out_of q h0 hj) hg hs hd
theorem ary_cset (X : Stand p l e R s m args below meth c T locs cells slots) (hx : p.tables.exec = Jvm.exec) (hZ : Z.Warmed39 s.vm) (eT : T.heap = h) (A : Ary Z h a .char n f) {j x y : Int32} (h0 : ¬ j < 0) (hj : j.toNatClampNeg < n) {g : JFrame} (hg : g.method = m) {rest : List Value} (hs : g.stack = .int x :: .int j :: .ref a :: rest) (hd : decode c.code g.pc = .ok (.castore, 1)) (hy : nar .char x = y) :
    ∃ T' h', Stand p l e R s m args below meth c T' (locs ++ [⟨a, j.toNatClampNeg⟩]) cells slots ∧ T'.heap = h' ∧ Wr h h' a j.toNatClampNeg (.int y) ∧ ∀ target, Steps p.tables e below (T'.setTop { g with pc := g.pc + 1, stack := rest }) target → Steps p.tables e below (T.setTop g) target := by
  subst hy; obtain ⟨cl, A, q, F⟩ := A
  exact stC X hx hZ eT A (out_of q h0 hj) hg hs hd
theorem arr_set (X : Stand p l e R s m args below meth c T locs cells slots) (hx : p.tables.exec = Jvm.exec) (hZ : Z.Warmed39 s.vm) (eT : T.heap = h) (A : ArR Z h a K n f) {j : Int32} {y : Addr} (I : Ins Z h y K true) (h0 : ¬ j < 0) (hj : j.toNatClampNeg < n) {g : JFrame} (hg : g.method = m) {rest : List Value} (hs : g.stack = .ref y :: .int j :: .ref a :: rest) (hd : decode c.code g.pc = .ok (.aastore, 1)) :
    ∃ T' h', Stand p l e R s m args below meth c T' (locs ++ [⟨a, j.toNatClampNeg⟩]) cells slots ∧ T'.heap = h' ∧ Wr h h' a j.toNatClampNeg (.ref y) ∧ ∀ target, Steps p.tables e below (T'.setTop { g with pc := g.pc + 1, stack := rest }) target → Steps p.tables e below (T.setTop g) target := by
  obtain ⟨cl, A, O, q, F⟩ := A
  exact stR X hx hZ eT A (out_of q h0 hj) rfl (Sto.of A O I) hg hs hd
end Arrays
theorem nar_ite (P : Prop) [Decidable P] : nar .boolean (if P then (1 : Int32) else 0) = if P then 1 else 0 := by by_cases q : P <;> simp [q] <;> rfl
theorem b_idem (x : Int32) : x.toInt8.toInt32.toInt8.toInt32 = x.toInt8.toInt32 := by rw [Int8.toInt8_toInt32]
theorem isI_c (x : Int32) : ∀ n : Nat, ∃ y, (fun _ => Value.int x) n = Value.int y := fun _ => ⟨x, rfl⟩
theorem isI_s {f : Nat → Value} (q : ∀ n, ∃ y, f n = Value.int y) (k : Nat) (x : Int32) : ∀ n, ∃ y, (fun i => if i = k then Value.int x else f i) n = Value.int y := fun n => by
  by_cases e : n = k
  · exact ⟨x, if_pos e⟩
  · obtain ⟨y, hy⟩ := q n
    exact ⟨y, (if_neg e).trans hy⟩
end Own
theorem d2_0 : decode jdk_30_method_1_code 0 = .ok (.aload_n 0, 1) := by decide +kernel
theorem d2_1 : decode jdk_30_method_1_code 1 = .ok (.invokespecial 1, 3) := by decide +kernel
theorem d2_4 : decode jdk_30_method_1_code 4 = .ok (.return_, 1) := by decide +kernel
def Q_rm2 (Z : State) (a1 : Addr) (h0 : Heap) (n0 : Nat) (v : Option Value) (h : Heap) (L : List Loc) : Prop := v = none ∧ Fr n0 L ∧ h = h0
theorem ef_rm2 (m : MethodId) (x0 : Addr) : entryFrame m #[(.ref x0)] 1 = mkF m 0 #[.val (.ref x0)] [] := by first | (simp [entryFrame, mkF, argsToLocals, Value.category]; done) | rfl
theorem pn_0 : plainName "java/lang/Record" = true := by first | (simp [plainName, overriddenIn]; done) | decide +kernel
set_option maxRecDepth 65536 in
set_option maxHeartbeats 40000000 in
theorem rm2 (l : Launch) (Z : State) (a0 : Array Value) (hw : ∀ d ∈ tables_1, d.before a0 Z = true) (ws : List Jvm.Cond) (a1 : Addr) (h0 : Heap) (n0 : Nat) (Z0 : n0 ≤ h0.size)  :
    MetFree l (⟨"java/lang/Record", "<init>", "()V"⟩ : MethodName) (head1 (Jvm.Cond.code (⟨"java/lang/Record", "<init>", "()V"⟩ : MethodName) jdk_30_method_1_code 1 none :: ws) ({ frames := 1, cells := 0, slots := 0, locals := 12 } : Room)) (fun a U => a = #[(.ref a1)] ∧ Z.Warmed39 U.vm ∧ U.heap = h0) (fun _ _ _ _ _ => True) (fun _ U o U' => ∃ v L, o = .returned v ∧ Q_rm2 Z a1 h0 n0 v U'.heap L ∧ FrameEnd U o U' L ({ frames := 1, cells := 0, slots := 0, locals := 12 } : Room).cells ({ frames := 1, cells := 0, slots := 0, locals := 12 } : Room).slots) := by
  refine MetFree.of_bodySF (plainFor_of_name pn_0) hisR ?_
  intro p e s m args below meth c s₁ Bd hml0 hP hK
  obtain ⟨rfl, hZ, hh⟩ := hP
  have hx := Bd.exec
  have hby := Bd.bytes
  have hml : c.maxLocals = 1 := hml0
  have hown : s.vm.findClass "java/lang/Record" = some m.cls := findClass_of_methodNamed Bd.named
  have hnm := (name_of_methodNamed Bd.named Bd.method).1
  have X0 : Stand p l e ({ frames := 1, cells := 0, slots := 0, locals := 12 } : Room) s m #[(.ref a1)] below meth c s₁ [] 0 0 := Stand.of_body Bd
  have e0 : s₁.heap = h0 := by rw [← hh, Bd.state]; rfl
  have N0 := Fr.nil n0
  show Run p e below s 0 0 (Q_rm2 Z a1 h0 n0) (s₁.setTop (entryFrame m #[(.ref a1)] 1))
  refine Run.go (fun _ k => castTop (ef_rm2 m a1) k) ?_
  show Run p e below s 0 0 (Q_rm2 Z a1 h0 n0) (s₁.setTop (mkF m 0 #[.val (.ref a1)] []))
  refine Run.go (fun _ k => XS.aloadN X0.here hx rfl (hb hby d2_0) rfl rfl k) ?_
  show Run p e below s 0 0 (Q_rm2 Z a1 h0 n0) (s₁.setTop (mkF m 1 #[.val (.ref a1)] [(.ref a1)]))
  obtain ⟨T2, X2, e2, st2⟩ := initO X0 hx hZ hown (hw _ (List.mem_of_getElem? (i := 11) rfl)) (hw _ (List.mem_of_getElem? (i := 12) rfl)) (hw _ (List.mem_of_getElem? (i := 13) rfl)) e0 (g := (mkF m 1 #[.val (.ref a1)] [(.ref a1)])) rfl (by rw [hml]; rfl) rfl (hb hby d2_1) (by decide) (W := 0) (by show 2 * 0 + _ ≤ _; exact Nat.le_of_eq rfl) (by decide)
  refine Run.go st2 ?_
  show Run p e below s 0 0 (Q_rm2 Z a1 h0 n0) (T2.setTop (mkF m 4 #[.val (.ref a1)] []))
  refine Run.ret0 X2 hx Bd.returns Bd.notSynchronized (hb hby d2_4) (by decide) (by decide) ?_
  show Q_rm2 Z a1 h0 n0 _ T2.heap _
  exact ⟨rfl, N0, e2⟩
theorem d1_0 : decode prog_18_method_1_code 0 = .ok (.aload_n 0, 1) := by decide +kernel
theorem d1_1 : decode prog_18_method_1_code 1 = .ok (.invokespecial 1, 3) := by decide +kernel
theorem pd_0 : parseMethodDescriptor "()V" = some ⟨[], none⟩ := by decide +kernel
theorem d1_4 : decode prog_18_method_1_code 4 = .ok (.aload_n 0, 1) := by decide +kernel
theorem d1_5 : decode prog_18_method_1_code 5 = .ok (.iload_n 1, 1) := by decide +kernel
theorem d1_6 : decode prog_18_method_1_code 6 = .ok (.putfield 7, 3) := by decide +kernel
theorem d1_9 : decode prog_18_method_1_code 9 = .ok (.aload_n 0, 1) := by decide +kernel
theorem d1_10 : decode prog_18_method_1_code 10 = .ok (.iload_n 2, 1) := by decide +kernel
theorem d1_11 : decode prog_18_method_1_code 11 = .ok (.putfield 13, 3) := by decide +kernel
theorem d1_14 : decode prog_18_method_1_code 14 = .ok (.return_, 1) := by decide +kernel
def Q_rm1 (Z : State) (a1 : Addr) (p2 : Int32) (p3 : Int32) (u_from_a1 : Value) (u_until_a1 : Value) (h0 : Heap) (n0 : Nat) (v : Option Value) (h : Heap) (L : List Loc) : Prop := v = none ∧ Fr n0 L ∧ Keep h0 h [a1] ∧ Exa Z h a1 "com/example/throngwise/throngwise/rounds/Window" ∧ Fld Z h a1 "com/example/throngwise/throngwise/rounds/Window" "from" "I" (.int p2) ∧ Fld Z h a1 "com/example/throngwise/throngwise/rounds/Window" "until" "I" (.int p3)
theorem ef_rm1 (m : MethodId) (x0 : Addr) (x1 : Int32) (x2 : Int32) : entryFrame m #[(.ref x0), (.int x1), (.int x2)] 3 = mkF m 0 #[.val (.ref x0), .val (.int x1), .val (.int x2)] [] := by first | (simp [entryFrame, mkF, argsToLocals, Value.category]; done) | rfl
theorem pn_1 : plainName "com/example/throngwise/throngwise/rounds/Window" = true := by first | (simp [plainName, overriddenIn]; done) | decide +kernel
set_option maxRecDepth 65536 in
set_option maxHeartbeats 40000000 in
theorem rm1 (l : Launch) (Z : State) (a0 : Array Value) (hw : ∀ d ∈ tables_1, d.before a0 Z = true) (ws : List Jvm.Cond) (a1 : Addr) (p2 : Int32) (p3 : Int32) (u_from_a1 : Value) (u_until_a1 : Value) (h0 : Heap) (n0 : Nat) (Z0 : n0 ≤ h0.size) (E_a1 : Exa Z h0 a1 "com/example/throngwise/throngwise/rounds/Window") (F_from_a1 : Fld Z h0 a1 "com/example/throngwise/throngwise/rounds/Window" "from" "I" u_from_a1) (g_a1 : n0 ≤ a1) (F_until_a1 : Fld Z h0 a1 "com/example/throngwise/throngwise/rounds/Window" "until" "I" u_until_a1) :
    MetFree l (⟨"com/example/throngwise/throngwise/rounds/Window", "<init>", "(II)V"⟩ : MethodName) (head1 (Jvm.Cond.code (⟨"com/example/throngwise/throngwise/rounds/Window", "<init>", "(II)V"⟩ : MethodName) prog_18_method_1_code 3 none :: ws) ({ frames := 2, cells := 0, slots := 0, locals := 24 } : Room)) (fun a U => a = #[(.ref a1), (.int p2), (.int p3)] ∧ Z.Warmed39 U.vm ∧ U.heap = h0) (fun _ _ _ _ _ => True) (fun _ U o U' => ∃ v L, o = .returned v ∧ Q_rm1 Z a1 p2 p3 u_from_a1 u_until_a1 h0 n0 v U'.heap L ∧ FrameEnd U o U' L ({ frames := 2, cells := 0, slots := 0, locals := 24 } : Room).cells ({ frames := 2, cells := 0, slots := 0, locals := 24 } : Room).slots) := by
  refine MetFree.of_bodySF (plainFor_of_name pn_1) hisR ?_
  intro p e s m args below meth c s₁ Bd hml0 hP hK
  obtain ⟨rfl, hZ, hh⟩ := hP
  have hx := Bd.exec
  have hby := Bd.bytes
  have hml : c.maxLocals = 3 := hml0
  have hown : s.vm.findClass "com/example/throngwise/throngwise/rounds/Window" = some m.cls := findClass_of_methodNamed Bd.named
  have hnm := (name_of_methodNamed Bd.named Bd.method).1
  have X0 : Stand p l e ({ frames := 2, cells := 0, slots := 0, locals := 24 } : Room) s m #[(.ref a1), (.int p2), (.int p3)] below meth c s₁ [] 0 0 := Stand.of_body Bd
  have e0 : s₁.heap = h0 := by rw [← hh, Bd.state]; rfl
  have N0 := Fr.nil n0
  show Run p e below s 0 0 (Q_rm1 Z a1 p2 p3 u_from_a1 u_until_a1 h0 n0) (s₁.setTop (entryFrame m #[(.ref a1), (.int p2), (.int p3)] 3))
  refine Run.go (fun _ k => castTop (ef_rm1 m a1 p2 p3) k) ?_
  show Run p e below s 0 0 (Q_rm1 Z a1 p2 p3 u_from_a1 u_until_a1 h0 n0) (s₁.setTop (mkF m 0 #[.val (.ref a1), .val (.int p2), .val (.int p3)] []))
  refine Run.go (fun _ k => XS.aloadN X0.here hx rfl (hb hby d1_0) rfl rfl k) ?_
  show Run p e below s 0 0 (Q_rm1 Z a1 p2 p3 u_from_a1 u_until_a1 h0 n0) (s₁.setTop (mkF m 1 #[.val (.ref a1), .val (.int p2), .val (.int p3)] [(.ref a1)]))
  obtain ⟨_, _, ⟨T4, L4, k4, n4⟩, -, X4, ⟨Lc4, hQ4, l4, y4, z4⟩, st4⟩ := X0.specialBack hx (y := (⟨"java/lang/Record", "<init>", "()V"⟩ : MethodName)) rfl hown (mvT hZ (hw _ (List.mem_of_getElem? (i := 6) rfl))) (mvT hZ (hw _ (List.mem_of_getElem? (i := 7) rfl))) (mvT hZ (hw _ (List.mem_of_getElem? (i := 10) rfl))) (by decide) (backOf (W := 0) (rm2 l Z a0 hw [] a1 h0 n0 Z0 ) hZ (hw _ (List.mem_of_getElem? (i := 10) rfl)) (hw _ (List.mem_of_getElem? (i := 9) rfl)) (by decide) (by decide)) (g := (mkF m 1 #[.val (.ref a1), .val (.int p2), .val (.int p3)] [(.ref a1)])) rfl (by rw [hml]; rfl) (Steps.refl _) (a := a1) (argsL := []) (rest := []) (lenOf pd_0 rfl) rfl (by show 2 * 0 + _ ≤ _; exact Nat.le_of_eq rfl) (hb hby d1_1) (fun _ _ => ⟨rfl, e0, (by decide : 0 + 0 ≤ _), (by decide : 0 + 0 ≤ _)⟩)
  dsimp only [Pt.U, Pt.locs, Pt.cells, Pt.slots] at X4 l4 y4 z4 st4 hQ4
  subst l4 y4 z4
  obtain ⟨rfl, N4q, e4q⟩ := hQ4
  have N4 := Fr.app N0 N4q
  refine Run.tr st4 ?_
  show Run p e below s 0 0 (Q_rm1 Z a1 p2 p3 u_from_a1 u_until_a1 h0 n0) (T4.setTop (mkF m 4 #[.val (.ref a1), .val (.int p2), .val (.int p3)] []))
  refine Run.go (fun _ k => XS.aloadN X4.here hx rfl (hb hby d1_4) rfl rfl k) ?_
  show Run p e below s 0 0 (Q_rm1 Z a1 p2 p3 u_from_a1 u_until_a1 h0 n0) (T4.setTop (mkF m 5 #[.val (.ref a1), .val (.int p2), .val (.int p3)] [(.ref a1)]))
  refine Run.go (fun _ k => XS.iloadN X4.here hx rfl (hb hby d1_5) rfl  k) ?_
  show Run p e below s 0 0 (Q_rm1 Z a1 p2 p3 u_from_a1 u_until_a1 h0 n0) (T4.setTop (mkF m 6 #[.val (.ref a1), .val (.int p2), .val (.int p3)] [(.int p2), (.ref a1)]))
  obtain ⟨T5, h5, X5, e5, W5, st5⟩ := putF X4 hx hZ hown (host := "") (Or.inl (hw _ (List.mem_of_getElem? (i := 14) rfl))) Via.refl e4q F_from_a1 E_a1 (Or.inr ⟨(hw _ (List.mem_of_getElem? (i := 15) rfl)), rfl, hnm⟩) (hw _ (List.mem_of_getElem? (i := 1) rfl)) (ty := .int) (by decide) rfl rfl (g := (mkF m 6 #[.val (.ref a1), .val (.int p2), .val (.int p3)] [(.int p2), (.ref a1)])) rfl rfl (hb hby d1_6)
  have N5 := Fr.snoc X5 N4 g_a1
  have Z5 : n0 ≤ h5.size := Nat.le_trans Z0 (Keep.of_wr W5).1
  have K5 : Keep h0 h5 [a1] := (Keep.refl h0 [a1]).wr W5 (Or.inl (List.mem_of_getElem? (i := 0) rfl))
  have fx6 := F_from_a1.same W5
  refine Run.go st5 ?_
  show Run p e below s 0 0 (Q_rm1 Z a1 p2 p3 u_from_a1 u_until_a1 h0 n0) (T5.setTop (mkF m 9 #[.val (.ref a1), .val (.int p2), .val (.int p3)] []))
  refine Run.go (fun _ k => XS.aloadN X5.here hx rfl (hb hby d1_9) rfl rfl k) ?_
  show Run p e below s 0 0 (Q_rm1 Z a1 p2 p3 u_from_a1 u_until_a1 h0 n0) (T5.setTop (mkF m 10 #[.val (.ref a1), .val (.int p2), .val (.int p3)] [(.ref a1)]))
  refine Run.go (fun _ k => XS.iloadN X5.here hx rfl (hb hby d1_10) rfl  k) ?_
  show Run p e below s 0 0 (Q_rm1 Z a1 p2 p3 u_from_a1 u_until_a1 h0 n0) (T5.setTop (mkF m 11 #[.val (.ref a1), .val (.int p2), .val (.int p3)] [(.int p3), (.ref a1)]))
  have fx7 := (E_a1.wr W5)
  have fx8 := (F_until_a1.other W5 (Or.inr (slot_ne (Or.inr (hw _ (List.mem_of_getElem? (i := 17) rfl))) (Or.inr (hw _ (List.mem_of_getElem? (i := 15) rfl))) (by decide) (t := .int) (t' := .int) (by decide) (by decide))))
  obtain ⟨T9, h9, X9, e9, W9, st9⟩ := putF X5 hx hZ hown (host := "") (Or.inl (hw _ (List.mem_of_getElem? (i := 16) rfl))) Via.refl e5 fx8 fx7 (Or.inr ⟨(hw _ (List.mem_of_getElem? (i := 17) rfl)), rfl, hnm⟩) (hw _ (List.mem_of_getElem? (i := 1) rfl)) (ty := .int) (by decide) rfl rfl (g := (mkF m 11 #[.val (.ref a1), .val (.int p2), .val (.int p3)] [(.int p3), (.ref a1)])) rfl rfl (hb hby d1_11)
  have N9 := Fr.snoc X9 N5 g_a1
  have Z9 : n0 ≤ h9.size := Nat.le_trans Z5 (Keep.of_wr W9).1
  have K9 : Keep h0 h9 [a1] := K5.wr W9 (Or.inl (List.mem_of_getElem? (i := 0) rfl))
  have fx10 := fx8.same W9
  refine Run.go st9 ?_
  show Run p e below s 0 0 (Q_rm1 Z a1 p2 p3 u_from_a1 u_until_a1 h0 n0) (T9.setTop (mkF m 14 #[.val (.ref a1), .val (.int p2), .val (.int p3)] []))
  refine Run.ret0 X9 hx Bd.returns Bd.notSynchronized (hb hby d1_14) (by decide) (by decide) ?_
  show Q_rm1 Z a1 p2 p3 u_from_a1 u_until_a1 h0 n0 _ T9.heap _
  have fx11 := (fx7.wr W9)
  have fx12 := (fx6.other W9 (Or.inr (slot_ne (Or.inr (hw _ (List.mem_of_getElem? (i := 15) rfl))) (Or.inr (hw _ (List.mem_of_getElem? (i := 17) rfl))) (by decide) (t := .int) (t' := .int) (by decide) (by decide))))
  rw [e9]
  exact ⟨rfl, N9, K9, fx11, fx12, fx10⟩
theorem d4_0 : decode prog_18_method_2_code 0 = .ok (.aload_n 0, 1) := by decide +kernel
theorem d4_1 : decode prog_18_method_2_code 1 = .ok (.getfield 7, 3) := by decide +kernel
theorem d4_4 : decode prog_18_method_2_code 4 = .ok (.iload_n 1, 1) := by decide +kernel
theorem d4_5 : decode prog_18_method_2_code 5 = .ok (.if_icmp .gt 15, 3) := by decide +kernel
theorem d4_20 : decode prog_18_method_2_code 20 = .ok (.iconst 0, 1) := by decide +kernel
theorem d4_8 : decode prog_18_method_2_code 8 = .ok (.iload_n 1, 1) := by decide +kernel
theorem d4_9 : decode prog_18_method_2_code 9 = .ok (.aload_n 0, 1) := by decide +kernel
theorem d4_10 : decode prog_18_method_2_code 10 = .ok (.getfield 13, 3) := by decide +kernel
theorem d4_13 : decode prog_18_method_2_code 13 = .ok (.if_icmp .gt 7, 3) := by decide +kernel
theorem d4_16 : decode prog_18_method_2_code 16 = .ok (.iconst 1, 1) := by decide +kernel
theorem d4_17 : decode prog_18_method_2_code 17 = .ok (.goto 4, 3) := by decide +kernel
theorem d4_21 : decode prog_18_method_2_code 21 = .ok (.ireturn, 1) := by decide +kernel
def F_rm4 (p2 : Int32) (w3 : Int32) (w5 : Int32) : Int32 := let w8 : Int32 := (if ((¬ (p2 < w3)) ∧ (¬ (w5 < p2))) then (1 : Int32) else 0); w8
def Q_rm4 (Z : State) (a1 : Addr) (p2 : Int32) (w3 : Int32) (w5 : Int32) (h0 : Heap) (n0 : Nat) (v : Option Value) (h : Heap) (L : List Loc) : Prop := v = some (.int (F_rm4 p2 w3 w5)) ∧ Fr n0 L ∧ h = h0
theorem ef_rm4 (m : MethodId) (x0 : Addr) (x1 : Int32) : entryFrame m #[(.ref x0), (.int x1)] 2 = mkF m 0 #[.val (.ref x0), .val (.int x1)] [] := by first | (simp [entryFrame, mkF, argsToLocals, Value.category]; done) | rfl
set_option maxRecDepth 65536 in
set_option maxHeartbeats 40000000 in
theorem rm4 (l : Launch) (Z : State) (a0 : Array Value) (hw : ∀ d ∈ tables_1, d.before a0 Z = true) (ws : List Jvm.Cond) (a1 : Addr) (p2 : Int32) (w3 : Int32) (w5 : Int32) (h0 : Heap) (n0 : Nat) (Z0 : n0 ≤ h0.size) (F_from_a1 : Fld Z h0 a1 "com/example/throngwise/throngwise/rounds/Window" "from" "I" (.int w3)) (F_until_a1 : Fld Z h0 a1 "com/example/throngwise/throngwise/rounds/Window" "until" "I" (.int w5)) :
    MetFree l (⟨"com/example/throngwise/throngwise/rounds/Window", "contains", "(I)Z"⟩ : MethodName) (head1 (Jvm.Cond.code (⟨"com/example/throngwise/throngwise/rounds/Window", "contains", "(I)Z"⟩ : MethodName) prog_18_method_2_code 2 (some .boolean) :: ws) ({ frames := 0, cells := 0, slots := 0, locals := 0 } : Room)) (fun a U => a = #[(.ref a1), (.int p2)] ∧ Z.Warmed39 U.vm ∧ U.heap = h0) (fun _ _ _ _ _ => True) (fun _ U o U' => ∃ v L, o = .returned v ∧ Q_rm4 Z a1 p2 w3 w5 h0 n0 v U'.heap L ∧ FrameEnd U o U' L ({ frames := 0, cells := 0, slots := 0, locals := 0 } : Room).cells ({ frames := 0, cells := 0, slots := 0, locals := 0 } : Room).slots) := by
  refine MetFree.of_bodySF (plainFor_of_name pn_1) hisR ?_
  intro p e s m args below meth c s₁ Bd hml0 hP hK
  obtain ⟨rfl, hZ, hh⟩ := hP
  have hx := Bd.exec
  have hby := Bd.bytes
  have hml : c.maxLocals = 2 := hml0
  have hown : s.vm.findClass "com/example/throngwise/throngwise/rounds/Window" = some m.cls := findClass_of_methodNamed Bd.named
  have hnm := (name_of_methodNamed Bd.named Bd.method).1
  have X0 : Stand p l e ({ frames := 0, cells := 0, slots := 0, locals := 0 } : Room) s m #[(.ref a1), (.int p2)] below meth c s₁ [] 0 0 := Stand.of_body Bd
  have e0 : s₁.heap = h0 := by rw [← hh, Bd.state]; rfl
  have N0 := Fr.nil n0
  show Run p e below s 0 0 (Q_rm4 Z a1 p2 w3 w5 h0 n0) (s₁.setTop (entryFrame m #[(.ref a1), (.int p2)] 2))
  refine Run.go (fun _ k => castTop (ef_rm4 m a1 p2) k) ?_
  show Run p e below s 0 0 (Q_rm4 Z a1 p2 w3 w5 h0 n0) (s₁.setTop (mkF m 0 #[.val (.ref a1), .val (.int p2)] []))
  refine Run.go (fun _ k => XS.aloadN X0.here hx rfl (hb hby d4_0) rfl rfl k) ?_
  show Run p e below s 0 0 (Q_rm4 Z a1 p2 w3 w5 h0 n0) (s₁.setTop (mkF m 1 #[.val (.ref a1), .val (.int p2)] [(.ref a1)]))
  obtain ⟨T4, X4, e4, st4⟩ := getF X0 hx hZ hown (host := "") (Or.inl (hw _ (List.mem_of_getElem? (i := 14) rfl))) Via.refl e0 F_from_a1 (g := (mkF m 1 #[.val (.ref a1), .val (.int p2)] [(.ref a1)])) rfl rfl (hb hby d4_1)
  refine Run.go st4 ?_
  show Run p e below s 0 0 (Q_rm4 Z a1 p2 w3 w5 h0 n0) (T4.setTop (mkF m 4 #[.val (.ref a1), .val (.int p2)] [(.int w3)]))
  refine Run.go (fun _ k => XS.iloadN X4.here hx rfl (hb hby d4_4) rfl  k) ?_
  show Run p e below s 0 0 (Q_rm4 Z a1 p2 w3 w5 h0 n0) (T4.setTop (mkF m 5 #[.val (.ref a1), .val (.int p2)] [(.int p2), (.int w3)]))
  have J7 : ∀ (w8 : Int32) (hw8 : w8 = (if ((¬ (p2 < w3)) ∧ (¬ (w5 < p2))) then (1 : Int32) else 0)) (T9 : State) (L9 : List Loc) (X9 : Stand p l e ({ frames := 0, cells := 0, slots := 0, locals := 0 } : Room) s m #[(.ref a1), (.int p2)] below meth c T9 L9 0 0) (e9 : T9.heap = h0) (N9 : Fr n0 L9), Run p e below s 0 0 (Q_rm4 Z a1 p2 w3 w5 h0 n0) (T9.setTop (mkF m 21 #[.val (.ref a1), .val (.int p2)] [(.int w8)])) := by
    intro w8 hw8 T9 L9 X9 e9 N9
    show Run p e below s 0 0 (Q_rm4 Z a1 p2 w3 w5 h0 n0) (T9.setTop (mkF m 21 #[.val (.ref a1), .val (.int p2)] [(.int w8)]))
    refine Run.retN (y := w8) X9 hx (t := .boolean) Bd.returns (by simp) (by rw [hw8]; exact nar_ite _) Bd.notSynchronized (hb hby d4_21) (by decide) (by decide) ?_
    show Q_rm4 Z a1 p2 w3 w5 h0 n0 _ T9.heap _
    exact ⟨congrArg some (congrArg Value.int (show w8 = (F_rm4 p2 w3 w5) from (by subst hw8; unfold F_rm4; rfl))), N9, e9⟩
  by_cases hc10 : (p2 < w3)
  · refine Run.go (fun _ k => XS.icmpYes X4.here hx rfl (pc0 := 5) (pc' := 20) rfl (hb hby d4_5) rfl (tlt hc10).2.2.1 (by decide) (by decide) k) ?_
    show Run p e below s 0 0 (Q_rm4 Z a1 p2 w3 w5 h0 n0) (T4.setTop (mkF m 20 #[.val (.ref a1), .val (.int p2)] []))
    refine Run.go (fun _ k => XS.iconst X4.here hx rfl (hb hby d4_20) k) ?_
    show Run p e below s 0 0 (Q_rm4 Z a1 p2 w3 w5 h0 n0) (T4.setTop (mkF m 21 #[.val (.ref a1), .val (.int p2)] [(.int (0 : Int32))]))
    exact J7 _ (if_neg (fun q => (fun q => q hc10) q.1)).symm _ _ X4 e4 N0
  · refine Run.go (fun _ k => XS.icmpNo X4.here hx rfl (hb hby d4_5) rfl (flt hc10).2.2.1 k) ?_
    show Run p e below s 0 0 (Q_rm4 Z a1 p2 w3 w5 h0 n0) (T4.setTop (mkF m 8 #[.val (.ref a1), .val (.int p2)] []))
    refine Run.go (fun _ k => XS.iloadN X4.here hx rfl (hb hby d4_8) rfl  k) ?_
    show Run p e below s 0 0 (Q_rm4 Z a1 p2 w3 w5 h0 n0) (T4.setTop (mkF m 9 #[.val (.ref a1), .val (.int p2)] [(.int p2)]))
    refine Run.go (fun _ k => XS.aloadN X4.here hx rfl (hb hby d4_9) rfl rfl k) ?_
    show Run p e below s 0 0 (Q_rm4 Z a1 p2 w3 w5 h0 n0) (T4.setTop (mkF m 10 #[.val (.ref a1), .val (.int p2)] [(.ref a1), (.int p2)]))
    obtain ⟨T11, X11, e11, st11⟩ := getF X4 hx hZ hown (host := "") (Or.inl (hw _ (List.mem_of_getElem? (i := 16) rfl))) Via.refl e4 F_until_a1 (g := (mkF m 10 #[.val (.ref a1), .val (.int p2)] [(.ref a1), (.int p2)])) rfl rfl (hb hby d4_10)
    refine Run.go st11 ?_
    show Run p e below s 0 0 (Q_rm4 Z a1 p2 w3 w5 h0 n0) (T11.setTop (mkF m 13 #[.val (.ref a1), .val (.int p2)] [(.int w5), (.int p2)]))
    by_cases hc12 : (w5 < p2)
    · refine Run.go (fun _ k => XS.icmpYes X11.here hx rfl (pc0 := 13) (pc' := 20) rfl (hb hby d4_13) rfl (tlt hc12).2.2.1 (by decide) (by decide) k) ?_
      show Run p e below s 0 0 (Q_rm4 Z a1 p2 w3 w5 h0 n0) (T11.setTop (mkF m 20 #[.val (.ref a1), .val (.int p2)] []))
      refine Run.go (fun _ k => XS.iconst X11.here hx rfl (hb hby d4_20) k) ?_
      show Run p e below s 0 0 (Q_rm4 Z a1 p2 w3 w5 h0 n0) (T11.setTop (mkF m 21 #[.val (.ref a1), .val (.int p2)] [(.int (0 : Int32))]))
      exact J7 _ (if_neg (fun q => (fun q => q hc12) q.2)).symm _ _ X11 e11 N0
    · refine Run.go (fun _ k => XS.icmpNo X11.here hx rfl (hb hby d4_13) rfl (flt hc12).2.2.1 k) ?_
      show Run p e below s 0 0 (Q_rm4 Z a1 p2 w3 w5 h0 n0) (T11.setTop (mkF m 16 #[.val (.ref a1), .val (.int p2)] []))
      refine Run.go (fun _ k => XS.iconst X11.here hx rfl (hb hby d4_16) k) ?_
      show Run p e below s 0 0 (Q_rm4 Z a1 p2 w3 w5 h0 n0) (T11.setTop (mkF m 17 #[.val (.ref a1), .val (.int p2)] [(.int (1 : Int32))]))
      refine Run.go (fun _ k => XS.goto X11.here hx rfl (pc0 := 17) (pc' := 21) rfl (hb hby d4_17) (by decide) (by decide) k) ?_
      show Run p e below s 0 0 (Q_rm4 Z a1 p2 w3 w5 h0 n0) (T11.setTop (mkF m 21 #[.val (.ref a1), .val (.int p2)] [(.int (1 : Int32))]))
      exact J7 _ (if_pos ⟨hc10, hc12⟩).symm _ _ X11 e11 N0
theorem own_d (x y : Int32) : ((x.toInt64) - (y.toInt64) < (0 : Int64)) ↔ x < y := by
  rw [Int64.lt_iff_toInt_lt, Int32.lt_iff_toInt_lt]
  have h := c_lsub x.toInt64 y.toInt64
  rw [c_i2l, c_i2l] at h
  have := rng32 x
  have := rng32 y
  have := rng64 (x.toInt64 - y.toInt64)
  have e : (0 : Int64).toInt = 0 := rfl
  omega
theorem own_1 (f u r : Int32) : F_rm4 r f u = (if ((¬ (((r.toInt64) - (f.toInt64)) < (0 : Int64))) ∧ (¬ (((u.toInt64) - (r.toInt64)) < (0 : Int64)))) then (1 : Int32) else 0) := by
  simp only [F_rm4, own_d]
theorem own_2 (f u : Int32) : F_rm4 f f u = (if (¬ (((u.toInt64) - (f.toInt64)) < (0 : Int64))) then (1 : Int32) else 0) := by
  simp only [F_rm4, own_d, Int32.lt_irrefl, not_false_eq_true, true_and]
theorem own_3 (f u : Int32) : F_rm4 u f u = (if (¬ (((u.toInt64) - (f.toInt64)) < (0 : Int64))) then (1 : Int32) else 0) := by
  simp only [F_rm4, own_d, Int32.lt_irrefl, not_false_eq_true, and_true]
theorem own_4 (f u : Int32) (h : ¬ (f = (-2147483648 : Int32))) : F_rm4 (f - (1 : Int32)) f u = 0 := by
  have q : f - (1 : Int32) < f := by
    rw [← Int32.toInt_inj] at h
    rw [Int32.lt_iff_toInt_lt]
    have := c_isub f 1
    have := rng32 f
    have := rng32 (f - 1)
    have e : (1 : Int32).toInt = 1 := rfl
    have e2 : (-2147483648 : Int32).toInt = -2147483648 := rfl
    omega
  simp [F_rm4, q]
theorem own_5 (f u : Int32) (h : ¬ (u = (2147483647 : Int32))) : F_rm4 (u + (1 : Int32)) f u = 0 := by
  have q : u < u + (1 : Int32) := by
    rw [← Int32.toInt_inj] at h
    rw [Int32.lt_iff_toInt_lt]
    have := c_iadd u 1
    have := rng32 u
    have := rng32 (u + 1)
    have e : (1 : Int32).toInt = 1 := rfl
    have e2 : (2147483647 : Int32).toInt = 2147483647 := rfl
    omega
  simp [F_rm4, q]
theorem pd_1 : parseMethodDescriptor "(II)V" = some ⟨[.int, .int], none⟩ := by decide +kernel
theorem pd_2 : parseMethodDescriptor "(I)Z" = some ⟨[.int], some .boolean⟩ := by decide +kernel
def Q_rm0 (Z : State) (p1 : Int32) (p2 : Int32) (p3 : Int32) (h0 : Heap) (n0 : Nat) (v : Option Value) (h : Heap) (L : List Loc) : Prop := v = some (.int 1) ∧ Fr n0 L
theorem ef_rm0 (m : MethodId) (x0 : Int32) (x1 : Int32) (x2 : Int32) : entryFrame m #[(.int x0), (.int x1), (.int x2)] maxLocals = mkF m 0 #[.val (.int x0), .val (.int x1), .val (.int x2), .unset, .unset, .unset, .unset] [] := by first | (simp [entryFrame, mkF, argsToLocals, Value.category, maxLocals]; done) | rfl
theorem pn_2 : plainName "com/example/throngwise/throngwise/rounds/WindowContainsPinLaw" = true := by first | (simp [plainName, overriddenIn]; done) | decide +kernel
set_option maxRecDepth 65536 in
set_option maxHeartbeats 40000000 in
theorem rm0 (l : Launch) (Z : State) (a0 : Array Value) (hw : ∀ d ∈ tables_1, d.before a0 Z = true) (ws : List Jvm.Cond) (p1 : Int32) (p2 : Int32) (p3 : Int32) (h0 : Heap) (n0 : Nat) (Z0 : n0 ≤ h0.size)  :
    MetFree l x (head1 (Jvm.Cond.code x code maxLocals ret :: ws) room_1) (fun a U => a = #[(.int p1), (.int p2), (.int p3)] ∧ Z.Warmed39 U.vm ∧ U.heap = h0) (fun _ _ _ _ _ => True) (fun _ U o U' => ∃ v L, o = .returned v ∧ Q_rm0 Z p1 p2 p3 h0 n0 v U'.heap L ∧ FrameEnd U o U' L 1 2) := by
  refine MetFree.of_bodySF (plainFor_of_name pn_2) hisR ?_
  intro p e s m args below meth c s₁ Bd hml0 hP hK
  obtain ⟨rfl, hZ, hh⟩ := hP
  have hx := Bd.exec
  have hby := Bd.bytes
  have hml : c.maxLocals = 7 := hml0
  have hown : s.vm.findClass "com/example/throngwise/throngwise/rounds/WindowContainsPinLaw" = some m.cls := findClass_of_methodNamed Bd.named
  have hnm := (name_of_methodNamed Bd.named Bd.method).1
  have X0 : Stand p l e room_1 s m #[(.int p1), (.int p2), (.int p3)] below meth c s₁ [] 0 0 := Stand.of_body Bd
  have e0 : s₁.heap = h0 := by rw [← hh, Bd.state]; rfl
  have N0 := Fr.nil n0
  show Run p e below s 1 2 (Q_rm0 Z p1 p2 p3 h0 n0) (s₁.setTop (entryFrame m #[(.int p1), (.int p2), (.int p3)] maxLocals))
  refine Run.go (fun _ k => castTop (ef_rm0 m p1 p2 p3) k) ?_
  show Run p e below s 1 2 (Q_rm0 Z p1 p2 p3 h0 n0) (s₁.setTop (mkF m 0 #[.val (.int p1), .val (.int p2), .val (.int p3), .unset, .unset, .unset, .unset] []))
  obtain ⟨T4, h4, X4, e4, E4, A4, D4, -, st4⟩ := newO X0 hx hZ hown (hw _ (List.mem_of_getElem? (i := 0) rfl)) (hw _ (List.mem_of_getElem? (i := 1) rfl)) (hw _ (List.mem_of_getElem? (i := 2) rfl)) e0 (g := (mkF m 0 #[.val (.int p1), .val (.int p2), .val (.int p3), .unset, .unset, .unset, .unset] [])) rfl (hb hby at_0) (by decide) (by decide)
  obtain ⟨b4, g4⟩ : ∃ z, z = h0.size := ⟨_, rfl⟩
  rw [← g4] at A4 D4 st4
  have g_b4 : n0 ≤ b4 := Nat.le_trans Z0 (Nat.le_of_eq g4.symm)
  have Z4 : n0 ≤ h4.size := Nat.le_trans Z0 E4.1
  have fx5 : Fld Z h4 b4 "com/example/throngwise/throngwise/rounds/Window" "from" "I" (.int (0 : Int32)) := D4 (Or.inr (hw _ (List.mem_of_getElem? (i := 15) rfl))) (ty := .int) (by decide)
  have fx6 : Fld Z h4 b4 "com/example/throngwise/throngwise/rounds/Window" "until" "I" (.int (0 : Int32)) := D4 (Or.inr (hw _ (List.mem_of_getElem? (i := 17) rfl))) (ty := .int) (by decide)
  refine Run.go st4 ?_
  show Run p e below s 1 2 (Q_rm0 Z p1 p2 p3 h0 n0) (T4.setTop (mkF m 3 #[.val (.int p1), .val (.int p2), .val (.int p3), .unset, .unset, .unset, .unset] [(.ref b4)]))
  refine Run.go (fun _ k => XS.dup X4.here hx rfl (hb hby at_3) rfl rfl k) ?_
  show Run p e below s 1 2 (Q_rm0 Z p1 p2 p3 h0 n0) (T4.setTop (mkF m 4 #[.val (.int p1), .val (.int p2), .val (.int p3), .unset, .unset, .unset, .unset] [(.ref b4), (.ref b4)]))
  refine Run.go (fun _ k => XS.iloadN X4.here hx rfl (hb hby at_4) rfl  k) ?_
  show Run p e below s 1 2 (Q_rm0 Z p1 p2 p3 h0 n0) (T4.setTop (mkF m 5 #[.val (.int p1), .val (.int p2), .val (.int p3), .unset, .unset, .unset, .unset] [(.int p1), (.ref b4), (.ref b4)]))
  refine Run.go (fun _ k => XS.iloadN X4.here hx rfl (hb hby at_5) rfl  k) ?_
  show Run p e below s 1 2 (Q_rm0 Z p1 p2 p3 h0 n0) (T4.setTop (mkF m 6 #[.val (.int p1), .val (.int p2), .val (.int p3), .unset, .unset, .unset, .unset] [(.int p2), (.int p1), (.ref b4), (.ref b4)]))
  obtain ⟨_, _, ⟨T7, L7, k7, n7⟩, -, X7, ⟨Lc7, hQ7, l7, y7, z7⟩, st7⟩ := X4.specialBack hx (y := (⟨"com/example/throngwise/throngwise/rounds/Window", "<init>", "(II)V"⟩ : MethodName)) rfl hown (mvT hZ (hw _ (List.mem_of_getElem? (i := 3) rfl))) (mvT hZ (hw _ (List.mem_of_getElem? (i := 4) rfl))) (mvT hZ (hw _ (List.mem_of_getElem? (i := 5) rfl))) (by decide) (backOf (W := 1) (rm1 l Z a0 hw [] b4 p1 p2 (.int (0 : Int32)) (.int (0 : Int32)) h4 n0 Z4 A4 fx5 g_b4 fx6) hZ (hw _ (List.mem_of_getElem? (i := 5) rfl)) (hw _ (List.mem_of_getElem? (i := 2) rfl)) (by decide) (by decide)) (g := (mkF m 6 #[.val (.int p1), .val (.int p2), .val (.int p3), .unset, .unset, .unset, .unset] [(.int p2), (.int p1), (.ref b4), (.ref b4)])) rfl (by rw [hml]; rfl) (Steps.refl _) (a := b4) (argsL := [(.int p1), (.int p2)]) (rest := [(.ref b4)]) (lenOf pd_1 rfl) rfl (by show 2 * 0 + _ ≤ _; exact Nat.le_of_eq rfl) (hb hby at_6) (fun _ _ => ⟨rfl, e4, (by decide : 1 + 0 ≤ _), (by decide : 2 + 0 ≤ _)⟩)
  dsimp only [Pt.U, Pt.locs, Pt.cells, Pt.slots] at X7 l7 y7 z7 st7 hQ7
  subst l7 y7 z7
  obtain ⟨rfl, N7q, K7q, fq7_0, fq7_1, fq7_2⟩ := hQ7
  have N7 := Fr.app N0 N7q
  have Z7 : n0 ≤ T7.heap.size := Nat.le_trans Z4 K7q.1
  refine Run.tr st7 ?_
  show Run p e below s 1 2 (Q_rm0 Z p1 p2 p3 h0 n0) (T7.setTop (mkF m 9 #[.val (.int p1), .val (.int p2), .val (.int p3), .unset, .unset, .unset, .unset] [(.ref b4)]))
  refine Run.go (fun _ k => XS.astoreN X7.here hx rfl (hb hby at_9) rfl rfl (l' := #[.val (.int p1), .val (.int p2), .val (.int p3), .val (.ref b4), .unset, .unset, .unset]) rfl k) ?_
  show Run p e below s 1 2 (Q_rm0 Z p1 p2 p3 h0 n0) (T7.setTop (mkF m 10 #[.val (.int p1), .val (.int p2), .val (.int p3), .val (.ref b4), .unset, .unset, .unset] []))
  refine Run.go (fun _ k => XS.iloadN X7.here hx rfl (hb hby at_10) rfl  k) ?_
  show Run p e below s 1 2 (Q_rm0 Z p1 p2 p3 h0 n0) (T7.setTop (mkF m 11 #[.val (.int p1), .val (.int p2), .val (.int p3), .val (.ref b4), .unset, .unset, .unset] [(.int p3)]))
  refine Run.go (fun _ k => XS.i2l X7.here hx rfl (hb hby at_11) rfl k) ?_
  show Run p e below s 1 2 (Q_rm0 Z p1 p2 p3 h0 n0) (T7.setTop (mkF m 12 #[.val (.int p1), .val (.int p2), .val (.int p3), .val (.ref b4), .unset, .unset, .unset] [(.long (p3.toInt64))]))
  refine Run.go (fun _ k => XS.iloadN X7.here hx rfl (hb hby at_12) rfl  k) ?_
  show Run p e below s 1 2 (Q_rm0 Z p1 p2 p3 h0 n0) (T7.setTop (mkF m 13 #[.val (.int p1), .val (.int p2), .val (.int p3), .val (.ref b4), .unset, .unset, .unset] [(.int p1), (.long (p3.toInt64))]))
  refine Run.go (fun _ k => XS.i2l X7.here hx rfl (hb hby at_13) rfl k) ?_
  show Run p e below s 1 2 (Q_rm0 Z p1 p2 p3 h0 n0) (T7.setTop (mkF m 14 #[.val (.int p1), .val (.int p2), .val (.int p3), .val (.ref b4), .unset, .unset, .unset] [(.long (p1.toInt64)), (.long (p3.toInt64))]))
  refine Run.go (fun _ k => XS.lsub X7.here hx rfl (hb hby at_14) rfl k) ?_
  show Run p e below s 1 2 (Q_rm0 Z p1 p2 p3 h0 n0) (T7.setTop (mkF m 15 #[.val (.int p1), .val (.int p2), .val (.int p3), .val (.ref b4), .unset, .unset, .unset] [(.long ((p3.toInt64) - (p1.toInt64)))]))
  refine Run.go (fun _ k => XS.lconst X7.here hx rfl (hb hby at_15) k) ?_
  show Run p e below s 1 2 (Q_rm0 Z p1 p2 p3 h0 n0) (T7.setTop (mkF m 16 #[.val (.int p1), .val (.int p2), .val (.int p3), .val (.ref b4), .unset, .unset, .unset] [(.long (0 : Int64)), (.long ((p3.toInt64) - (p1.toInt64)))]))
  refine Run.go (fun _ k => XS.lcmp X7.here hx rfl (hb hby at_16) rfl k) ?_
  show Run p e below s 1 2 (Q_rm0 Z p1 p2 p3 h0 n0) (T7.setTop (mkF m 17 #[.val (.int p1), .val (.int p2), .val (.int p3), .val (.ref b4), .unset, .unset, .unset] [(.int (lcmpW ((p3.toInt64) - (p1.toInt64)) (0 : Int64)))]))
  have J8 : ∀ (w9 : Int32) (hw9 : w9 = (if ((¬ (((p3.toInt64) - (p1.toInt64)) < (0 : Int64))) ∧ (¬ (((p2.toInt64) - (p3.toInt64)) < (0 : Int64)))) then (1 : Int32) else 0)) (T10 : State) (L10 : List Loc) (X10 : Stand p l e room_1 s m #[(.int p1), (.int p2), (.int p3)] below meth c T10 L10 1 2) (e10 : T10.heap = T7.heap) (N10 : Fr n0 L10), Run p e below s 1 2 (Q_rm0 Z p1 p2 p3 h0 n0) (T10.setTop (mkF m 35 #[.val (.int p1), .val (.int p2), .val (.int p3), .val (.ref b4), .unset, .unset, .unset] [(.int w9)])) := by
    intro w9 hw9 T10 L10 X10 e10 N10
    show Run p e below s 1 2 (Q_rm0 Z p1 p2 p3 h0 n0) (T10.setTop (mkF m 35 #[.val (.int p1), .val (.int p2), .val (.int p3), .val (.ref b4), .unset, .unset, .unset] [(.int w9)]))
    refine Run.go (fun _ k => XS.istore X10.here hx rfl (hb hby at_35) rfl (l' := #[.val (.int p1), .val (.int p2), .val (.int p3), .val (.ref b4), .val (.int w9), .unset, .unset]) rfl k) ?_
    show Run p e below s 1 2 (Q_rm0 Z p1 p2 p3 h0 n0) (T10.setTop (mkF m 37 #[.val (.int p1), .val (.int p2), .val (.int p3), .val (.ref b4), .val (.int w9), .unset, .unset] []))
    refine Run.go (fun _ k => XS.aloadN X10.here hx rfl (hb hby at_37) rfl rfl k) ?_
    show Run p e below s 1 2 (Q_rm0 Z p1 p2 p3 h0 n0) (T10.setTop (mkF m 38 #[.val (.int p1), .val (.int p2), .val (.int p3), .val (.ref b4), .val (.int w9), .unset, .unset] [(.ref b4)]))
    refine Run.go (fun _ k => XS.iloadN X10.here hx rfl (hb hby at_38) rfl  k) ?_
    show Run p e below s 1 2 (Q_rm0 Z p1 p2 p3 h0 n0) (T10.setTop (mkF m 39 #[.val (.int p1), .val (.int p2), .val (.int p3), .val (.ref b4), .val (.int w9), .unset, .unset] [(.int p3), (.ref b4)]))
    obtain ⟨cq11, kq11, q11a, q11b, q11c⟩ := isOf hZ e10 fq7_0
    obtain ⟨_, _, ⟨T11, L11, k11, n11⟩, -, X11, ⟨Lc11, hQ11, l11, y11, z11⟩, st11⟩ := X10.virtualBack hx (y := (⟨"com/example/throngwise/throngwise/rounds/Window", "contains", "(I)Z"⟩ : MethodName)) (z := (⟨"com/example/throngwise/throngwise/rounds/Window", "contains", "(I)Z"⟩ : MethodName)) hown (mvT hZ (hw _ (List.mem_of_getElem? (i := 18) rfl))) (mvT hZ (hw _ (List.mem_of_getElem? (i := 19) rfl))) (notFace_of_selects (args := #[]) (mvT hZ (hw _ (List.mem_of_getElem? (i := 21) rfl)))) (mvT hZ (hw _ (List.mem_of_getElem? (i := 21) rfl))) (mvT hZ (hw _ (List.mem_of_getElem? (i := 20) rfl))) (by decide) (backOf (W := 0) (rm4 l Z a0 hw [] b4 p3 p1 p2 T7.heap n0 Z7 fq7_1 fq7_2) hZ (hw _ (List.mem_of_getElem? (i := 22) rfl)) (hw _ (List.mem_of_getElem? (i := 2) rfl)) (by decide) (by decide)) q11a q11c (g := (mkF m 39 #[.val (.int p1), .val (.int p2), .val (.int p3), .val (.ref b4), .val (.int w9), .unset, .unset] [(.int p3), (.ref b4)])) rfl (by rw [hml]; rfl) (Steps.refl _) (argsL := [(.int p3)]) (rest := []) (lenOf pd_2 rfl) rfl (by show 2 * 0 + _ ≤ _; exact Nat.le_of_eq rfl) (hb hby at_39) (fun _ _ => ⟨rfl, e10, (by decide : 1 + 0 ≤ _), (by decide : 2 + 0 ≤ _)⟩)
    dsimp only [Pt.U, Pt.locs, Pt.cells, Pt.slots] at X11 l11 y11 z11 st11 hQ11
    subst l11 y11 z11
    obtain ⟨rfl, N11q, e11q⟩ := hQ11
    have N11 := Fr.app N10 N11q
    refine Run.tr st11 ?_
    show Run p e below s 1 2 (Q_rm0 Z p1 p2 p3 h0 n0) (T11.setTop (mkF m 42 #[.val (.int p1), .val (.int p2), .val (.int p3), .val (.ref b4), .val (.int w9), .unset, .unset] [(.int (F_rm4 p3 p1 p2))]))
    refine Run.go (fun _ k => XS.iload X11.here hx rfl (hb hby at_42) rfl  k) ?_
    show Run p e below s 1 2 (Q_rm0 Z p1 p2 p3 h0 n0) (T11.setTop (mkF m 44 #[.val (.int p1), .val (.int p2), .val (.int p3), .val (.ref b4), .val (.int w9), .unset, .unset] [(.int w9), (.int (F_rm4 p3 p1 p2))]))
    refine Run.go (fun _ k => XS.icmpNo X11.here hx rfl (hb hby at_44) rfl (teq ((own_1 _ _ _).trans hw9.symm)).2 k) ?_
    show Run p e below s 1 2 (Q_rm0 Z p1 p2 p3 h0 n0) (T11.setTop (mkF m 47 #[.val (.int p1), .val (.int p2), .val (.int p3), .val (.ref b4), .val (.int w9), .unset, .unset] []))
    refine Run.go (fun _ k => XS.iconst X11.here hx rfl (hb hby at_47) k) ?_
    show Run p e below s 1 2 (Q_rm0 Z p1 p2 p3 h0 n0) (T11.setTop (mkF m 48 #[.val (.int p1), .val (.int p2), .val (.int p3), .val (.ref b4), .val (.int w9), .unset, .unset] [(.int (1 : Int32))]))
    refine Run.go (fun _ k => XS.goto X11.here hx rfl (pc0 := 48) (pc' := 52) rfl (hb hby at_48) (by decide) (by decide) k) ?_
    show Run p e below s 1 2 (Q_rm0 Z p1 p2 p3 h0 n0) (T11.setTop (mkF m 52 #[.val (.int p1), .val (.int p2), .val (.int p3), .val (.ref b4), .val (.int w9), .unset, .unset] [(.int (1 : Int32))]))
    refine Run.go (fun _ k => XS.istore X11.here hx rfl (hb hby at_52) rfl (l' := #[.val (.int p1), .val (.int p2), .val (.int p3), .val (.ref b4), .val (.int w9), .val (.int (1 : Int32)), .unset]) rfl k) ?_
    show Run p e below s 1 2 (Q_rm0 Z p1 p2 p3 h0 n0) (T11.setTop (mkF m 54 #[.val (.int p1), .val (.int p2), .val (.int p3), .val (.ref b4), .val (.int w9), .val (.int (1 : Int32)), .unset] []))
    refine Run.go (fun _ k => XS.iloadN X11.here hx rfl (hb hby at_54) rfl  k) ?_
    show Run p e below s 1 2 (Q_rm0 Z p1 p2 p3 h0 n0) (T11.setTop (mkF m 55 #[.val (.int p1), .val (.int p2), .val (.int p3), .val (.ref b4), .val (.int w9), .val (.int (1 : Int32)), .unset] [(.int p2)]))
    refine Run.go (fun _ k => XS.i2l X11.here hx rfl (hb hby at_55) rfl k) ?_
    show Run p e below s 1 2 (Q_rm0 Z p1 p2 p3 h0 n0) (T11.setTop (mkF m 56 #[.val (.int p1), .val (.int p2), .val (.int p3), .val (.ref b4), .val (.int w9), .val (.int (1 : Int32)), .unset] [(.long (p2.toInt64))]))
    refine Run.go (fun _ k => XS.iloadN X11.here hx rfl (hb hby at_56) rfl  k) ?_
    show Run p e below s 1 2 (Q_rm0 Z p1 p2 p3 h0 n0) (T11.setTop (mkF m 57 #[.val (.int p1), .val (.int p2), .val (.int p3), .val (.ref b4), .val (.int w9), .val (.int (1 : Int32)), .unset] [(.int p1), (.long (p2.toInt64))]))
    refine Run.go (fun _ k => XS.i2l X11.here hx rfl (hb hby at_57) rfl k) ?_
    show Run p e below s 1 2 (Q_rm0 Z p1 p2 p3 h0 n0) (T11.setTop (mkF m 58 #[.val (.int p1), .val (.int p2), .val (.int p3), .val (.ref b4), .val (.int w9), .val (.int (1 : Int32)), .unset] [(.long (p1.toInt64)), (.long (p2.toInt64))]))
    refine Run.go (fun _ k => XS.lsub X11.here hx rfl (hb hby at_58) rfl k) ?_
    show Run p e below s 1 2 (Q_rm0 Z p1 p2 p3 h0 n0) (T11.setTop (mkF m 59 #[.val (.int p1), .val (.int p2), .val (.int p3), .val (.ref b4), .val (.int w9), .val (.int (1 : Int32)), .unset] [(.long ((p2.toInt64) - (p1.toInt64)))]))
    refine Run.go (fun _ k => XS.lconst X11.here hx rfl (hb hby at_59) k) ?_
    show Run p e below s 1 2 (Q_rm0 Z p1 p2 p3 h0 n0) (T11.setTop (mkF m 60 #[.val (.int p1), .val (.int p2), .val (.int p3), .val (.ref b4), .val (.int w9), .val (.int (1 : Int32)), .unset] [(.long (0 : Int64)), (.long ((p2.toInt64) - (p1.toInt64)))]))
    refine Run.go (fun _ k => XS.lcmp X11.here hx rfl (hb hby at_60) rfl k) ?_
    show Run p e below s 1 2 (Q_rm0 Z p1 p2 p3 h0 n0) (T11.setTop (mkF m 61 #[.val (.int p1), .val (.int p2), .val (.int p3), .val (.ref b4), .val (.int w9), .val (.int (1 : Int32)), .unset] [(.int (lcmpW ((p2.toInt64) - (p1.toInt64)) (0 : Int64)))]))
    have J12 : ∀ (w13 : Int32) (hw13 : w13 = (if (¬ (((p2.toInt64) - (p1.toInt64)) < (0 : Int64))) then (1 : Int32) else 0)) (T14 : State) (L14 : List Loc) (X14 : Stand p l e room_1 s m #[(.int p1), (.int p2), (.int p3)] below meth c T14 L14 1 2) (e14 : T14.heap = T7.heap) (N14 : Fr n0 L14), Run p e below s 1 2 (Q_rm0 Z p1 p2 p3 h0 n0) (T14.setTop (mkF m 69 #[.val (.int p1), .val (.int p2), .val (.int p3), .val (.ref b4), .val (.int w9), .val (.int (1 : Int32)), .unset] [(.int w13)])) := by
      intro w13 hw13 T14 L14 X14 e14 N14
      show Run p e below s 1 2 (Q_rm0 Z p1 p2 p3 h0 n0) (T14.setTop (mkF m 69 #[.val (.int p1), .val (.int p2), .val (.int p3), .val (.ref b4), .val (.int w9), .val (.int (1 : Int32)), .unset] [(.int w13)]))
      refine Run.go (fun _ k => XS.istore X14.here hx rfl (hb hby at_69) rfl (l' := #[.val (.int p1), .val (.int p2), .val (.int p3), .val (.ref b4), .val (.int w9), .val (.int (1 : Int32)), .val (.int w13)]) rfl k) ?_
      show Run p e below s 1 2 (Q_rm0 Z p1 p2 p3 h0 n0) (T14.setTop (mkF m 71 #[.val (.int p1), .val (.int p2), .val (.int p3), .val (.ref b4), .val (.int w9), .val (.int (1 : Int32)), .val (.int w13)] []))
      refine Run.go (fun _ k => XS.iload X14.here hx rfl (hb hby at_71) rfl  k) ?_
      show Run p e below s 1 2 (Q_rm0 Z p1 p2 p3 h0 n0) (T14.setTop (mkF m 73 #[.val (.int p1), .val (.int p2), .val (.int p3), .val (.ref b4), .val (.int w9), .val (.int (1 : Int32)), .val (.int w13)] [(.int (1 : Int32))]))
      refine Run.go (fun _ k => XS.ifNo X14.here hx rfl (hb hby at_73) rfl ((if0 _ _).trans (feq (by decide)).1) k) ?_
      show Run p e below s 1 2 (Q_rm0 Z p1 p2 p3 h0 n0) (T14.setTop (mkF m 76 #[.val (.int p1), .val (.int p2), .val (.int p3), .val (.ref b4), .val (.int w9), .val (.int (1 : Int32)), .val (.int w13)] []))
      refine Run.go (fun _ k => XS.aloadN X14.here hx rfl (hb hby at_76) rfl rfl k) ?_
      show Run p e below s 1 2 (Q_rm0 Z p1 p2 p3 h0 n0) (T14.setTop (mkF m 77 #[.val (.int p1), .val (.int p2), .val (.int p3), .val (.ref b4), .val (.int w9), .val (.int (1 : Int32)), .val (.int w13)] [(.ref b4)]))
      refine Run.go (fun _ k => XS.iloadN X14.here hx rfl (hb hby at_77) rfl  k) ?_
      show Run p e below s 1 2 (Q_rm0 Z p1 p2 p3 h0 n0) (T14.setTop (mkF m 78 #[.val (.int p1), .val (.int p2), .val (.int p3), .val (.ref b4), .val (.int w9), .val (.int (1 : Int32)), .val (.int w13)] [(.int p1), (.ref b4)]))
      obtain ⟨cq15, kq15, q15a, q15b, q15c⟩ := isOf hZ e14 fq7_0
      obtain ⟨_, _, ⟨T15, L15, k15, n15⟩, -, X15, ⟨Lc15, hQ15, l15, y15, z15⟩, st15⟩ := X14.virtualBack hx (y := (⟨"com/example/throngwise/throngwise/rounds/Window", "contains", "(I)Z"⟩ : MethodName)) (z := (⟨"com/example/throngwise/throngwise/rounds/Window", "contains", "(I)Z"⟩ : MethodName)) hown (mvT hZ (hw _ (List.mem_of_getElem? (i := 18) rfl))) (mvT hZ (hw _ (List.mem_of_getElem? (i := 19) rfl))) (notFace_of_selects (args := #[]) (mvT hZ (hw _ (List.mem_of_getElem? (i := 21) rfl)))) (mvT hZ (hw _ (List.mem_of_getElem? (i := 21) rfl))) (mvT hZ (hw _ (List.mem_of_getElem? (i := 20) rfl))) (by decide) (backOf (W := 0) (rm4 l Z a0 hw [] b4 p1 p1 p2 T7.heap n0 Z7 fq7_1 fq7_2) hZ (hw _ (List.mem_of_getElem? (i := 22) rfl)) (hw _ (List.mem_of_getElem? (i := 2) rfl)) (by decide) (by decide)) q15a q15c (g := (mkF m 78 #[.val (.int p1), .val (.int p2), .val (.int p3), .val (.ref b4), .val (.int w9), .val (.int (1 : Int32)), .val (.int w13)] [(.int p1), (.ref b4)])) rfl (by rw [hml]; rfl) (Steps.refl _) (argsL := [(.int p1)]) (rest := []) (lenOf pd_2 rfl) rfl (by show 2 * 0 + _ ≤ _; exact Nat.le_of_eq rfl) (hb hby at_78) (fun _ _ => ⟨rfl, e14, (by decide : 1 + 0 ≤ _), (by decide : 2 + 0 ≤ _)⟩)
      dsimp only [Pt.U, Pt.locs, Pt.cells, Pt.slots] at X15 l15 y15 z15 st15 hQ15
      subst l15 y15 z15
      obtain ⟨rfl, N15q, e15q⟩ := hQ15
      have N15 := Fr.app N14 N15q
      refine Run.tr st15 ?_
      show Run p e below s 1 2 (Q_rm0 Z p1 p2 p3 h0 n0) (T15.setTop (mkF m 81 #[.val (.int p1), .val (.int p2), .val (.int p3), .val (.ref b4), .val (.int w9), .val (.int (1 : Int32)), .val (.int w13)] [(.int (F_rm4 p1 p1 p2))]))
      refine Run.go (fun _ k => XS.iload X15.here hx rfl (hb hby at_81) rfl  k) ?_
      show Run p e below s 1 2 (Q_rm0 Z p1 p2 p3 h0 n0) (T15.setTop (mkF m 83 #[.val (.int p1), .val (.int p2), .val (.int p3), .val (.ref b4), .val (.int w9), .val (.int (1 : Int32)), .val (.int w13)] [(.int w13), (.int (F_rm4 p1 p1 p2))]))
      refine Run.go (fun _ k => XS.icmpNo X15.here hx rfl (hb hby at_83) rfl (teq ((own_2 _ _).trans hw13.symm)).2 k) ?_
      show Run p e below s 1 2 (Q_rm0 Z p1 p2 p3 h0 n0) (T15.setTop (mkF m 86 #[.val (.int p1), .val (.int p2), .val (.int p3), .val (.ref b4), .val (.int w9), .val (.int (1 : Int32)), .val (.int w13)] []))
      refine Run.go (fun _ k => XS.iconst X15.here hx rfl (hb hby at_86) k) ?_
      show Run p e below s 1 2 (Q_rm0 Z p1 p2 p3 h0 n0) (T15.setTop (mkF m 87 #[.val (.int p1), .val (.int p2), .val (.int p3), .val (.ref b4), .val (.int w9), .val (.int (1 : Int32)), .val (.int w13)] [(.int (1 : Int32))]))
      refine Run.go (fun _ k => XS.goto X15.here hx rfl (pc0 := 87) (pc' := 91) rfl (hb hby at_87) (by decide) (by decide) k) ?_
      show Run p e below s 1 2 (Q_rm0 Z p1 p2 p3 h0 n0) (T15.setTop (mkF m 91 #[.val (.int p1), .val (.int p2), .val (.int p3), .val (.ref b4), .val (.int w9), .val (.int (1 : Int32)), .val (.int w13)] [(.int (1 : Int32))]))
      refine Run.go (fun _ k => XS.istore X15.here hx rfl (hb hby at_91) rfl (l' := #[.val (.int p1), .val (.int p2), .val (.int p3), .val (.ref b4), .val (.int w9), .val (.int (1 : Int32)), .val (.int w13)]) rfl k) ?_
      show Run p e below s 1 2 (Q_rm0 Z p1 p2 p3 h0 n0) (T15.setTop (mkF m 93 #[.val (.int p1), .val (.int p2), .val (.int p3), .val (.ref b4), .val (.int w9), .val (.int (1 : Int32)), .val (.int w13)] []))
      refine Run.go (fun _ k => XS.iload X15.here hx rfl (hb hby at_93) rfl  k) ?_
      show Run p e below s 1 2 (Q_rm0 Z p1 p2 p3 h0 n0) (T15.setTop (mkF m 95 #[.val (.int p1), .val (.int p2), .val (.int p3), .val (.ref b4), .val (.int w9), .val (.int (1 : Int32)), .val (.int w13)] [(.int (1 : Int32))]))
      refine Run.go (fun _ k => XS.ifNo X15.here hx rfl (hb hby at_95) rfl ((if0 _ _).trans (feq (by decide)).1) k) ?_
      show Run p e below s 1 2 (Q_rm0 Z p1 p2 p3 h0 n0) (T15.setTop (mkF m 98 #[.val (.int p1), .val (.int p2), .val (.int p3), .val (.ref b4), .val (.int w9), .val (.int (1 : Int32)), .val (.int w13)] []))
      refine Run.go (fun _ k => XS.aloadN X15.here hx rfl (hb hby at_98) rfl rfl k) ?_
      show Run p e below s 1 2 (Q_rm0 Z p1 p2 p3 h0 n0) (T15.setTop (mkF m 99 #[.val (.int p1), .val (.int p2), .val (.int p3), .val (.ref b4), .val (.int w9), .val (.int (1 : Int32)), .val (.int w13)] [(.ref b4)]))
      refine Run.go (fun _ k => XS.iloadN X15.here hx rfl (hb hby at_99) rfl  k) ?_
      show Run p e below s 1 2 (Q_rm0 Z p1 p2 p3 h0 n0) (T15.setTop (mkF m 100 #[.val (.int p1), .val (.int p2), .val (.int p3), .val (.ref b4), .val (.int w9), .val (.int (1 : Int32)), .val (.int w13)] [(.int p2), (.ref b4)]))
      obtain ⟨cq16, kq16, q16a, q16b, q16c⟩ := isOf hZ e15q fq7_0
      obtain ⟨_, _, ⟨T16, L16, k16, n16⟩, -, X16, ⟨Lc16, hQ16, l16, y16, z16⟩, st16⟩ := X15.virtualBack hx (y := (⟨"com/example/throngwise/throngwise/rounds/Window", "contains", "(I)Z"⟩ : MethodName)) (z := (⟨"com/example/throngwise/throngwise/rounds/Window", "contains", "(I)Z"⟩ : MethodName)) hown (mvT hZ (hw _ (List.mem_of_getElem? (i := 18) rfl))) (mvT hZ (hw _ (List.mem_of_getElem? (i := 19) rfl))) (notFace_of_selects (args := #[]) (mvT hZ (hw _ (List.mem_of_getElem? (i := 21) rfl)))) (mvT hZ (hw _ (List.mem_of_getElem? (i := 21) rfl))) (mvT hZ (hw _ (List.mem_of_getElem? (i := 20) rfl))) (by decide) (backOf (W := 0) (rm4 l Z a0 hw [] b4 p2 p1 p2 T7.heap n0 Z7 fq7_1 fq7_2) hZ (hw _ (List.mem_of_getElem? (i := 22) rfl)) (hw _ (List.mem_of_getElem? (i := 2) rfl)) (by decide) (by decide)) q16a q16c (g := (mkF m 100 #[.val (.int p1), .val (.int p2), .val (.int p3), .val (.ref b4), .val (.int w9), .val (.int (1 : Int32)), .val (.int w13)] [(.int p2), (.ref b4)])) rfl (by rw [hml]; rfl) (Steps.refl _) (argsL := [(.int p2)]) (rest := []) (lenOf pd_2 rfl) rfl (by show 2 * 0 + _ ≤ _; exact Nat.le_of_eq rfl) (hb hby at_100) (fun _ _ => ⟨rfl, e15q, (by decide : 1 + 0 ≤ _), (by decide : 2 + 0 ≤ _)⟩)
      dsimp only [Pt.U, Pt.locs, Pt.cells, Pt.slots] at X16 l16 y16 z16 st16 hQ16
      subst l16 y16 z16
      obtain ⟨rfl, N16q, e16q⟩ := hQ16
      have N16 := Fr.app N15 N16q
      refine Run.tr st16 ?_
      show Run p e below s 1 2 (Q_rm0 Z p1 p2 p3 h0 n0) (T16.setTop (mkF m 103 #[.val (.int p1), .val (.int p2), .val (.int p3), .val (.ref b4), .val (.int w9), .val (.int (1 : Int32)), .val (.int w13)] [(.int (F_rm4 p2 p1 p2))]))
      refine Run.go (fun _ k => XS.iload X16.here hx rfl (hb hby at_103) rfl  k) ?_
      show Run p e below s 1 2 (Q_rm0 Z p1 p2 p3 h0 n0) (T16.setTop (mkF m 105 #[.val (.int p1), .val (.int p2), .val (.int p3), .val (.ref b4), .val (.int w9), .val (.int (1 : Int32)), .val (.int w13)] [(.int w13), (.int (F_rm4 p2 p1 p2))]))
      refine Run.go (fun _ k => XS.icmpNo X16.here hx rfl (hb hby at_105) rfl (teq ((own_3 _ _).trans hw13.symm)).2 k) ?_
      show Run p e below s 1 2 (Q_rm0 Z p1 p2 p3 h0 n0) (T16.setTop (mkF m 108 #[.val (.int p1), .val (.int p2), .val (.int p3), .val (.ref b4), .val (.int w9), .val (.int (1 : Int32)), .val (.int w13)] []))
      refine Run.go (fun _ k => XS.iconst X16.here hx rfl (hb hby at_108) k) ?_
      show Run p e below s 1 2 (Q_rm0 Z p1 p2 p3 h0 n0) (T16.setTop (mkF m 109 #[.val (.int p1), .val (.int p2), .val (.int p3), .val (.ref b4), .val (.int w9), .val (.int (1 : Int32)), .val (.int w13)] [(.int (1 : Int32))]))
      refine Run.go (fun _ k => XS.goto X16.here hx rfl (pc0 := 109) (pc' := 113) rfl (hb hby at_109) (by decide) (by decide) k) ?_
      show Run p e below s 1 2 (Q_rm0 Z p1 p2 p3 h0 n0) (T16.setTop (mkF m 113 #[.val (.int p1), .val (.int p2), .val (.int p3), .val (.ref b4), .val (.int w9), .val (.int (1 : Int32)), .val (.int w13)] [(.int (1 : Int32))]))
      refine Run.go (fun _ k => XS.istore X16.here hx rfl (hb hby at_113) rfl (l' := #[.val (.int p1), .val (.int p2), .val (.int p3), .val (.ref b4), .val (.int w9), .val (.int (1 : Int32)), .val (.int w13)]) rfl k) ?_
      show Run p e below s 1 2 (Q_rm0 Z p1 p2 p3 h0 n0) (T16.setTop (mkF m 115 #[.val (.int p1), .val (.int p2), .val (.int p3), .val (.ref b4), .val (.int w9), .val (.int (1 : Int32)), .val (.int w13)] []))
      refine Run.go (fun _ k => XS.iloadN X16.here hx rfl (hb hby at_115) rfl  k) ?_
      show Run p e below s 1 2 (Q_rm0 Z p1 p2 p3 h0 n0) (T16.setTop (mkF m 116 #[.val (.int p1), .val (.int p2), .val (.int p3), .val (.ref b4), .val (.int w9), .val (.int (1 : Int32)), .val (.int w13)] [(.int p1)]))
      refine Run.go (fun _ k => X16.ldcInt hx hown (mvT hZ (hw _ (List.mem_of_getElem? (i := 23) rfl))) (g := (mkF m 116 #[.val (.int p1), .val (.int p2), .val (.int p3), .val (.ref b4), .val (.int w9), .val (.int (1 : Int32)), .val (.int w13)] [(.int p1)])) rfl (hb hby at_116) _ k) ?_
      show Run p e below s 1 2 (Q_rm0 Z p1 p2 p3 h0 n0) (T16.setTop (mkF m 118 #[.val (.int p1), .val (.int p2), .val (.int p3), .val (.ref b4), .val (.int w9), .val (.int (1 : Int32)), .val (.int w13)] [(.int (-2147483648 : Int32)), (.int p1)]))
      have J18 : ∀  (T19 : State) (L19 : List Loc) (X19 : Stand p l e room_1 s m #[(.int p1), (.int p2), (.int p3)] below meth c T19 L19 1 2) (e19 : T19.heap = T7.heap) (N19 : Fr n0 L19), Run p e below s 1 2 (Q_rm0 Z p1 p2 p3 h0 n0) (T19.setTop (mkF m 143 #[.val (.int p1), .val (.int p2), .val (.int p3), .val (.ref b4), .val (.int w9), .val (.int (1 : Int32)), .val (.int w13)] [])) := by
        intro  T19 L19 X19 e19 N19
        show Run p e below s 1 2 (Q_rm0 Z p1 p2 p3 h0 n0) (T19.setTop (mkF m 143 #[.val (.int p1), .val (.int p2), .val (.int p3), .val (.ref b4), .val (.int w9), .val (.int (1 : Int32)), .val (.int w13)] []))
        refine Run.go (fun _ k => XS.iloadN X19.here hx rfl (hb hby at_143) rfl  k) ?_
        show Run p e below s 1 2 (Q_rm0 Z p1 p2 p3 h0 n0) (T19.setTop (mkF m 144 #[.val (.int p1), .val (.int p2), .val (.int p3), .val (.ref b4), .val (.int w9), .val (.int (1 : Int32)), .val (.int w13)] [(.int p2)]))
        refine Run.go (fun _ k => X19.ldcInt hx hown (mvT hZ (hw _ (List.mem_of_getElem? (i := 24) rfl))) (g := (mkF m 144 #[.val (.int p1), .val (.int p2), .val (.int p3), .val (.ref b4), .val (.int w9), .val (.int (1 : Int32)), .val (.int w13)] [(.int p2)])) rfl (hb hby at_144) _ k) ?_
        show Run p e below s 1 2 (Q_rm0 Z p1 p2 p3 h0 n0) (T19.setTop (mkF m 146 #[.val (.int p1), .val (.int p2), .val (.int p3), .val (.ref b4), .val (.int w9), .val (.int (1 : Int32)), .val (.int w13)] [(.int (2147483647 : Int32)), (.int p2)]))
        have J21 : ∀  (T22 : State) (L22 : List Loc) (X22 : Stand p l e room_1 s m #[(.int p1), (.int p2), (.int p3)] below meth c T22 L22 1 2) (e22 : T22.heap = T7.heap) (N22 : Fr n0 L22), Run p e below s 1 2 (Q_rm0 Z p1 p2 p3 h0 n0) (T22.setTop (mkF m 171 #[.val (.int p1), .val (.int p2), .val (.int p3), .val (.ref b4), .val (.int w9), .val (.int (1 : Int32)), .val (.int w13)] [])) := by
          intro  T22 L22 X22 e22 N22
          show Run p e below s 1 2 (Q_rm0 Z p1 p2 p3 h0 n0) (T22.setTop (mkF m 171 #[.val (.int p1), .val (.int p2), .val (.int p3), .val (.ref b4), .val (.int w9), .val (.int (1 : Int32)), .val (.int w13)] []))
          refine Run.go (fun _ k => XS.iload X22.here hx rfl (hb hby at_171) rfl  k) ?_
          show Run p e below s 1 2 (Q_rm0 Z p1 p2 p3 h0 n0) (T22.setTop (mkF m 173 #[.val (.int p1), .val (.int p2), .val (.int p3), .val (.ref b4), .val (.int w9), .val (.int (1 : Int32)), .val (.int w13)] [(.int (1 : Int32))]))
          exact Run.retN (y := 1) X22 hx (t := .boolean) Bd.returns (by simp) rfl Bd.notSynchronized (hb hby at_173) (by decide) (by decide) ⟨rfl, N22⟩
        by_cases hc23 : (p2 = (2147483647 : Int32))
        · refine Run.go (fun _ k => XS.icmpYes X19.here hx rfl (pc0 := 146) (pc' := 171) rfl (hb hby at_146) rfl (teq hc23).1 (by decide) (by decide) k) ?_
          show Run p e below s 1 2 (Q_rm0 Z p1 p2 p3 h0 n0) (T19.setTop (mkF m 171 #[.val (.int p1), .val (.int p2), .val (.int p3), .val (.ref b4), .val (.int w9), .val (.int (1 : Int32)), .val (.int w13)] []))
          exact J21  _ _ X19 e19 N19
        · refine Run.go (fun _ k => XS.icmpNo X19.here hx rfl (hb hby at_146) rfl (feq hc23).1 k) ?_
          show Run p e below s 1 2 (Q_rm0 Z p1 p2 p3 h0 n0) (T19.setTop (mkF m 149 #[.val (.int p1), .val (.int p2), .val (.int p3), .val (.ref b4), .val (.int w9), .val (.int (1 : Int32)), .val (.int w13)] []))
          refine Run.go (fun _ k => XS.iload X19.here hx rfl (hb hby at_149) rfl  k) ?_
          show Run p e below s 1 2 (Q_rm0 Z p1 p2 p3 h0 n0) (T19.setTop (mkF m 151 #[.val (.int p1), .val (.int p2), .val (.int p3), .val (.ref b4), .val (.int w9), .val (.int (1 : Int32)), .val (.int w13)] [(.int (1 : Int32))]))
          refine Run.go (fun _ k => XS.ifNo X19.here hx rfl (hb hby at_151) rfl ((if0 _ _).trans (feq (by decide)).1) k) ?_
          show Run p e below s 1 2 (Q_rm0 Z p1 p2 p3 h0 n0) (T19.setTop (mkF m 154 #[.val (.int p1), .val (.int p2), .val (.int p3), .val (.ref b4), .val (.int w9), .val (.int (1 : Int32)), .val (.int w13)] []))
          refine Run.go (fun _ k => XS.aloadN X19.here hx rfl (hb hby at_154) rfl rfl k) ?_
          show Run p e below s 1 2 (Q_rm0 Z p1 p2 p3 h0 n0) (T19.setTop (mkF m 155 #[.val (.int p1), .val (.int p2), .val (.int p3), .val (.ref b4), .val (.int w9), .val (.int (1 : Int32)), .val (.int w13)] [(.ref b4)]))
          refine Run.go (fun _ k => XS.iloadN X19.here hx rfl (hb hby at_155) rfl  k) ?_
          show Run p e below s 1 2 (Q_rm0 Z p1 p2 p3 h0 n0) (T19.setTop (mkF m 156 #[.val (.int p1), .val (.int p2), .val (.int p3), .val (.ref b4), .val (.int w9), .val (.int (1 : Int32)), .val (.int w13)] [(.int p2), (.ref b4)]))
          refine Run.go (fun _ k => XS.iconst X19.here hx rfl (hb hby at_156) k) ?_
          show Run p e below s 1 2 (Q_rm0 Z p1 p2 p3 h0 n0) (T19.setTop (mkF m 157 #[.val (.int p1), .val (.int p2), .val (.int p3), .val (.ref b4), .val (.int w9), .val (.int (1 : Int32)), .val (.int w13)] [(.int (1 : Int32)), (.int p2), (.ref b4)]))
          refine Run.go (fun _ k => XS.iadd X19.here hx rfl (hb hby at_157) rfl k) ?_
          show Run p e below s 1 2 (Q_rm0 Z p1 p2 p3 h0 n0) (T19.setTop (mkF m 158 #[.val (.int p1), .val (.int p2), .val (.int p3), .val (.ref b4), .val (.int w9), .val (.int (1 : Int32)), .val (.int w13)] [(.int (p2 + (1 : Int32))), (.ref b4)]))
          obtain ⟨cq24, kq24, q24a, q24b, q24c⟩ := isOf hZ e19 fq7_0
          obtain ⟨_, _, ⟨T24, L24, k24, n24⟩, -, X24, ⟨Lc24, hQ24, l24, y24, z24⟩, st24⟩ := X19.virtualBack hx (y := (⟨"com/example/throngwise/throngwise/rounds/Window", "contains", "(I)Z"⟩ : MethodName)) (z := (⟨"com/example/throngwise/throngwise/rounds/Window", "contains", "(I)Z"⟩ : MethodName)) hown (mvT hZ (hw _ (List.mem_of_getElem? (i := 18) rfl))) (mvT hZ (hw _ (List.mem_of_getElem? (i := 19) rfl))) (notFace_of_selects (args := #[]) (mvT hZ (hw _ (List.mem_of_getElem? (i := 21) rfl)))) (mvT hZ (hw _ (List.mem_of_getElem? (i := 21) rfl))) (mvT hZ (hw _ (List.mem_of_getElem? (i := 20) rfl))) (by decide) (backOf (W := 0) (rm4 l Z a0 hw [] b4 (p2 + (1 : Int32)) p1 p2 T7.heap n0 Z7 fq7_1 fq7_2) hZ (hw _ (List.mem_of_getElem? (i := 22) rfl)) (hw _ (List.mem_of_getElem? (i := 2) rfl)) (by decide) (by decide)) q24a q24c (g := (mkF m 158 #[.val (.int p1), .val (.int p2), .val (.int p3), .val (.ref b4), .val (.int w9), .val (.int (1 : Int32)), .val (.int w13)] [(.int (p2 + (1 : Int32))), (.ref b4)])) rfl (by rw [hml]; rfl) (Steps.refl _) (argsL := [(.int (p2 + (1 : Int32)))]) (rest := []) (lenOf pd_2 rfl) rfl (by show 2 * 0 + _ ≤ _; exact Nat.le_of_eq rfl) (hb hby at_158) (fun _ _ => ⟨rfl, e19, (by decide : 1 + 0 ≤ _), (by decide : 2 + 0 ≤ _)⟩)
          dsimp only [Pt.U, Pt.locs, Pt.cells, Pt.slots] at X24 l24 y24 z24 st24 hQ24
          subst l24 y24 z24
          obtain ⟨rfl, N24q, e24q⟩ := hQ24
          have N24 := Fr.app N19 N24q
          refine Run.tr st24 ?_
          show Run p e below s 1 2 (Q_rm0 Z p1 p2 p3 h0 n0) (T24.setTop (mkF m 161 #[.val (.int p1), .val (.int p2), .val (.int p3), .val (.ref b4), .val (.int w9), .val (.int (1 : Int32)), .val (.int w13)] [(.int (F_rm4 (p2 + (1 : Int32)) p1 p2))]))
          refine Run.go (fun _ k => XS.ifNo X24.here hx rfl (hb hby at_161) rfl ((if0 _ _).trans (teq (own_5 _ _ hc23)).2) k) ?_
          show Run p e below s 1 2 (Q_rm0 Z p1 p2 p3 h0 n0) (T24.setTop (mkF m 164 #[.val (.int p1), .val (.int p2), .val (.int p3), .val (.ref b4), .val (.int w9), .val (.int (1 : Int32)), .val (.int w13)] []))
          refine Run.go (fun _ k => XS.iconst X24.here hx rfl (hb hby at_164) k) ?_
          show Run p e below s 1 2 (Q_rm0 Z p1 p2 p3 h0 n0) (T24.setTop (mkF m 165 #[.val (.int p1), .val (.int p2), .val (.int p3), .val (.ref b4), .val (.int w9), .val (.int (1 : Int32)), .val (.int w13)] [(.int (1 : Int32))]))
          refine Run.go (fun _ k => XS.goto X24.here hx rfl (pc0 := 165) (pc' := 169) rfl (hb hby at_165) (by decide) (by decide) k) ?_
          show Run p e below s 1 2 (Q_rm0 Z p1 p2 p3 h0 n0) (T24.setTop (mkF m 169 #[.val (.int p1), .val (.int p2), .val (.int p3), .val (.ref b4), .val (.int w9), .val (.int (1 : Int32)), .val (.int w13)] [(.int (1 : Int32))]))
          refine Run.go (fun _ k => XS.istore X24.here hx rfl (hb hby at_169) rfl (l' := #[.val (.int p1), .val (.int p2), .val (.int p3), .val (.ref b4), .val (.int w9), .val (.int (1 : Int32)), .val (.int w13)]) rfl k) ?_
          show Run p e below s 1 2 (Q_rm0 Z p1 p2 p3 h0 n0) (T24.setTop (mkF m 171 #[.val (.int p1), .val (.int p2), .val (.int p3), .val (.ref b4), .val (.int w9), .val (.int (1 : Int32)), .val (.int w13)] []))
          exact J21  _ _ X24 e24q N24
      by_cases hc25 : (p1 = (-2147483648 : Int32))
      · refine Run.go (fun _ k => XS.icmpYes X16.here hx rfl (pc0 := 118) (pc' := 143) rfl (hb hby at_118) rfl (teq hc25).1 (by decide) (by decide) k) ?_
        show Run p e below s 1 2 (Q_rm0 Z p1 p2 p3 h0 n0) (T16.setTop (mkF m 143 #[.val (.int p1), .val (.int p2), .val (.int p3), .val (.ref b4), .val (.int w9), .val (.int (1 : Int32)), .val (.int w13)] []))
        exact J18  _ _ X16 e16q N16
      · refine Run.go (fun _ k => XS.icmpNo X16.here hx rfl (hb hby at_118) rfl (feq hc25).1 k) ?_
        show Run p e below s 1 2 (Q_rm0 Z p1 p2 p3 h0 n0) (T16.setTop (mkF m 121 #[.val (.int p1), .val (.int p2), .val (.int p3), .val (.ref b4), .val (.int w9), .val (.int (1 : Int32)), .val (.int w13)] []))
        refine Run.go (fun _ k => XS.iload X16.here hx rfl (hb hby at_121) rfl  k) ?_
        show Run p e below s 1 2 (Q_rm0 Z p1 p2 p3 h0 n0) (T16.setTop (mkF m 123 #[.val (.int p1), .val (.int p2), .val (.int p3), .val (.ref b4), .val (.int w9), .val (.int (1 : Int32)), .val (.int w13)] [(.int (1 : Int32))]))
        refine Run.go (fun _ k => XS.ifNo X16.here hx rfl (hb hby at_123) rfl ((if0 _ _).trans (feq (by decide)).1) k) ?_
        show Run p e below s 1 2 (Q_rm0 Z p1 p2 p3 h0 n0) (T16.setTop (mkF m 126 #[.val (.int p1), .val (.int p2), .val (.int p3), .val (.ref b4), .val (.int w9), .val (.int (1 : Int32)), .val (.int w13)] []))
        refine Run.go (fun _ k => XS.aloadN X16.here hx rfl (hb hby at_126) rfl rfl k) ?_
        show Run p e below s 1 2 (Q_rm0 Z p1 p2 p3 h0 n0) (T16.setTop (mkF m 127 #[.val (.int p1), .val (.int p2), .val (.int p3), .val (.ref b4), .val (.int w9), .val (.int (1 : Int32)), .val (.int w13)] [(.ref b4)]))
        refine Run.go (fun _ k => XS.iloadN X16.here hx rfl (hb hby at_127) rfl  k) ?_
        show Run p e below s 1 2 (Q_rm0 Z p1 p2 p3 h0 n0) (T16.setTop (mkF m 128 #[.val (.int p1), .val (.int p2), .val (.int p3), .val (.ref b4), .val (.int w9), .val (.int (1 : Int32)), .val (.int w13)] [(.int p1), (.ref b4)]))
        refine Run.go (fun _ k => XS.iconst X16.here hx rfl (hb hby at_128) k) ?_
        show Run p e below s 1 2 (Q_rm0 Z p1 p2 p3 h0 n0) (T16.setTop (mkF m 129 #[.val (.int p1), .val (.int p2), .val (.int p3), .val (.ref b4), .val (.int w9), .val (.int (1 : Int32)), .val (.int w13)] [(.int (1 : Int32)), (.int p1), (.ref b4)]))
        refine Run.go (fun _ k => XS.isub X16.here hx rfl (hb hby at_129) rfl k) ?_
        show Run p e below s 1 2 (Q_rm0 Z p1 p2 p3 h0 n0) (T16.setTop (mkF m 130 #[.val (.int p1), .val (.int p2), .val (.int p3), .val (.ref b4), .val (.int w9), .val (.int (1 : Int32)), .val (.int w13)] [(.int (p1 - (1 : Int32))), (.ref b4)]))
        obtain ⟨cq26, kq26, q26a, q26b, q26c⟩ := isOf hZ e16q fq7_0
        obtain ⟨_, _, ⟨T26, L26, k26, n26⟩, -, X26, ⟨Lc26, hQ26, l26, y26, z26⟩, st26⟩ := X16.virtualBack hx (y := (⟨"com/example/throngwise/throngwise/rounds/Window", "contains", "(I)Z"⟩ : MethodName)) (z := (⟨"com/example/throngwise/throngwise/rounds/Window", "contains", "(I)Z"⟩ : MethodName)) hown (mvT hZ (hw _ (List.mem_of_getElem? (i := 18) rfl))) (mvT hZ (hw _ (List.mem_of_getElem? (i := 19) rfl))) (notFace_of_selects (args := #[]) (mvT hZ (hw _ (List.mem_of_getElem? (i := 21) rfl)))) (mvT hZ (hw _ (List.mem_of_getElem? (i := 21) rfl))) (mvT hZ (hw _ (List.mem_of_getElem? (i := 20) rfl))) (by decide) (backOf (W := 0) (rm4 l Z a0 hw [] b4 (p1 - (1 : Int32)) p1 p2 T7.heap n0 Z7 fq7_1 fq7_2) hZ (hw _ (List.mem_of_getElem? (i := 22) rfl)) (hw _ (List.mem_of_getElem? (i := 2) rfl)) (by decide) (by decide)) q26a q26c (g := (mkF m 130 #[.val (.int p1), .val (.int p2), .val (.int p3), .val (.ref b4), .val (.int w9), .val (.int (1 : Int32)), .val (.int w13)] [(.int (p1 - (1 : Int32))), (.ref b4)])) rfl (by rw [hml]; rfl) (Steps.refl _) (argsL := [(.int (p1 - (1 : Int32)))]) (rest := []) (lenOf pd_2 rfl) rfl (by show 2 * 0 + _ ≤ _; exact Nat.le_of_eq rfl) (hb hby at_130) (fun _ _ => ⟨rfl, e16q, (by decide : 1 + 0 ≤ _), (by decide : 2 + 0 ≤ _)⟩)
        dsimp only [Pt.U, Pt.locs, Pt.cells, Pt.slots] at X26 l26 y26 z26 st26 hQ26
        subst l26 y26 z26
        obtain ⟨rfl, N26q, e26q⟩ := hQ26
        have N26 := Fr.app N16 N26q
        refine Run.tr st26 ?_
        show Run p e below s 1 2 (Q_rm0 Z p1 p2 p3 h0 n0) (T26.setTop (mkF m 133 #[.val (.int p1), .val (.int p2), .val (.int p3), .val (.ref b4), .val (.int w9), .val (.int (1 : Int32)), .val (.int w13)] [(.int (F_rm4 (p1 - (1 : Int32)) p1 p2))]))
        refine Run.go (fun _ k => XS.ifNo X26.here hx rfl (hb hby at_133) rfl ((if0 _ _).trans (teq (own_4 _ _ hc25)).2) k) ?_
        show Run p e below s 1 2 (Q_rm0 Z p1 p2 p3 h0 n0) (T26.setTop (mkF m 136 #[.val (.int p1), .val (.int p2), .val (.int p3), .val (.ref b4), .val (.int w9), .val (.int (1 : Int32)), .val (.int w13)] []))
        refine Run.go (fun _ k => XS.iconst X26.here hx rfl (hb hby at_136) k) ?_
        show Run p e below s 1 2 (Q_rm0 Z p1 p2 p3 h0 n0) (T26.setTop (mkF m 137 #[.val (.int p1), .val (.int p2), .val (.int p3), .val (.ref b4), .val (.int w9), .val (.int (1 : Int32)), .val (.int w13)] [(.int (1 : Int32))]))
        refine Run.go (fun _ k => XS.goto X26.here hx rfl (pc0 := 137) (pc' := 141) rfl (hb hby at_137) (by decide) (by decide) k) ?_
        show Run p e below s 1 2 (Q_rm0 Z p1 p2 p3 h0 n0) (T26.setTop (mkF m 141 #[.val (.int p1), .val (.int p2), .val (.int p3), .val (.ref b4), .val (.int w9), .val (.int (1 : Int32)), .val (.int w13)] [(.int (1 : Int32))]))
        refine Run.go (fun _ k => XS.istore X26.here hx rfl (hb hby at_141) rfl (l' := #[.val (.int p1), .val (.int p2), .val (.int p3), .val (.ref b4), .val (.int w9), .val (.int (1 : Int32)), .val (.int w13)]) rfl k) ?_
        show Run p e below s 1 2 (Q_rm0 Z p1 p2 p3 h0 n0) (T26.setTop (mkF m 143 #[.val (.int p1), .val (.int p2), .val (.int p3), .val (.ref b4), .val (.int w9), .val (.int (1 : Int32)), .val (.int w13)] []))
        exact J18  _ _ X26 e26q N26
    by_cases hc27 : (((p2.toInt64) - (p1.toInt64)) < (0 : Int64))
    · refine Run.go (fun _ k => XS.ifYes X11.here hx rfl (pc0 := 61) (pc' := 68) rfl (hb hby at_61) rfl ((if0 _ _).trans (tlt ((lw_lt ((p2.toInt64) - (p1.toInt64)) (0 : Int64)).mpr hc27)).1) (by decide) (by decide) k) ?_
      show Run p e below s 1 2 (Q_rm0 Z p1 p2 p3 h0 n0) (T11.setTop (mkF m 68 #[.val (.int p1), .val (.int p2), .val (.int p3), .val (.ref b4), .val (.int w9), .val (.int (1 : Int32)), .unset] []))
      refine Run.go (fun _ k => XS.iconst X11.here hx rfl (hb hby at_68) k) ?_
      show Run p e below s 1 2 (Q_rm0 Z p1 p2 p3 h0 n0) (T11.setTop (mkF m 69 #[.val (.int p1), .val (.int p2), .val (.int p3), .val (.ref b4), .val (.int w9), .val (.int (1 : Int32)), .unset] [(.int (0 : Int32))]))
      exact J12 _ (if_neg (fun q => q hc27)).symm _ _ X11 e11q N11
    · refine Run.go (fun _ k => XS.ifNo X11.here hx rfl (hb hby at_61) rfl ((if0 _ _).trans (flt (mt (lw_lt ((p2.toInt64) - (p1.toInt64)) (0 : Int64)).mp hc27)).1) k) ?_
      show Run p e below s 1 2 (Q_rm0 Z p1 p2 p3 h0 n0) (T11.setTop (mkF m 64 #[.val (.int p1), .val (.int p2), .val (.int p3), .val (.ref b4), .val (.int w9), .val (.int (1 : Int32)), .unset] []))
      refine Run.go (fun _ k => XS.iconst X11.here hx rfl (hb hby at_64) k) ?_
      show Run p e below s 1 2 (Q_rm0 Z p1 p2 p3 h0 n0) (T11.setTop (mkF m 65 #[.val (.int p1), .val (.int p2), .val (.int p3), .val (.ref b4), .val (.int w9), .val (.int (1 : Int32)), .unset] [(.int (1 : Int32))]))
      refine Run.go (fun _ k => XS.goto X11.here hx rfl (pc0 := 65) (pc' := 69) rfl (hb hby at_65) (by decide) (by decide) k) ?_
      show Run p e below s 1 2 (Q_rm0 Z p1 p2 p3 h0 n0) (T11.setTop (mkF m 69 #[.val (.int p1), .val (.int p2), .val (.int p3), .val (.ref b4), .val (.int w9), .val (.int (1 : Int32)), .unset] [(.int (1 : Int32))]))
      exact J12 _ (if_pos hc27).symm _ _ X11 e11q N11
  by_cases hc28 : (((p3.toInt64) - (p1.toInt64)) < (0 : Int64))
  · refine Run.go (fun _ k => XS.ifYes X7.here hx rfl (pc0 := 17) (pc' := 34) rfl (hb hby at_17) rfl ((if0 _ _).trans (tlt ((lw_lt ((p3.toInt64) - (p1.toInt64)) (0 : Int64)).mpr hc28)).1) (by decide) (by decide) k) ?_
    show Run p e below s 1 2 (Q_rm0 Z p1 p2 p3 h0 n0) (T7.setTop (mkF m 34 #[.val (.int p1), .val (.int p2), .val (.int p3), .val (.ref b4), .unset, .unset, .unset] []))
    refine Run.go (fun _ k => XS.iconst X7.here hx rfl (hb hby at_34) k) ?_
    show Run p e below s 1 2 (Q_rm0 Z p1 p2 p3 h0 n0) (T7.setTop (mkF m 35 #[.val (.int p1), .val (.int p2), .val (.int p3), .val (.ref b4), .unset, .unset, .unset] [(.int (0 : Int32))]))
    exact J8 _ (if_neg (fun q => (fun q => q hc28) q.1)).symm _ _ X7 rfl N7
  · refine Run.go (fun _ k => XS.ifNo X7.here hx rfl (hb hby at_17) rfl ((if0 _ _).trans (flt (mt (lw_lt ((p3.toInt64) - (p1.toInt64)) (0 : Int64)).mp hc28)).1) k) ?_
    show Run p e below s 1 2 (Q_rm0 Z p1 p2 p3 h0 n0) (T7.setTop (mkF m 20 #[.val (.int p1), .val (.int p2), .val (.int p3), .val (.ref b4), .unset, .unset, .unset] []))
    refine Run.go (fun _ k => XS.iloadN X7.here hx rfl (hb hby at_20) rfl  k) ?_
    show Run p e below s 1 2 (Q_rm0 Z p1 p2 p3 h0 n0) (T7.setTop (mkF m 21 #[.val (.int p1), .val (.int p2), .val (.int p3), .val (.ref b4), .unset, .unset, .unset] [(.int p2)]))
    refine Run.go (fun _ k => XS.i2l X7.here hx rfl (hb hby at_21) rfl k) ?_
    show Run p e below s 1 2 (Q_rm0 Z p1 p2 p3 h0 n0) (T7.setTop (mkF m 22 #[.val (.int p1), .val (.int p2), .val (.int p3), .val (.ref b4), .unset, .unset, .unset] [(.long (p2.toInt64))]))
    refine Run.go (fun _ k => XS.iloadN X7.here hx rfl (hb hby at_22) rfl  k) ?_
    show Run p e below s 1 2 (Q_rm0 Z p1 p2 p3 h0 n0) (T7.setTop (mkF m 23 #[.val (.int p1), .val (.int p2), .val (.int p3), .val (.ref b4), .unset, .unset, .unset] [(.int p3), (.long (p2.toInt64))]))
    refine Run.go (fun _ k => XS.i2l X7.here hx rfl (hb hby at_23) rfl k) ?_
    show Run p e below s 1 2 (Q_rm0 Z p1 p2 p3 h0 n0) (T7.setTop (mkF m 24 #[.val (.int p1), .val (.int p2), .val (.int p3), .val (.ref b4), .unset, .unset, .unset] [(.long (p3.toInt64)), (.long (p2.toInt64))]))
    refine Run.go (fun _ k => XS.lsub X7.here hx rfl (hb hby at_24) rfl k) ?_
    show Run p e below s 1 2 (Q_rm0 Z p1 p2 p3 h0 n0) (T7.setTop (mkF m 25 #[.val (.int p1), .val (.int p2), .val (.int p3), .val (.ref b4), .unset, .unset, .unset] [(.long ((p2.toInt64) - (p3.toInt64)))]))
    refine Run.go (fun _ k => XS.lconst X7.here hx rfl (hb hby at_25) k) ?_
    show Run p e below s 1 2 (Q_rm0 Z p1 p2 p3 h0 n0) (T7.setTop (mkF m 26 #[.val (.int p1), .val (.int p2), .val (.int p3), .val (.ref b4), .unset, .unset, .unset] [(.long (0 : Int64)), (.long ((p2.toInt64) - (p3.toInt64)))]))
    refine Run.go (fun _ k => XS.lcmp X7.here hx rfl (hb hby at_26) rfl k) ?_
    show Run p e below s 1 2 (Q_rm0 Z p1 p2 p3 h0 n0) (T7.setTop (mkF m 27 #[.val (.int p1), .val (.int p2), .val (.int p3), .val (.ref b4), .unset, .unset, .unset] [(.int (lcmpW ((p2.toInt64) - (p3.toInt64)) (0 : Int64)))]))
    by_cases hc29 : (((p2.toInt64) - (p3.toInt64)) < (0 : Int64))
    · refine Run.go (fun _ k => XS.ifYes X7.here hx rfl (pc0 := 27) (pc' := 34) rfl (hb hby at_27) rfl ((if0 _ _).trans (tlt ((lw_lt ((p2.toInt64) - (p3.toInt64)) (0 : Int64)).mpr hc29)).1) (by decide) (by decide) k) ?_
      show Run p e below s 1 2 (Q_rm0 Z p1 p2 p3 h0 n0) (T7.setTop (mkF m 34 #[.val (.int p1), .val (.int p2), .val (.int p3), .val (.ref b4), .unset, .unset, .unset] []))
      refine Run.go (fun _ k => XS.iconst X7.here hx rfl (hb hby at_34) k) ?_
      show Run p e below s 1 2 (Q_rm0 Z p1 p2 p3 h0 n0) (T7.setTop (mkF m 35 #[.val (.int p1), .val (.int p2), .val (.int p3), .val (.ref b4), .unset, .unset, .unset] [(.int (0 : Int32))]))
      exact J8 _ (if_neg (fun q => (fun q => q hc29) q.2)).symm _ _ X7 rfl N7
    · refine Run.go (fun _ k => XS.ifNo X7.here hx rfl (hb hby at_27) rfl ((if0 _ _).trans (flt (mt (lw_lt ((p2.toInt64) - (p3.toInt64)) (0 : Int64)).mp hc29)).1) k) ?_
      show Run p e below s 1 2 (Q_rm0 Z p1 p2 p3 h0 n0) (T7.setTop (mkF m 30 #[.val (.int p1), .val (.int p2), .val (.int p3), .val (.ref b4), .unset, .unset, .unset] []))
      refine Run.go (fun _ k => XS.iconst X7.here hx rfl (hb hby at_30) k) ?_
      show Run p e below s 1 2 (Q_rm0 Z p1 p2 p3 h0 n0) (T7.setTop (mkF m 31 #[.val (.int p1), .val (.int p2), .val (.int p3), .val (.ref b4), .unset, .unset, .unset] [(.int (1 : Int32))]))
      refine Run.go (fun _ k => XS.goto X7.here hx rfl (pc0 := 31) (pc' := 35) rfl (hb hby at_31) (by decide) (by decide) k) ?_
      show Run p e below s 1 2 (Q_rm0 Z p1 p2 p3 h0 n0) (T7.setTop (mkF m 35 #[.val (.int p1), .val (.int p2), .val (.int p3), .val (.ref b4), .unset, .unset, .unset] [(.int (1 : Int32))]))
      exact J8 _ (if_pos ⟨hc28, hc29⟩).symm _ _ X7 rfl N7
set_option maxRecDepth 65536 in
set_option maxHeartbeats 40000000 in
theorem comes_1 {Post : Tables → Env → Array Value → State → Outcome → State → Prop} (hpost : ∀ tb e args s v u, (limb_1_1.after args s (.returned v) u = true ∧ limb_1_2.after args s (.returned v) u = true ∧ True) → FrameEnd s (.returned v) u (Jvm.fieldLocs frame_1_writes args s ++ Jvm.arrayLocs frame_1_arrays args s ++ Jvm.staticLocs frame_1_statics s) 16 128 → Post tb e args s (.returned v) u) :
    ArmFor flags0 classFile x code maxLocals ret World_1 tables_1 room_1 Calls_1 rest_1 Pre_1 Post := by
  intro l hfl _ _ p e ha hc hk s m args below hf hA hF happ hP
  obtain ⟨hcalls, hrest, hpre⟩ := hP
  obtain ⟨-, -, -, hnamed, -, -, -, hat⟩ := (Spec.applies_iff hf).mp happ
  obtain ⟨hg, hn⟩ := and_e (Cond.before_iff.mp (show (Jvm.Cond.and given_1 narrow_1).before args s = true from hpre))
  obtain ⟨g1, g2⟩ := and_e hg
  obtain ⟨g3, g4⟩ := and_e g2
  obtain ⟨g5, g6⟩ := and_e g4
  obtain ⟨w0, w1, w2, rfl⟩ : ∃ w0 w1 w2 : Value, args = #[w0, w1, w2] := by
    have hs : args.size = 3 := by simpa [Cond.value, given_1] using g1
    obtain ⟨L⟩ := args
    match L, hs with
    | [w0, w1, w2], _ => exact ⟨w0, w1, w2, rfl⟩
  have hw := fun d (hd : d ∈ tables_1) => atoms_spec (ws := Jvm.Cond.code x code maxLocals ret :: tables_1) hat d (List.mem_cons_of_mem _ hd)
  have hfit : Fit s := fun {y c} hc i hi => by
    obtain ⟨ha, rfl⟩ := Array.getElem?_eq_some_iff.mp hc
    have q := List.all_eq_true.mp ((Array.all_eq_true_iff_forall_mem.mp hF) _ (Array.getElem_mem ha)) i (List.mem_range.mpr hi)
    simpa [Array.getElem?_eq_getElem hi] using q
  obtain ⟨i0, ei0⟩ := is_v g3
  obtain rfl : w0 = (.int i0) := Option.some.inj ei0
  obtain ⟨i1, ei1⟩ := is_v g5
  obtain rfl : w1 = (.int i1) := Option.some.inj ei1
  obtain ⟨i2, ei2⟩ := is_v g6
  obtain rfl : w2 = (.int i2) := Option.some.inj ei2
  obtain ⟨n, o, h1, h2, h3, _, L, rfl, ⟨rfl, N⟩, hq⟩ := rm0 l s _ hw tables_1 i0 i1 i2 s.heap s.heap.size (Nat.le_refl _)  p e ha hc hk s m _ below hf ((Spec.applies_iff_loose hf).mp happ).1 ⟨rfl, State.Warmed39.refl s, rfl⟩ trivial
  refine ⟨n, _, h1, h2, h3, hpost _ _ _ _ _ _ ⟨Cond.after_iff.mpr rfl, Cond.after_iff.mpr (eq_i res_at (Term.int_eval (1)) rfl), trivial⟩ ⟨hq.1, hq.2.1, (hq.2.2.sift fun y hy => Or.inr (N y hy)).mono (by decide) (by decide)⟩⟩
theorem main_1_1 : Claimed_1_1 := comes_1 fun _ _ _ _ _ _ h hF => ⟨h.1, hF⟩
theorem main_1_2 : Claimed_1_2 := comes_1 fun _ _ _ _ _ _ h hF => ⟨h.2.1, hF⟩
end Jvm.Pilot.@@N@@
namespace Jvm.Pilot.@@N@@
open Jvm Jvm.ClassFile Sem Op Lib Jvm.Free Jvm.Stand Jvm.Pilot.@@N@@.Jvm.D
/-! MADE BY PROGRAM (witnessworld.py) out of the Statement's table words and the real class files: 10 classes; the members and pool entries that the words name. The judged class is class 1, her method 1. -/
namespace start1
open Jvm.ClassFile
def u (s : String) : CpInfo := .utf8 (stringToUtf16 s)
/-- a pool by its gaps: so many unusable entries, then the entry; so many at the end -/
def gap : Nat → List CpInfo → List CpInfo
  | 0, r => r
  | n + 1, r => .unusable :: gap n r
def poolList (es : List (Nat × CpInfo)) (last : Nat) : List CpInfo := es.foldr (fun e r => gap e.1 (e.2 :: r)) (gap last [])
def pool (es : List (Nat × CpInfo)) (last : Nat) : Array CpInfo := ⟨poolList es last⟩
def fileOf (pool : Array CpInfo) (this : Nat) (attrs : Array Attribute := #[]) (ms : Array MethodInfo := #[]) (fl : Nat := 33) (sup : Nat := 0) (ifs : Array Nat := #[]) (fds : Array FieldInfo := #[]) : ClassFile where
  minorVersion := 0
  majorVersion := 65
  constantPool := pool
  accessFlags := fl
  thisClass := this
  superClass := sup
  interfaces := ifs
  fields := fds
  methods := ms
  attributes := attrs
def plain (name : String) (sup : Option ClassId) : Class where
  name := name
  kind := .ordinary
  loader := none
  accessFlags := 33
  super := sup
  interfaces := #[]
  cf := none
  fields := #[]
  methods := #[]
  instanceTypes := #[]
  staticTypes := #[]
  resolved := #[]
  callSites := []
  init := .initialized
  statics := none
  mirror := none

def pool0 : Array CpInfo := pool [(5, u "<init>"), (0, u "()V"), (1, .class_ 10), (1, u "java/lang/Object")] 113

def k0c0 : Code := { maxStack := 0, maxLocals := 1, code := object_method_1_code, exceptionTable := #[], attributes := #[] }
def k0m0 : Method := { name := "<init>", desc := "()V", sig := { parameters := [], returnType := none }, accessFlags := 1, code := some k0c0 }
/-- java/lang/Object -/
def k0 : Class := { plain "java/lang/Object" none with
  accessFlags := 33
  interfaces := #[]
  cf := some (fileOf pool0 8 #[] #[{ accessFlags := 1, nameIndex := 5, descriptorIndex := 6, attributes := #[] }] 33 0 #[] #[])
  fields := #[]
  methods := #[k0m0]
  instanceTypes := #[]
  staticTypes := #[]
  resolved := Array.replicate 124 none
  statics := none }

def pool1 : Array CpInfo := pool [(2, .class_ 4), (1, u "java/lang/Object"), (0, u "<init>"), (0, u "()V"), (0, .class_ 8), (0, u "com/example/throngwise/throngwise/rounds/Window"), (0, .methodref 7 10), (0, .nameAndType 5 11), (0, u "(II)V"), (0, .methodref 7 13), (0, .nameAndType 14 15), (0, u "contains"), (0, u "(I)Z"), (2, .integer 2147483648), (0, .integer 2147483647), (0, .class_ 21), (0, u "com/example/throngwise/throngwise/rounds/WindowContainsPinLaw"), (2, u "law"), (0, u "(III)Z")] 3

def k1m0 : Method := { name := "<init>", desc := "()V", sig := { parameters := [], returnType := none }, accessFlags := 1, code := none }
def k1c1 : Code := { maxStack := 4, maxLocals := 7, code := code, exceptionTable := #[], attributes := #[] }
def k1m1 : Method := { name := "law", desc := "(III)Z", sig := { parameters := [.int, .int, .int], returnType := some .boolean }, accessFlags := 9, code := some k1c1 }
/-- com/example/throngwise/throngwise/rounds/WindowContainsPinLaw -/
def k1 : Class := { plain "com/example/throngwise/throngwise/rounds/WindowContainsPinLaw" (some 0) with
  accessFlags := 49
  interfaces := #[]
  cf := some (fileOf pool1 20 #[] #[{ accessFlags := 1, nameIndex := 5, descriptorIndex := 6, attributes := #[] }, { accessFlags := 9, nameIndex := 24, descriptorIndex := 25, attributes := #[] }] 49 2 #[] #[])
  fields := #[]
  methods := #[k1m0, k1m1]
  instanceTypes := #[]
  staticTypes := #[]
  resolved := Array.replicate 29 none
  statics := none }

def pool2 : Array CpInfo := pool [(1, .methodref 2 3), (0, .class_ 4), (0, .nameAndType 5 6), (0, u "java/lang/Object"), (0, u "<init>"), (0, u "()V"), (0, .class_ 8), (0, u "java/lang/Record")] 13

def k2c0 : Code := { maxStack := 1, maxLocals := 1, code := jdk_30_method_1_code, exceptionTable := #[], attributes := #[] }
def k2m0 : Method := { name := "<init>", desc := "()V", sig := { parameters := [], returnType := none }, accessFlags := 4, code := some k2c0 }
/-- java/lang/Record -/
def k2 : Class := { plain "java/lang/Record" (some 0) with
  accessFlags := 1057
  interfaces := #[]
  cf := some (fileOf pool2 7 #[] #[{ accessFlags := 4, nameIndex := 5, descriptorIndex := 6, attributes := #[] }] 1057 2 #[] #[])
  fields := #[]
  methods := #[k2m0]
  instanceTypes := #[]
  staticTypes := #[]
  resolved := Array.replicate 22 none
  statics := none }

def pool3 : Array CpInfo := pool [(1, .methodref 2 3), (0, .class_ 4), (0, .nameAndType 5 6), (0, u "java/lang/Record"), (0, u "<init>"), (0, u "()V"), (0, .fieldref 8 9), (0, .class_ 10), (0, .nameAndType 11 12), (0, u "com/example/throngwise/throngwise/rounds/Window"), (0, u "from"), (0, u "I"), (0, .fieldref 8 14), (0, .nameAndType 15 12), (0, u "until"), (17, u "(II)V"), (2, u "EVERY_ROUND"), (0, u "Lcom/example/throngwise/throngwise/rounds/Window;"), (3, u "contains"), (0, u "(I)Z")] 26

def k3c0 : Code := { maxStack := 2, maxLocals := 3, code := prog_18_method_1_code, exceptionTable := #[], attributes := #[] }
def k3m0 : Method := { name := "<init>", desc := "(II)V", sig := { parameters := [.int, .int], returnType := none }, accessFlags := 1, code := some k3c0 }
def k3c1 : Code := { maxStack := 2, maxLocals := 2, code := prog_18_method_2_code, exceptionTable := #[], attributes := #[] }
def k3m1 : Method := { name := "contains", desc := "(I)Z", sig := { parameters := [.int], returnType := some .boolean }, accessFlags := 1, code := some k3c1 }
/-- com/example/throngwise/throngwise/rounds/Window -/
def k3 : Class := { plain "com/example/throngwise/throngwise/rounds/Window" (some 2) with
  accessFlags := 49
  interfaces := #[]
  cf := some (fileOf pool3 8 #[] #[{ accessFlags := 1, nameIndex := 5, descriptorIndex := 33, attributes := #[] }, { accessFlags := 1, nameIndex := 41, descriptorIndex := 42, attributes := #[] }] 49 2 #[] #[{ accessFlags := 18, nameIndex := 11, descriptorIndex := 12, attributes := #[] }, { accessFlags := 18, nameIndex := 15, descriptorIndex := 12, attributes := #[] }, { accessFlags := 25, nameIndex := 36, descriptorIndex := 37, attributes := #[] }])
  fields := #[{ name := "from", type := .int, accessFlags := 18, slot := 0, constantValue := 0 }, { name := "until", type := .int, accessFlags := 18, slot := 1, constantValue := 0 }, { name := "EVERY_ROUND", type := (.object "com/example/throngwise/throngwise/rounds/Window"), accessFlags := 25, slot := 0, constantValue := 0 }]
  methods := #[k3m0, k3m1]
  instanceTypes := #[.int, .int]
  staticTypes := #[(.object "com/example/throngwise/throngwise/rounds/Window")]
  resolved := Array.replicate 69 none
  statics := none }

def pool4 : Array CpInfo := pool [(1, u "java/lang/Cloneable"), (0, .class_ 1), (0, u "java/lang/Object"), (0, .class_ 3)] 3

/-- java/lang/Cloneable -/
def k4 : Class := { plain "java/lang/Cloneable" (some 0) with
  accessFlags := 1537
  interfaces := #[]
  cf := some (fileOf pool4 2 #[] #[] 1537 4 #[] #[])
  fields := #[]
  methods := #[]
  instanceTypes := #[]
  staticTypes := #[]
  resolved := Array.replicate 8 none
  statics := none }

def pool5 : Array CpInfo := pool [(1, u "java/io/Serializable"), (0, .class_ 1), (0, u "java/lang/Object"), (0, .class_ 3)] 3

/-- java/io/Serializable -/
def k5 : Class := { plain "java/io/Serializable" (some 0) with
  accessFlags := 1537
  interfaces := #[]
  cf := some (fileOf pool5 2 #[] #[] 1537 4 #[] #[])
  fields := #[]
  methods := #[]
  instanceTypes := #[]
  staticTypes := #[]
  resolved := Array.replicate 8 none
  statics := none }

/-- the primitive byte -/
def k6 : Class := { plain "byte" none with kind := .primitive 'B', accessFlags := 0x411 }
/-- [B -/
def k7 : Class := { plain "[B" (some 0) with kind := .array 6 .byte, interfaces := #[4, 5], accessFlags := 1041 }

/-- the primitive int -/
def k8 : Class := { plain "int" none with kind := .primitive 'I', accessFlags := 0x411 }
/-- [I -/
def k9 : Class := { plain "[I" (some 0) with kind := .array 8 .int, interfaces := #[4, 5], accessFlags := 1041 }

def heap : Heap := #[]
def classes : Array Class := #[k0, k1, k2, k3, k4, k5, k6, k7, k8, k9]
def interned : List (Array UInt16 × Addr) := []
def slotsUsed : Nat := 0
def theMethod : MethodId := ⟨1, 1⟩
def args0 : Array Value := #[.int 3, .int 2, .int 1]
def aboutOver (below : List Frame) : State where
  vm := { classes := classes, interned := interned.toArray }
  heap := heap
  slotsUsed := slotsUsed
  threads := #[{ frames := .invoking theMethod args0 :: below }]
def below0 : List Frame := [.native { method := ⟨0, 0⟩, args := #[] }]
def about1 : State := aboutOver below0
def p0 : Program := .bare "" "" ""
def e0 : Env := launch0.env 0 0 0
theorem w_frames : about1.frames = Frame.invoking theMethod args0 :: below0 := rfl
set_option maxRecDepth 65536 in
theorem w_args : argsFit about1.vm theMethod args0 = true := by decide +kernel
set_option maxRecDepth 65536 in
theorem w_heap : heapFits about1 = true := by decide +kernel
set_option maxRecDepth 65536 in
theorem w_runnable : about1.curStatus? = some .runnable := by decide +kernel
set_option maxRecDepth 65536 in
theorem w_alone : about1.alone = true := by decide +kernel
set_option maxRecDepth 65536 in
theorem w_named : about1.methodNamed? x = some theMethod := by decide +kernel
set_option maxRecDepth 65536 in
theorem w_hears : about1.hears theMethod below0 = true := by decide +kernel
set_option maxRecDepth 65536 in
theorem w_ripe : about1.ripe theMethod args0 below0 = true := by decide +kernel
theorem w_running : about1.status = .running := rfl
set_option maxRecDepth 65536 in
theorem w_room : about1.hasRoom e0.platform room_1 = true :=
  launch0.hasRoom_least _ room_1 (by decide +kernel) (by decide +kernel) (by decide +kernel) (by decide +kernel) (by decide +kernel) (by decide +kernel)
theorem allAtoms_all (ts : List Jvm.Cond) (a : Array Jvm.Value) (st : Jvm.State) : (allAtoms ts).before a st = ts.all (fun c => c.before a st) := by
  induction ts with
  | nil => rfl
  | cons c t ih =>
    show (Jvm.Cond.and c (allAtoms t)).before a st = _
    rw [Jvm.Cond.before_and, ih, List.all_cons]
def words1 : List Jvm.Cond := Jvm.Cond.code x code maxLocals ret :: tables_1
/-- a 'code' word, met by the world's own term for the bytes: nothing is compared byte by byte -/
theorem code_word {y : MethodName} {bytes : ByteArray} {mx : Nat} {rt : Option FieldType} {a : Array Value} {s : State} {m : MethodId} {meth : Method} {c : Code} (h1 : s.methodNamed? y = some m) (h2 : s.vm.method? m = some meth) (h3 : meth.code = some c) (h4 : c.code = bytes)
    (h5 : (c.maxLocals == mx && c.exceptionTable.isEmpty && decide (c.maxStack ≤ mostOperands) && decide (meth.sig.returnType = rt) && !meth.locks && decide (parseMethodDescriptor y.desc = some meth.sig)) = true) : (Jvm.Cond.code y bytes mx rt).before a s = true := by
  simp only [Bool.and_eq_true, beq_iff_eq, Bool.not_eq_true', decide_eq_true_eq] at h5
  obtain ⟨⟨⟨⟨⟨g1, g2⟩, g3⟩, g4⟩, g5⟩, g6⟩ := h5
  simp [Cond.before, Cond.holds, Cond.value, h1, h2, h3, h4, g1, g2, g3, g4, g5, g6]
def isCode : Jvm.Cond → Bool
  | .code _ _ _ _ => true
  | _ => false
theorem all_split {L : List Jvm.Cond} {P : Jvm.Cond → Bool} (h1 : L.all (fun c => isCode c || P c) = true) (h2 : ∀ c ∈ L.filter isCode, P c = true) : L.all P = true := by
  refine List.all_eq_true.mpr fun c hc => ?_
  have h := List.all_eq_true.mp h1 c hc
  rcases Bool.eq_false_or_eq_true (isCode c) with hi | hi
  · exact h2 c (List.mem_filter.mpr ⟨hc, hi⟩)
  · simpa [hi] using h
set_option maxRecDepth 65536 in
theorem w_c0 : (Jvm.Cond.code x code maxLocals ret).before args0 about1 = true := code_word (m := ⟨1, 1⟩) (meth := k1m1) (c := k1c1) (by decide +kernel) rfl rfl rfl (by decide +kernel)
set_option maxRecDepth 65536 in
theorem w_c1 : (Jvm.Cond.code ({ cls := "com/example/throngwise/throngwise/rounds/Window", name := "<init>", desc := "(II)V" } : Jvm.MethodName) prog_18_method_1_code (3 : Nat) (Option.none : Option Jvm.ClassFile.FieldType)).before args0 about1 = true := code_word (m := ⟨3, 0⟩) (meth := k3m0) (c := k3c0) (by decide +kernel) rfl rfl rfl (by decide +kernel)
set_option maxRecDepth 65536 in
theorem w_c2 : (Jvm.Cond.code ({ cls := "java/lang/Record", name := "<init>", desc := "()V" } : Jvm.MethodName) jdk_30_method_1_code (1 : Nat) (Option.none : Option Jvm.ClassFile.FieldType)).before args0 about1 = true := code_word (m := ⟨2, 0⟩) (meth := k2m0) (c := k2c0) (by decide +kernel) rfl rfl rfl (by decide +kernel)
set_option maxRecDepth 65536 in
theorem w_c3 : (Jvm.Cond.code ({ cls := "java/lang/Object", name := "<init>", desc := "()V" } : Jvm.MethodName) object_method_1_code (1 : Nat) (Option.none : Option Jvm.ClassFile.FieldType)).before args0 about1 = true := code_word (m := ⟨0, 0⟩) (meth := k0m0) (c := k0c0) (by decide +kernel) rfl rfl rfl (by decide +kernel)
set_option maxRecDepth 65536 in
theorem w_c4 : (Jvm.Cond.code ({ cls := "com/example/throngwise/throngwise/rounds/Window", name := "contains", desc := "(I)Z" } : Jvm.MethodName) prog_18_method_2_code (2 : Nat) (Option.some Jvm.ClassFile.FieldType.boolean)).before args0 about1 = true := code_word (m := ⟨3, 1⟩) (meth := k3m1) (c := k3c1) (by decide +kernel) rfl rfl rfl (by decide +kernel)
def codes1 : List Jvm.Cond := [Jvm.Cond.code x code maxLocals ret, Jvm.Cond.code ({ cls := "com/example/throngwise/throngwise/rounds/Window", name := "<init>", desc := "(II)V" } : Jvm.MethodName) prog_18_method_1_code (3 : Nat) (Option.none : Option Jvm.ClassFile.FieldType), Jvm.Cond.code ({ cls := "java/lang/Record", name := "<init>", desc := "()V" } : Jvm.MethodName) jdk_30_method_1_code (1 : Nat) (Option.none : Option Jvm.ClassFile.FieldType), Jvm.Cond.code ({ cls := "java/lang/Object", name := "<init>", desc := "()V" } : Jvm.MethodName) object_method_1_code (1 : Nat) (Option.none : Option Jvm.ClassFile.FieldType), Jvm.Cond.code ({ cls := "com/example/throngwise/throngwise/rounds/Window", name := "contains", desc := "(I)Z" } : Jvm.MethodName) prog_18_method_2_code (2 : Nat) (Option.some Jvm.ClassFile.FieldType.boolean)]
set_option maxRecDepth 65536 in
theorem codes_eq : words1.filter isCode = codes1 := rfl
theorem w_codes : ∀ c ∈ words1.filter isCode, c.before args0 about1 = true := by
  rw [codes_eq]
  intro c hc
  simp only [codes1, List.mem_cons, List.not_mem_nil, or_false] at hc
  rcases hc with rfl | rfl | rfl | rfl | rfl
  · exact w_c0
  · exact w_c1
  · exact w_c2
  · exact w_c3
  · exact w_c4
set_option maxRecDepth 65536 in
theorem w_t1 : (words1.take 24).all (fun c => isCode c || c.before args0 about1) = true := by decide +kernel
set_option maxRecDepth 65536 in
theorem w_t2 : (words1.drop 24).all (fun c => isCode c || c.before args0 about1) = true := by decide +kernel
theorem w_tables : (allAtoms (Jvm.Cond.code x code maxLocals ret :: tables_1)).before args0 about1 = true := by
  rw [allAtoms_all]
  show words1.all (fun c => c.before args0 about1) = true
  refine all_split ?_ w_codes
  rw [← List.take_append_drop 24 words1, List.all_append, w_t1, w_t2]
  rfl
set_option maxRecDepth 65536 in
theorem w_case : (Jvm.Cond.and given_1 narrow_1).before args0 about1 = true := by decide +kernel
theorem w_applies : (headSpec (Jvm.Cond.code x code maxLocals ret :: tables_1) room_1).applies x e0.platform about1 = true :=
  (Spec.applies_iff w_frames).mpr ⟨w_running, w_runnable, w_alone, w_named, w_hears, w_ripe, w_room, w_tables⟩
theorem atStart : AtStart classFile x code maxLocals ret World_1 tables_1 room_1 Calls_1 rest_1 Pre_1 launch0 p0 e0 about1 theMethod args0 below0 :=
  ⟨lists_1, trivial, launch0.admits_env _ _ _, launch0.least_env, fairChoices_fair.cas, fairChoices_fair.clock, w_frames, w_args, w_heap, w_applies, trivial, trivial, w_case⟩
end start1
theorem witness_1 : WitnessClaimed_1 := ⟨start1.p0, start1.e0, start1.about1, start1.theMethod, start1.args0, start1.below0, start1.atStart⟩
end Jvm.Pilot.@@N@@
