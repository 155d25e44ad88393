import JvmDerived
import JvmDerived.Pilot.@@N@@Statement
import JvmDerived.Pilot.@@N@@Code
set_option linter.unusedVariables false
set_option linter.unusedSimpArgs false
namespace Jvm.Pilot.@@N@@
open Jvm Jvm.ClassFile Sem Op Lib Jvm.Free Jvm.Stand Jvm.LawKit Jvm.RoadKit Bundle Jvm.Pilot.@@N@@.Jvm.D
section Own
variable {p : Program} {l : Launch} {e : Env} {R : Room} {s : State} {m : MethodId} {args : Array Value} {below : List Frame} {meth : Method} {c : Code} {T : State} {locs : List Loc} {cells slots : Nat} {Z : State} {h h' : Heap}
def Run (p : Program) (e : Env) (below : List Frame) (s : State) (C N : Nat) (Q : Option Value → Heap → List Loc → Prop) (S : State) : Prop :=
  ∃ s₂ o, Steps p.tables e below S s₂ ∧ s₂.status = .running ∧ Ended s₂ below o ∧ ∃ v L, o = .returned v ∧ Q v s₂.heap L ∧ FrameEnd s o s₂ L C N
variable {C N : Nat} {Q : Option Value → Heap → List Loc → Prop} {S S' : State}
theorem Run.go (k : ∀ t, Steps p.tables e below S' t → Steps p.tables e below S t) (r : Run p e below s C N Q S') : Run p e below s C N Q S := by
  obtain ⟨s₂, o, h1, r⟩ := r
  exact ⟨s₂, o, k _ h1, r⟩
theorem Run.tr (k : Steps p.tables e below S S') (r : Run p e below s C N Q S') : Run p e below s C N Q S := by
  obtain ⟨s₂, o, h1, r⟩ := r
  exact ⟨s₂, o, k.trans h1, r⟩
theorem Run.retI (X : Stand p l e R s m args below meth c T locs cells slots) (hx : p.tables.exec = Jvm.exec) {pc : Nat} {Ls : Array Slot} {z : Int32} {rest : List Value} (hret : meth.sig.returnType = some .int) (hlk : meth.locks = false) (hd : decode c.code pc = .ok (.ireturn, 1)) (hc : cells ≤ C) (hn : slots ≤ N)
    (hQ : Q (some (.int z)) T.heap locs) : Run p e below s C N Q (T.setTop (mkF m pc Ls (.int z :: rest))) := by
  obtain ⟨fs, hr, hrun, hended, hW, hsame⟩ := X.leave (v := some (.int z)) (fun q => by rw [hret] at q; cases q)
  refine ⟨_, _, ?_, hrun, hended, _, _, rfl, hQ, ⟨_, rfl⟩, hW, hsame.mono hc hn⟩
  have hm' : T.vm.method? m = some meth := X.method'
  have hn : narrow .int (.int z) = .int z := rfl
  show Steps p.tables e below (T.setTop { method := m, pc := pc, locals := Ls, stack := _ :: rest, locked := none }) _
  jvm_step X.here [X.here.top, hx, hd, hm', hret, hn]
  first | (intro acts; rw [hr _ acts rfl rfl rfl]) | rw [hr _ _ rfl rfl rfl]
  exact Steps.refl _
theorem Run.retN (X : Stand p l e R s m args below meth c T locs cells slots) (hx : p.tables.exec = Jvm.exec) {pc : Nat} {Ls : Array Slot} {z y : Int32} {t : FieldType} {rest : List Value} (hret : meth.sig.returnType = some t) (ht : t = .boolean ∨ t = .byte ∨ t = .char ∨ t = .short) (hy : nar t z = y) (hlk : meth.locks = false) (hd : decode c.code pc = .ok (.ireturn, 1)) (hc : cells ≤ C) (hn : slots ≤ N)
    (hQ : Q (some (.int y)) T.heap locs) : Run p e below s C N Q (T.setTop (mkF m pc Ls (.int z :: rest))) := by
  subst hy
  obtain ⟨fs, hr, hrun, hended, hW, hsame⟩ := X.leave (v := some (.int (nar t z))) (fun q => by rw [hret] at q; cases q)
  exact ⟨_, _, Jvm.RoadKit.retN X hx hret ht hd hr, hrun, hended, _, _, rfl, hQ, ⟨_, rfl⟩, hW, hsame.mono hc hn⟩
theorem Run.retJ (X : Stand p l e R s m args below meth c T locs cells slots) (hx : p.tables.exec = Jvm.exec) {pc : Nat} {Ls : Array Slot} {z : Int64} {rest : List Value} (hret : meth.sig.returnType = some .long) (hlk : meth.locks = false) (hd : decode c.code pc = .ok (.lreturn, 1)) (hc : cells ≤ C) (hn : slots ≤ N)
    (hQ : Q (some (.long z)) T.heap locs) : Run p e below s C N Q (T.setTop (mkF m pc Ls (.long z :: rest))) := by
  obtain ⟨fs, hr, hrun, hended, hW, hsame⟩ := X.leave (v := some (.long z)) (fun q => by rw [hret] at q; cases q)
  refine ⟨_, _, ?_, hrun, hended, _, _, rfl, hQ, ⟨_, rfl⟩, hW, hsame.mono hc hn⟩
  have hm' : T.vm.method? m = some meth := X.method'
  show Steps p.tables e below (T.setTop { method := m, pc := pc, locals := Ls, stack := _ :: rest, locked := none }) _
  jvm_step X.here [X.here.top, hx, hd, hm', hret, narrow]
  first | (intro acts; rw [hr _ acts rfl rfl rfl]) | rw [hr _ _ rfl rfl rfl]
  exact Steps.refl _
theorem Run.retA (X : Stand p l e R s m args below meth c T locs cells slots) (hx : p.tables.exec = Jvm.exec) {pc : Nat} {Ls : Array Slot} {w : Value} {t : FieldType} {rest : List Value} (hw : w.isRef = true) (hret : meth.sig.returnType = some t) (ht : t.isReference = true) (hlk : meth.locks = false) (hd : decode c.code pc = .ok (.areturn, 1)) (hc : cells ≤ C) (hn : slots ≤ N)
    (hQ : Q (some w) T.heap locs) : Run p e below s C N Q (T.setTop (mkF m pc Ls (w :: rest))) := by
  obtain ⟨fs, hr, hrun, hended, hW, hsame⟩ := X.leave (v := some w) (fun q => by rw [hret] at q; cases q)
  refine ⟨_, _, ?_, hrun, hended, _, _, rfl, hQ, ⟨_, rfl⟩, hW, hsame.mono hc hn⟩
  have hm' : T.vm.method? m = some meth := X.method'
  show Steps p.tables e below (T.setTop { method := m, pc := pc, locals := Ls, stack := _ :: rest, locked := none }) _
  rcases ref_cases hw with rfl | ⟨a, rfl⟩
  all_goals
    jvm_step X.here [X.here.top, hx, hd, hm', hret, Value.isRef, ht]
    first | (intro acts; rw [hr _ acts rfl rfl rfl]) | rw [hr _ _ rfl rfl rfl]
    exact Steps.refl _
theorem Run.ret0 (X : Stand p l e R s m args below meth c T locs cells slots) (hx : p.tables.exec = Jvm.exec) {pc : Nat} {Ls : Array Slot} (hret : meth.sig.returnType = none) (hlk : meth.locks = false) (hd : decode c.code pc = .ok (.return_, 1)) (hc : cells ≤ C) (hn : slots ≤ N)
    (hQ : Q none T.heap locs) : Run p e below s C N Q (T.setTop (mkF m pc Ls [])) := by
  obtain ⟨fs, hr, hrun, hended, hW, hsame⟩ := X.leave (v := none) (fun _ => rfl)
  exact ⟨_, _, X.returnOut hx hret hd hr, hrun, hended, _, _, rfl, hQ, ⟨_, rfl⟩, hW, hsame.mono hc hn⟩
theorem Sta.keep {C n d : String} {w : Value} {ws : List Addr} (F : Sta Z h C n d w) (K : Keep h h' ws) (q : ∀ x ∈ ws, ∀ c : Cell, h[x]? = some c → c.vm.isStatics = false) : Sta Z h' C n d w := by
  obtain ⟨cf, i, k, f, st, cell, h1, h2, h3, h4, h5, h6, h7⟩ := F
  refine ⟨cf, i, k, f, st, cell, h1, h2, h3, h4, K.2.1 st cell h5 (fun hm => ?_), h6, h7⟩
  rw [q st hm cell h5] at h6; cases h6
theorem Exa.nst {a : Addr} {C : String} (F : Exa Z h a C) : ∀ c : Cell, h[a]? = some c → c.vm.isStatics = false := fun c q => by
  obtain ⟨cell, k, h1, -, -, h4, -⟩ := F
  cases h1.symm.trans q; exact h4
/-- an array of n elements, the i-th is f i -/
def Ary (Z : State) (h : Heap) (a : Addr) (ty : FieldType) (n : Nat) (f : Nat → Value) : Prop := ∃ c : Cell, Arr Z h a c ty ∧ c.slots.size = n ∧ ∀ i, i < n → c.slots[i]? = some (f i)
variable {a b : Addr} {ty : FieldType} {n sl : Nat} {f : Nat → Value} {v : Value} {ws : List Addr}
theorem Ary.lt (F : Ary Z h a ty n f) : a < h.size := by obtain ⟨c, A, -⟩ := F; exact A.lt
theorem Ary.ext (F : Ary Z h a ty n f) (E : Ext h h') : Ary Z h' a ty n f := by obtain ⟨c, A, r⟩ := F; exact ⟨c, A.ext E, r⟩
theorem Ary.other (F : Ary Z h b ty n f) (W : Wr h h' a sl v) (q : b ≠ a) : Ary Z h' b ty n f := by obtain ⟨c, A, r⟩ := F; exact ⟨c, A.other W q, r⟩
theorem Ary.keep (F : Ary Z h a ty n f) (K : Keep h h' ws) (q : a ∉ ws) : Ary Z h' a ty n f := by obtain ⟨c, A, r⟩ := F; exact ⟨c, ⟨K.2.1 a c A.1 q, A.2⟩, r⟩
theorem Ary.ne {C : String} {a0 : Array Value} {k : Nat} (F : Ary Z h a ty n f) (G : Exa Z h b C) (wi : (Jvm.Cond.instantiable C k).before a0 Z = true) : a ≠ b := by
  obtain ⟨c, A, r⟩ := F; exact (ne_arr G wi A).symm
theorem Ary.same (F : Ary Z h a ty n f) (W : Wr h h' a sl v) : Ary Z h' a ty n (fun i => if i = sl then v else f i) := by
  obtain ⟨c, A, hs, hf⟩ := F
  obtain ⟨c1, q1, q2, q3, q4⟩ := W
  obtain rfl := Option.some.inj (q1.symm.trans A.1)
  refine ⟨c1.setSlot sl v, A.same ⟨c1, q1, q2, q3, q4⟩, by simp [Cell.setSlot, hs], fun i hi => ?_⟩
  by_cases e : i = sl
  · subst e; simp [Cell.setSlot, q3]
  · simp only [if_neg e]; rw [← hf i hi]; exact Array.getElem?_setIfInBounds_ne (Ne.symm e)
theorem Ary.nst (F : Ary Z h a ty n f) : ∀ c : Cell, h[a]? = some c → c.vm.isStatics = false := fun c q => by
  obtain ⟨cl, A, -⟩ := F
  cases A.1.symm.trans q; exact A.plain
theorem Ary.congr {g : Nat → Value} (F : Ary Z h a ty n f) (q : ∀ i, i < n → f i = g i) : Ary Z h a ty n g := by
  obtain ⟨c, A, hs, hf⟩ := F; exact ⟨c, A, hs, fun i hi => by rw [hf i hi, q i hi]⟩
theorem Ary.new {k : ClassId} {z : Int32} (A : Arr Z h a (newA k ty z) ty) (q : z.toNatClampNeg = n) : Ary Z h a ty n (fun _ => defaultValue ty) := by
  subst q
  exact ⟨_, A, sz_new _ _ _, fun i hi => by simp [newA, hi]⟩
theorem out_of {j : Int32} {c : Cell} (hs : c.slots.size = n) (h0 : ¬ j < 0) (hj : j.toNatClampNeg < n) : ¬ (j < 0 ∨ c.slots.size ≤ j.toNatClampNeg) := by
  rw [hs]; exact fun q => q.elim h0 (fun q => absurd hj (Nat.not_lt.mpr q))
/-- an array of references: besides, its class is that of arrays over C -/
def ArR (Z : State) (h : Heap) (a : Addr) (C : String) (n : Nat) (f : Nat → Value) : Prop := ∃ c : Cell, Arr Z h a c (.object C) ∧ Ovr Z c.cls C ∧ c.slots.size = n ∧ ∀ i, i < n → c.slots[i]? = some (f i)
variable {K : String}
theorem ArR.lt (F : ArR Z h a K n f) : a < h.size := by obtain ⟨c, A, -⟩ := F; exact A.lt
theorem ArR.ext (F : ArR Z h a K n f) (E : Ext h h') : ArR Z h' a K n f := by obtain ⟨c, A, r⟩ := F; exact ⟨c, A.ext E, r⟩
theorem ArR.other (F : ArR Z h b K n f) (W : Wr h h' a sl v) (q : b ≠ a) : ArR Z h' b K n f := by obtain ⟨c, A, r⟩ := F; exact ⟨c, A.other W q, r⟩
theorem ArR.keep (F : ArR Z h a K n f) (k : Keep h h' ws) (q : a ∉ ws) : ArR Z h' a K n f := by obtain ⟨c, A, r⟩ := F; exact ⟨c, ⟨k.2.1 a c A.1 q, A.2⟩, r⟩
theorem ArR.ary (F : ArR Z h a K n f) : Ary Z h a (.object K) n f := by obtain ⟨c, A, -, r⟩ := F; exact ⟨c, A, r⟩
theorem ArR.same (F : ArR Z h a K n f) (W : Wr h h' a sl v) : ArR Z h' a K n (fun i => if i = sl then v else f i) := by
  obtain ⟨c, A, o, hs, hf⟩ := F
  obtain ⟨c1, q1, q2, q3, q4⟩ := W
  obtain rfl := Option.some.inj (q1.symm.trans A.1)
  refine ⟨c1.setSlot sl v, A.same ⟨c1, q1, q2, q3, q4⟩, o, by simp [Cell.setSlot, hs], fun i hi => ?_⟩
  by_cases e : i = sl
  · subst e; simp [Cell.setSlot, q3]
  · simp only [if_neg e]; rw [← hf i hi]; exact Array.getElem?_setIfInBounds_ne (Ne.symm e)
theorem ArR.new {k : ClassId} {z : Int32} (A : Arr Z h a (newA k (.object K) z) (.object K)) (O : Ovr Z k K) (q : z.toNatClampNeg = n) : ArR Z h a K n (fun _ => .null) := by
  subst q
  exact ⟨_, A, O, sz_new _ _ _, fun i hi => by simp [newA, hi]; rfl⟩
section Arrays
theorem ary_iget (X : Stand p l e R s m args below meth c T locs cells slots) (hx : p.tables.exec = Jvm.exec) (hZ : Z.Warmed39 s.vm) (eT : T.heap = h) (A : Ary Z h a .int n f) {j : Int32} (h0 : ¬ j < 0) (hj : j.toNatClampNeg < n) {g : JFrame} (hg : g.method = m) {rest : List Value} (hs : g.stack = .int j :: .ref a :: rest) (hd : decode c.code g.pc = .ok (.iaload, 1)) {v : Value} (hv : f j.toNatClampNeg = v) (target : State)
    (k : Steps p.tables e below (T.setTop { g with pc := g.pc + 1, stack := v :: rest }) target) : Steps p.tables e below (T.setTop g) target := by
  subst hv; obtain ⟨cl, A, q, F⟩ := A
  exact X.iaload hx (by rw [eT]; exact A.1) (State.isArrayOf_alike hZ.alike A.2.1) A.2.2 (out_of q h0 hj) (F _ hj) hg hs hd target k
theorem ary_lget (X : Stand p l e R s m args below meth c T locs cells slots) (hx : p.tables.exec = Jvm.exec) (hZ : Z.Warmed39 s.vm) (eT : T.heap = h) (A : Ary Z h a .long n f) {j : Int32} (h0 : ¬ j < 0) (hj : j.toNatClampNeg < n) {g : JFrame} (hg : g.method = m) {rest : List Value} (hs : g.stack = .int j :: .ref a :: rest) (hd : decode c.code g.pc = .ok (.laload, 1)) {v : Value} (hv : f j.toNatClampNeg = v) (target : State)
    (k : Steps p.tables e below (T.setTop { g with pc := g.pc + 1, stack := v :: rest }) target) : Steps p.tables e below (T.setTop g) target := by
  subst hv; obtain ⟨cl, A, q, F⟩ := A
  exact X.laload hx (by rw [eT]; exact A.1) (State.isArrayOf_alike hZ.alike A.2.1) A.2.2 (out_of q h0 hj) (F _ hj) hg hs hd target k
theorem ary_bget (X : Stand p l e R s m args below meth c T locs cells slots) (hx : p.tables.exec = Jvm.exec) (hZ : Z.Warmed39 s.vm) (eT : T.heap = h) (A : Ary Z h a .byte n f) {j : Int32} (h0 : ¬ j < 0) (hj : j.toNatClampNeg < n) {g : JFrame} (hg : g.method = m) {rest : List Value} (hs : g.stack = .int j :: .ref a :: rest) (hd : decode c.code g.pc = .ok (.baload, 1)) {v : Value} (hv : f j.toNatClampNeg = v) (target : State)
    (k : Steps p.tables e below (T.setTop { g with pc := g.pc + 1, stack := v :: rest }) target) : Steps p.tables e below (T.setTop g) target := by
  subst hv; obtain ⟨cl, A, q, F⟩ := A
  exact X.baloadBytes hx (by rw [eT]; exact A.1) (State.isArrayOf_alike hZ.alike A.2.1) A.2.2 (out_of q h0 hj) (F _ hj) hg hs hd target k
theorem ary_cget (X : Stand p l e R s m args below meth c T locs cells slots) (hx : p.tables.exec = Jvm.exec) (hZ : Z.Warmed39 s.vm) (eT : T.heap = h) (A : Ary Z h a .char n f) {j : Int32} (h0 : ¬ j < 0) (hj : j.toNatClampNeg < n) {g : JFrame} (hg : g.method = m) {rest : List Value} (hs : g.stack = .int j :: .ref a :: rest) (hd : decode c.code g.pc = .ok (.caload, 1)) {v : Value} (hv : f j.toNatClampNeg = v) (target : State)
    (k : Steps p.tables e below (T.setTop { g with pc := g.pc + 1, stack := v :: rest }) target) : Steps p.tables e below (T.setTop g) target := by
  subst hv; obtain ⟨cl, A, q, F⟩ := A
  exact X.caload hx (by rw [eT]; exact A.1) (State.isArrayOf_alike hZ.alike A.2.1) A.2.2 (out_of q h0 hj) (F _ hj) hg hs hd target k
theorem ary_aget (X : Stand p l e R s m args below meth c T locs cells slots) (hx : p.tables.exec = Jvm.exec) (hZ : Z.Warmed39 s.vm) (eT : T.heap = h) (A : Ary Z h a ty n f) (hr : ty.isReference = true) {j : Int32} (h0 : ¬ j < 0) (hj : j.toNatClampNeg < n) {g : JFrame} (hg : g.method = m) {rest : List Value} (hs : g.stack = .int j :: .ref a :: rest) (hd : decode c.code g.pc = .ok (.aaload, 1)) {v : Value} (hv : f j.toNatClampNeg = v) (target : State)
    (k : Steps p.tables e below (T.setTop { g with pc := g.pc + 1, stack := v :: rest }) target) : Steps p.tables e below (T.setTop g) target := by
  subst hv; obtain ⟨cl, A, q, F⟩ := A
  exact X.aaload hx (by rw [eT]; exact A.1) (State.isArrayOf_alike hZ.alike A.2.1) hr A.2.2 (out_of q h0 hj) (F _ hj) hg hs hd target k
theorem ary_len (X : Stand p l e R s m args below meth c T locs cells slots) (hx : p.tables.exec = Jvm.exec) (hZ : Z.Warmed39 s.vm) (eT : T.heap = h) (A : Ary Z h a ty n f) {g : JFrame} (hg : g.method = m) {rest : List Value} (hs : g.stack = .ref a :: rest) (hd : decode c.code g.pc = .ok (.arraylength, 1)) {z : Int32} (hv : n.toInt32 = z) (target : State)
    (k : Steps p.tables e below (T.setTop { g with pc := g.pc + 1, stack := .int z :: rest }) target) : Steps p.tables e below (T.setTop g) target := by
  subst hv; obtain ⟨cl, A, q, F⟩ := A
  subst q
  exact X.arraylength hx (by rw [eT]; exact A.1) (State.isArrayOf_alike hZ.alike A.2.1) hg hs hd target k
theorem ary_iset (X : Stand p l e R s m args below meth c T locs cells slots) (hx : p.tables.exec = Jvm.exec) (hZ : Z.Warmed39 s.vm) (eT : T.heap = h) (A : Ary Z h a .int n f) {j x : Int32} (h0 : ¬ j < 0) (hj : j.toNatClampNeg < n) {g : JFrame} (hg : g.method = m) {rest : List Value} (hs : g.stack = .int x :: .int j :: .ref a :: rest) (hd : decode c.code g.pc = .ok (.iastore, 1)) :
    ∃ T' h', Stand p l e R s m args below meth c T' (locs ++ [⟨a, j.toNatClampNeg⟩]) cells slots ∧ T'.heap = h' ∧ Wr h h' a j.toNatClampNeg (.int x) ∧ ∀ target, Steps p.tables e below (T'.setTop { g with pc := g.pc + 1, stack := rest }) target → Steps p.tables e below (T.setTop g) target := by
  obtain ⟨cl, A, q, F⟩ := A
  exact stI X hx hZ eT A (out_of q h0 hj) hg hs hd
theorem ary_lset (X : Stand p l e R s m args below meth c T locs cells slots) (hx : p.tables.exec = Jvm.exec) (hZ : Z.Warmed39 s.vm) (eT : T.heap = h) (A : Ary Z h a .long n f) {j : Int32} {x : Int64} (h0 : ¬ j < 0) (hj : j.toNatClampNeg < n) {g : JFrame} (hg : g.method = m) {rest : List Value} (hs : g.stack = .long x :: .int j :: .ref a :: rest) (hd : decode c.code g.pc = .ok (.lastore, 1)) :
    ∃ T' h', Stand p l e R s m args below meth c T' (locs ++ [⟨a, j.toNatClampNeg⟩]) cells slots ∧ T'.heap = h' ∧ Wr h h' a j.toNatClampNeg (.long x) ∧ ∀ target, Steps p.tables e below (T'.setTop { g with pc := g.pc + 1, stack := rest }) target → Steps p.tables e below (T.setTop g) target := by
  obtain ⟨cl, A, q, F⟩ := A
  exact stJ X hx hZ eT A (out_of q h0 hj) hg hs hd
theorem ary_bset (X : Stand p l e R s m args below meth c T locs cells slots) (hx : p.tables.exec = Jvm.exec) (hZ : Z.Warmed39 s.vm) (eT : T.heap = h) (A : Ary Z h a .byte n f) {j x y : Int32} (h0 : ¬ j < 0) (hj : j.toNatClampNeg < n) {g : JFrame} (hg : g.method = m) {rest : List Value} (hs : g.stack = .int x :: .int j :: .ref a :: rest) (hd : decode c.code g.pc = .ok (.bastore, 1)) (hy : x.toInt8.toInt32 = y) :
    ∃ T' h', Stand p l e R s m args below meth c T' (locs ++ [⟨a, j.toNatClampNeg⟩]) cells slots ∧ T'.heap = h' ∧ Wr h h' a j.toNatClampNeg (.int y) ∧ ∀ target, Steps p.tables e below (T'.setTop { g with pc := g.pc + 1, stack := rest }) target → Steps p.tables e below (T.setTop g) target := by
  subst hy; obtain ⟨cl, A, q, F⟩ := A
  exact stB X hx hZ eT A (out_of q h0 hj) hg hs hd
theorem ary_cset (X : Stand p l e R s m args below meth c T locs cells slots) (hx : p.tables.exec = Jvm.exec) (hZ : Z.Warmed39 s.vm) (eT : T.heap = h) (A : Ary Z h a .char n f) {j x y : Int32} (h0 : ¬ j < 0) (hj : j.toNatClampNeg < n) {g : JFrame} (hg : g.method = m) {rest : List Value} (hs : g.stack = .int x :: .int j :: .ref a :: rest) (hd : decode c.code g.pc = .ok (.castore, 1)) (hy : nar .char x = y) :
    ∃ T' h', Stand p l e R s m args below meth c T' (locs ++ [⟨a, j.toNatClampNeg⟩]) cells slots ∧ T'.heap = h' ∧ Wr h h' a j.toNatClampNeg (.int y) ∧ ∀ target, Steps p.tables e below (T'.setTop { g with pc := g.pc + 1, stack := rest }) target → Steps p.tables e below (T.setTop g) target := by
  subst hy; obtain ⟨cl, A, q, F⟩ := A
  exact stC X hx hZ eT A (out_of q h0 hj) hg hs hd
theorem arr_set (X : Stand p l e R s m args below meth c T locs cells slots) (hx : p.tables.exec = Jvm.exec) (hZ : Z.Warmed39 s.vm) (eT : T.heap = h) (A : ArR Z h a K n f) {j : Int32} {y : Addr} (I : Ins Z h y K true) (h0 : ¬ j < 0) (hj : j.toNatClampNeg < n) {g : JFrame} (hg : g.method = m) {rest : List Value} (hs : g.stack = .ref y :: .int j :: .ref a :: rest) (hd : decode c.code g.pc = .ok (.aastore, 1)) :
    ∃ T' h', Stand p l e R s m args below meth c T' (locs ++ [⟨a, j.toNatClampNeg⟩]) cells slots ∧ T'.heap = h' ∧ Wr h h' a j.toNatClampNeg (.ref y) ∧ ∀ target, Steps p.tables e below (T'.setTop { g with pc := g.pc + 1, stack := rest }) target → Steps p.tables e below (T.setTop g) target := by
  obtain ⟨cl, A, O, q, F⟩ := A
  exact stR X hx hZ eT A (out_of q h0 hj) rfl (Sto.of A O I) hg hs hd
end Arrays
theorem nar_ite (P : Prop) [Decidable P] : nar .boolean (if P then (1 : Int32) else 0) = if P then 1 else 0 := by by_cases q : P <;> simp [q] <;> rfl
theorem b_idem (x : Int32) : x.toInt8.toInt32.toInt8.toInt32 = x.toInt8.toInt32 := by rw [Int8.toInt8_toInt32]
theorem isI_c (x : Int32) : ∀ n : Nat, ∃ y, (fun _ => Value.int x) n = Value.int y := fun _ => ⟨x, rfl⟩
theorem isI_s {f : Nat → Value} (q : ∀ n, ∃ y, f n = Value.int y) (k : Nat) (x : Int32) : ∀ n, ∃ y, (fun i => if i = k then Value.int x else f i) n = Value.int y := fun n => by
  by_cases e : n = k
  · exact ⟨x, if_pos e⟩
  · obtain ⟨y, hy⟩ := q n
    exact ⟨y, (if_neg e).trans hy⟩
end Own
theorem d2_0 : decode jdk_43_method_3_code 0 = .ok (.iload_n 0, 1) := by decide +kernel
theorem d2_1 : decode jdk_43_method_3_code 1 = .ok (.sipush 255, 3) := by decide +kernel
theorem d2_4 : decode jdk_43_method_3_code 4 = .ok (.if_icmp .gt 7, 3) := by decide +kernel
theorem d2_11 : decode jdk_43_method_3_code 11 = .ok (.iconst 0, 1) := by decide +kernel
theorem d2_7 : decode jdk_43_method_3_code 7 = .ok (.iconst 1, 1) := by decide +kernel
theorem d2_8 : decode jdk_43_method_3_code 8 = .ok (.goto 4, 3) := by decide +kernel
theorem d2_12 : decode jdk_43_method_3_code 12 = .ok (.ireturn, 1) := by decide +kernel
def F_rm2 (p1 : Int32) : Int32 := let w3 : Int32 := (if (¬ ((255 : Int32) < p1)) then (1 : Int32) else 0); w3
def Q_rm2 (Z : State) (p1 : Int32) (h0 : Heap) (n0 : Nat) (v : Option Value) (h : Heap) (L : List Loc) : Prop := v = some (.int (F_rm2 p1)) ∧ Fr n0 L ∧ h = h0
theorem ef_rm2 (m : MethodId) (x0 : Int32) : entryFrame m #[(.int x0)] 1 = mkF m 0 #[.val (.int x0)] [] := by first | (simp [entryFrame, mkF, argsToLocals, Value.category]; done) | rfl
theorem pn_0 : plainName "java/lang/StringLatin1" = true := by first | (simp [plainName, overriddenIn]; done) | decide +kernel
set_option maxRecDepth 65536 in
set_option maxHeartbeats 40000000 in
theorem rm2 (l : Launch) (Z : State) (a0 : Array Value) (hw : ∀ d ∈ tables_1, d.before a0 Z = true) (ws : List Jvm.Cond) (p1 : Int32) (h0 : Heap) (n0 : Nat) (Z0 : n0 ≤ h0.size)  :
    MetFree l (⟨"java/lang/StringLatin1", "canEncode", "(C)Z"⟩ : MethodName) (head1 (Jvm.Cond.code (⟨"java/lang/StringLatin1", "canEncode", "(C)Z"⟩ : MethodName) jdk_43_method_3_code 1 (some .boolean) :: ws) ({ frames := 0, cells := 0, slots := 0, locals := 0 } : Room)) (fun a U => a = #[(.int p1)] ∧ Z.Warmed39 U.vm ∧ U.heap = h0) (fun _ _ _ _ _ => True) (fun _ U o U' => ∃ v L, o = .returned v ∧ Q_rm2 Z p1 h0 n0 v U'.heap L ∧ FrameEnd U o U' L ({ frames := 0, cells := 0, slots := 0, locals := 0 } : Room).cells ({ frames := 0, cells := 0, slots := 0, locals := 0 } : Room).slots) := by
  refine MetFree.of_bodySF (plainFor_of_name pn_0) hisR ?_
  intro p e s m args below meth c s₁ Bd hml0 hP hK
  obtain ⟨rfl, hZ, hh⟩ := hP
  have hx := Bd.exec
  have hby := Bd.bytes
  have hml : c.maxLocals = 1 := hml0
  have hown : s.vm.findClass "java/lang/StringLatin1" = some m.cls := findClass_of_methodNamed Bd.named
  have hnm := (name_of_methodNamed Bd.named Bd.method).1
  have X0 : Stand p l e ({ frames := 0, cells := 0, slots := 0, locals := 0 } : Room) s m #[(.int p1)] below meth c s₁ [] 0 0 := Stand.of_body Bd
  have e0 : s₁.heap = h0 := by rw [← hh, Bd.state]; rfl
  have N0 := Fr.nil n0
  show Run p e below s 0 0 (Q_rm2 Z p1 h0 n0) (s₁.setTop (entryFrame m #[(.int p1)] 1))
  refine Run.go (fun _ k => castTop (ef_rm2 m p1) k) ?_
  show Run p e below s 0 0 (Q_rm2 Z p1 h0 n0) (s₁.setTop (mkF m 0 #[.val (.int p1)] []))
  refine Run.go (fun _ k => XS.iloadN X0.here hx rfl (hb hby d2_0) rfl  k) ?_
  show Run p e below s 0 0 (Q_rm2 Z p1 h0 n0) (s₁.setTop (mkF m 1 #[.val (.int p1)] [(.int p1)]))
  refine Run.go (fun _ k => XS.sipush X0.here hx rfl (hb hby d2_1) k) ?_
  show Run p e below s 0 0 (Q_rm2 Z p1 h0 n0) (s₁.setTop (mkF m 4 #[.val (.int p1)] [(.int (255 : Int32)), (.int p1)]))
  have J2 : ∀ (w3 : Int32) (hw3 : w3 = (if (¬ ((255 : Int32) < p1)) then (1 : Int32) else 0)) (T4 : State) (L4 : List Loc) (X4 : Stand p l e ({ frames := 0, cells := 0, slots := 0, locals := 0 } : Room) s m #[(.int p1)] below meth c T4 L4 0 0) (e4 : T4.heap = h0) (N4 : Fr n0 L4), Run p e below s 0 0 (Q_rm2 Z p1 h0 n0) (T4.setTop (mkF m 12 #[.val (.int p1)] [(.int w3)])) := by
    intro w3 hw3 T4 L4 X4 e4 N4
    show Run p e below s 0 0 (Q_rm2 Z p1 h0 n0) (T4.setTop (mkF m 12 #[.val (.int p1)] [(.int w3)]))
    refine Run.retN (y := w3) X4 hx (t := .boolean) Bd.returns (by simp) (by rw [hw3]; exact nar_ite _) Bd.notSynchronized (hb hby d2_12) (by decide) (by decide) ?_
    show Q_rm2 Z p1 h0 n0 _ T4.heap _
    exact ⟨congrArg some (congrArg Value.int (show w3 = (F_rm2 p1) from (by subst hw3; unfold F_rm2; rfl))), N4, e4⟩
  by_cases hc5 : ((255 : Int32) < p1)
  · refine Run.go (fun _ k => XS.icmpYes X0.here hx rfl (pc0 := 4) (pc' := 11) rfl (hb hby d2_4) rfl (tlt hc5).2.2.1 (by decide) (by decide) k) ?_
    show Run p e below s 0 0 (Q_rm2 Z p1 h0 n0) (s₁.setTop (mkF m 11 #[.val (.int p1)] []))
    refine Run.go (fun _ k => XS.iconst X0.here hx rfl (hb hby d2_11) k) ?_
    show Run p e below s 0 0 (Q_rm2 Z p1 h0 n0) (s₁.setTop (mkF m 12 #[.val (.int p1)] [(.int (0 : Int32))]))
    exact J2 _ (if_neg (fun q => q hc5)).symm _ _ X0 e0 N0
  · refine Run.go (fun _ k => XS.icmpNo X0.here hx rfl (hb hby d2_4) rfl (flt hc5).2.2.1 k) ?_
    show Run p e below s 0 0 (Q_rm2 Z p1 h0 n0) (s₁.setTop (mkF m 7 #[.val (.int p1)] []))
    refine Run.go (fun _ k => XS.iconst X0.here hx rfl (hb hby d2_7) k) ?_
    show Run p e below s 0 0 (Q_rm2 Z p1 h0 n0) (s₁.setTop (mkF m 8 #[.val (.int p1)] [(.int (1 : Int32))]))
    refine Run.go (fun _ k => XS.goto X0.here hx rfl (pc0 := 8) (pc' := 12) rfl (hb hby d2_8) (by decide) (by decide) k) ?_
    show Run p e below s 0 0 (Q_rm2 Z p1 h0 n0) (s₁.setTop (mkF m 12 #[.val (.int p1)] [(.int (1 : Int32))]))
    exact J2 _ (if_pos hc5).symm _ _ X0 e0 N0
theorem d3_0 : decode jdk_43_method_46_code 0 = .ok (.iconst 1, 1) := by decide +kernel
theorem d3_1 : decode jdk_43_method_46_code 1 = .ok (.newarray .byte, 2) := by decide +kernel
theorem d3_3 : decode jdk_43_method_46_code 3 = .ok (.dup, 1) := by decide +kernel
theorem d3_4 : decode jdk_43_method_46_code 4 = .ok (.iconst 0, 1) := by decide +kernel
theorem d3_5 : decode jdk_43_method_46_code 5 = .ok (.iload_n 0, 1) := by decide +kernel
theorem d3_6 : decode jdk_43_method_46_code 6 = .ok (.i2b, 1) := by decide +kernel
theorem d3_7 : decode jdk_43_method_46_code 7 = .ok (.bastore, 1) := by decide +kernel
theorem d3_8 : decode jdk_43_method_46_code 8 = .ok (.areturn, 1) := by decide +kernel
def Q_rm3 (Z : State) (p1 : Int32) (h0 : Heap) (n0 : Nat) (v : Option Value) (h : Heap) (L : List Loc) : Prop := ∃ (b2 : Addr), v = some (.ref b2) ∧ Fr n0 L ∧ Keep h0 h [] ∧ h0.size ≤ b2 ∧ Ary Z h b2 .byte 1 (fun i => if i = 0 then (.int (p1.toInt8.toInt32)) else (fun _ => (.int (0 : Int32))) i)
theorem ef_rm3 (m : MethodId) (x0 : Int32) : entryFrame m #[(.int x0)] 1 = mkF m 0 #[.val (.int x0)] [] := by first | (simp [entryFrame, mkF, argsToLocals, Value.category]; done) | rfl
set_option maxRecDepth 65536 in
set_option maxHeartbeats 40000000 in
theorem rm3 (l : Launch) (Z : State) (a0 : Array Value) (hw : ∀ d ∈ tables_1, d.before a0 Z = true) (ws : List Jvm.Cond) (p1 : Int32) (h0 : Heap) (n0 : Nat) (Z0 : n0 ≤ h0.size)  :
    MetFree l (⟨"java/lang/StringLatin1", "toBytes", "(C)[B"⟩ : MethodName) (head1 (Jvm.Cond.code (⟨"java/lang/StringLatin1", "toBytes", "(C)[B"⟩ : MethodName) jdk_43_method_46_code 1 (some (.array .byte)) :: ws) ({ frames := 0, cells := 1, slots := 1, locals := 0 } : Room)) (fun a U => a = #[(.int p1)] ∧ Z.Warmed39 U.vm ∧ U.heap = h0) (fun _ _ _ _ _ => True) (fun _ U o U' => ∃ v L, o = .returned v ∧ Q_rm3 Z p1 h0 n0 v U'.heap L ∧ FrameEnd U o U' L ({ frames := 0, cells := 1, slots := 1, locals := 0 } : Room).cells ({ frames := 0, cells := 1, slots := 1, locals := 0 } : Room).slots) := by
  refine MetFree.of_bodySF (plainFor_of_name pn_0) hisR ?_
  intro p e s m args below meth c s₁ Bd hml0 hP hK
  obtain ⟨rfl, hZ, hh⟩ := hP
  have hx := Bd.exec
  have hby := Bd.bytes
  have hml : c.maxLocals = 1 := hml0
  have hown : s.vm.findClass "java/lang/StringLatin1" = some m.cls := findClass_of_methodNamed Bd.named
  have hnm := (name_of_methodNamed Bd.named Bd.method).1
  have X0 : Stand p l e ({ frames := 0, cells := 1, slots := 1, locals := 0 } : Room) s m #[(.int p1)] below meth c s₁ [] 0 0 := Stand.of_body Bd
  have e0 : s₁.heap = h0 := by rw [← hh, Bd.state]; rfl
  have N0 := Fr.nil n0
  show Run p e below s 1 1 (Q_rm3 Z p1 h0 n0) (s₁.setTop (entryFrame m #[(.int p1)] 1))
  refine Run.go (fun _ k => castTop (ef_rm3 m p1) k) ?_
  show Run p e below s 1 1 (Q_rm3 Z p1 h0 n0) (s₁.setTop (mkF m 0 #[.val (.int p1)] []))
  refine Run.go (fun _ k => XS.iconst X0.here hx rfl (hb hby d3_0) k) ?_
  show Run p e below s 1 1 (Q_rm3 Z p1 h0 n0) (s₁.setTop (mkF m 1 #[.val (.int p1)] [(.int (1 : Int32))]))
  obtain ⟨T2, h2, k2, X2, e2, E2, A2, st2⟩ := newP X0 hx hZ (hw _ (List.mem_of_getElem? (i := 14) rfl)) e0 (g := (mkF m 1 #[.val (.int p1)] [(.int (1 : Int32))])) rfl (hb hby d3_1) rfl (by decide) (cap := 1) (by decide) (by decide) (by decide) (by decide)
  obtain ⟨b2, g2⟩ : ∃ z, z = h0.size := ⟨_, rfl⟩
  rw [← g2] at A2 st2
  have g_b2 : n0 ≤ b2 := Nat.le_trans Z0 (Nat.le_of_eq g2.symm)
  have sz_b2 : h0.size ≤ b2 := Nat.le_trans (Keep.refl h0 []).1 (Nat.le_of_eq g2.symm)
  have Z2 : n0 ≤ h2.size := Nat.le_trans Z0 E2.1
  have K2 : Keep h0 h2 [] := (Keep.refl h0 []).ext E2
  have fx3 : Ary Z h2 b2 .byte 1 (fun _ => (.int (0 : Int32))) := Ary.new A2 (by decide)
  refine Run.go st2 ?_
  show Run p e below s 1 1 (Q_rm3 Z p1 h0 n0) (T2.setTop (mkF m 3 #[.val (.int p1)] [(.ref b2)]))
  refine Run.go (fun _ k => XS.dup X2.here hx rfl (hb hby d3_3) rfl rfl k) ?_
  show Run p e below s 1 1 (Q_rm3 Z p1 h0 n0) (T2.setTop (mkF m 4 #[.val (.int p1)] [(.ref b2), (.ref b2)]))
  refine Run.go (fun _ k => XS.iconst X2.here hx rfl (hb hby d3_4) k) ?_
  show Run p e below s 1 1 (Q_rm3 Z p1 h0 n0) (T2.setTop (mkF m 5 #[.val (.int p1)] [(.int (0 : Int32)), (.ref b2), (.ref b2)]))
  refine Run.go (fun _ k => XS.iloadN X2.here hx rfl (hb hby d3_5) rfl  k) ?_
  show Run p e below s 1 1 (Q_rm3 Z p1 h0 n0) (T2.setTop (mkF m 6 #[.val (.int p1)] [(.int p1), (.int (0 : Int32)), (.ref b2), (.ref b2)]))
  refine Run.go (fun _ k => XS.i2b X2.here hx rfl (hb hby d3_6) rfl k) ?_
  show Run p e below s 1 1 (Q_rm3 Z p1 h0 n0) (T2.setTop (mkF m 7 #[.val (.int p1)] [(.int (p1.toInt8.toInt32)), (.int (0 : Int32)), (.ref b2), (.ref b2)]))
  obtain ⟨T4, h4, X4, e4, W4, st4⟩ := ary_bset X2 hx hZ e2 fx3 (by decide) (by decide) (g := (mkF m 7 #[.val (.int p1)] [(.int (p1.toInt8.toInt32)), (.int (0 : Int32)), (.ref b2), (.ref b2)])) rfl rfl (hb hby d3_7) (y := (p1.toInt8.toInt32)) (b_idem _)
  have N4 := Fr.snoc X4 N0 g_b2
  have Z4 : n0 ≤ h4.size := Nat.le_trans Z2 (Keep.of_wr W4).1
  have K4 : Keep h0 h4 [] := K2.wr W4 (Or.inr sz_b2)
  have fx5 : Ary Z h4 b2 .byte 1 (fun i => if i = 0 then (.int (p1.toInt8.toInt32)) else (fun _ => (.int (0 : Int32))) i) := fx3.same W4
  refine Run.go st4 ?_
  show Run p e below s 1 1 (Q_rm3 Z p1 h0 n0) (T4.setTop (mkF m 8 #[.val (.int p1)] [(.ref b2)]))
  refine Run.retA X4 hx rfl Bd.returns rfl Bd.notSynchronized (hb hby d3_8) (by decide) (by decide) ?_
  show Q_rm3 Z p1 h0 n0 _ T4.heap _
  rw [e4]
  exact ⟨b2, rfl, N4, K4, sz_b2, fx5⟩
theorem d4_0 : decode jdk_42_method_151_code 0 = .ok (.aload_n 0, 1) := by decide +kernel
theorem d4_1 : decode jdk_42_method_151_code 1 = .ok (.invokespecial 1, 3) := by decide +kernel
theorem d4_4 : decode jdk_42_method_151_code 4 = .ok (.aload_n 0, 1) := by decide +kernel
theorem d4_5 : decode jdk_42_method_151_code 5 = .ok (.aload_n 1, 1) := by decide +kernel
theorem d4_6 : decode jdk_42_method_151_code 6 = .ok (.putfield 9, 3) := by decide +kernel
theorem d4_9 : decode jdk_42_method_151_code 9 = .ok (.aload_n 0, 1) := by decide +kernel
theorem d4_10 : decode jdk_42_method_151_code 10 = .ok (.iload_n 2, 1) := by decide +kernel
theorem d4_11 : decode jdk_42_method_151_code 11 = .ok (.putfield 15, 3) := by decide +kernel
theorem d4_14 : decode jdk_42_method_151_code 14 = .ok (.return_, 1) := by decide +kernel
def Q_rm4 (Z : State) (a1 : Addr) (a2 : Addr) (u_value_a1 : Value) (u_coder_a1 : Value) (h0 : Heap) (n0 : Nat) (v : Option Value) (h : Heap) (L : List Loc) : Prop := v = none ∧ Fr n0 L ∧ Keep h0 h [a1] ∧ Exa Z h a1 "java/lang/String" ∧ Fld Z h a1 "java/lang/String" "value" "[B" (.ref a2) ∧ Fld Z h a1 "java/lang/String" "coder" "B" (.int (0 : Int32))
theorem ef_rm4 (m : MethodId) (x0 : Addr) (x1 : Addr) : entryFrame m #[(.ref x0), (.ref x1), (.int (0 : Int32))] 3 = mkF m 0 #[.val (.ref x0), .val (.ref x1), .val (.int (0 : Int32))] [] := by first | (simp [entryFrame, mkF, argsToLocals, Value.category]; done) | rfl
theorem pn_1 : plainName "java/lang/String" = true := by first | (simp [plainName, overriddenIn]; done) | decide +kernel
set_option maxRecDepth 65536 in
set_option maxHeartbeats 40000000 in
theorem rm4 (l : Launch) (Z : State) (a0 : Array Value) (hw : ∀ d ∈ tables_1, d.before a0 Z = true) (ws : List Jvm.Cond) (a1 : Addr) (a2 : Addr) (u_value_a1 : Value) (u_coder_a1 : Value) (h0 : Heap) (n0 : Nat) (Z0 : n0 ≤ h0.size) (E_a1 : Exa Z h0 a1 "java/lang/String") (F_value_a1 : Fld Z h0 a1 "java/lang/String" "value" "[B" u_value_a1) (g_a1 : n0 ≤ a1) (F_coder_a1 : Fld Z h0 a1 "java/lang/String" "coder" "B" u_coder_a1) :
    MetFree l (⟨"java/lang/String", "<init>", "([BB)V"⟩ : MethodName) (head1 (Jvm.Cond.code (⟨"java/lang/String", "<init>", "([BB)V"⟩ : MethodName) jdk_42_method_151_code 3 none :: ws) ({ frames := 1, cells := 0, slots := 0, locals := 12 } : Room)) (fun a U => a = #[(.ref a1), (.ref a2), (.int (0 : Int32))] ∧ Z.Warmed39 U.vm ∧ U.heap = h0) (fun _ _ _ _ _ => True) (fun _ U o U' => ∃ v L, o = .returned v ∧ Q_rm4 Z a1 a2 u_value_a1 u_coder_a1 h0 n0 v U'.heap L ∧ FrameEnd U o U' L ({ frames := 1, cells := 0, slots := 0, locals := 12 } : Room).cells ({ frames := 1, cells := 0, slots := 0, locals := 12 } : Room).slots) := by
  refine MetFree.of_bodySF (plainFor_of_name pn_1) hisR ?_
  intro p e s m args below meth c s₁ Bd hml0 hP hK
  obtain ⟨rfl, hZ, hh⟩ := hP
  have hx := Bd.exec
  have hby := Bd.bytes
  have hml : c.maxLocals = 3 := hml0
  have hown : s.vm.findClass "java/lang/String" = some m.cls := findClass_of_methodNamed Bd.named
  have hnm := (name_of_methodNamed Bd.named Bd.method).1
  have X0 : Stand p l e ({ frames := 1, cells := 0, slots := 0, locals := 12 } : Room) s m #[(.ref a1), (.ref a2), (.int (0 : Int32))] below meth c s₁ [] 0 0 := Stand.of_body Bd
  have e0 : s₁.heap = h0 := by rw [← hh, Bd.state]; rfl
  have N0 := Fr.nil n0
  show Run p e below s 0 0 (Q_rm4 Z a1 a2 u_value_a1 u_coder_a1 h0 n0) (s₁.setTop (entryFrame m #[(.ref a1), (.ref a2), (.int (0 : Int32))] 3))
  refine Run.go (fun _ k => castTop (ef_rm4 m a1 a2) k) ?_
  show Run p e below s 0 0 (Q_rm4 Z a1 a2 u_value_a1 u_coder_a1 h0 n0) (s₁.setTop (mkF m 0 #[.val (.ref a1), .val (.ref a2), .val (.int (0 : Int32))] []))
  refine Run.go (fun _ k => XS.aloadN X0.here hx rfl (hb hby d4_0) rfl rfl k) ?_
  show Run p e below s 0 0 (Q_rm4 Z a1 a2 u_value_a1 u_coder_a1 h0 n0) (s₁.setTop (mkF m 1 #[.val (.ref a1), .val (.ref a2), .val (.int (0 : Int32))] [(.ref a1)]))
  obtain ⟨T3, X3, e3, st3⟩ := initO X0 hx hZ hown (hw _ (List.mem_of_getElem? (i := 19) rfl)) (hw _ (List.mem_of_getElem? (i := 20) rfl)) (hw _ (List.mem_of_getElem? (i := 21) rfl)) e0 (g := (mkF m 1 #[.val (.ref a1), .val (.ref a2), .val (.int (0 : Int32))] [(.ref a1)])) rfl (by rw [hml]; rfl) rfl (hb hby d4_1) (by decide) (W := 0) (by show 2 * 0 + _ ≤ _; exact Nat.le_of_eq rfl) (by decide)
  refine Run.go st3 ?_
  show Run p e below s 0 0 (Q_rm4 Z a1 a2 u_value_a1 u_coder_a1 h0 n0) (T3.setTop (mkF m 4 #[.val (.ref a1), .val (.ref a2), .val (.int (0 : Int32))] []))
  refine Run.go (fun _ k => XS.aloadN X3.here hx rfl (hb hby d4_4) rfl rfl k) ?_
  show Run p e below s 0 0 (Q_rm4 Z a1 a2 u_value_a1 u_coder_a1 h0 n0) (T3.setTop (mkF m 5 #[.val (.ref a1), .val (.ref a2), .val (.int (0 : Int32))] [(.ref a1)]))
  refine Run.go (fun _ k => XS.aloadN X3.here hx rfl (hb hby d4_5) rfl rfl k) ?_
  show Run p e below s 0 0 (Q_rm4 Z a1 a2 u_value_a1 u_coder_a1 h0 n0) (T3.setTop (mkF m 6 #[.val (.ref a1), .val (.ref a2), .val (.int (0 : Int32))] [(.ref a2), (.ref a1)]))
  obtain ⟨T4, h4, X4, e4, W4, st4⟩ := putF X3 hx hZ hown (host := "") (Or.inl (hw _ (List.mem_of_getElem? (i := 22) rfl))) Via.refl e3 F_value_a1 E_a1 (Or.inr ⟨(hw _ (List.mem_of_getElem? (i := 23) rfl)), rfl, hnm⟩) (hw _ (List.mem_of_getElem? (i := 10) rfl)) (ty := (.array .byte)) (by decide) rfl rfl (g := (mkF m 6 #[.val (.ref a1), .val (.ref a2), .val (.int (0 : Int32))] [(.ref a2), (.ref a1)])) rfl rfl (hb hby d4_6)
  have N4 := Fr.snoc X4 N0 g_a1
  have Z4 : n0 ≤ h4.size := Nat.le_trans Z0 (Keep.of_wr W4).1
  have K4 : Keep h0 h4 [a1] := (Keep.refl h0 [a1]).wr W4 (Or.inl (List.mem_of_getElem? (i := 0) rfl))
  have fx5 := F_value_a1.same W4
  refine Run.go st4 ?_
  show Run p e below s 0 0 (Q_rm4 Z a1 a2 u_value_a1 u_coder_a1 h0 n0) (T4.setTop (mkF m 9 #[.val (.ref a1), .val (.ref a2), .val (.int (0 : Int32))] []))
  refine Run.go (fun _ k => XS.aloadN X4.here hx rfl (hb hby d4_9) rfl rfl k) ?_
  show Run p e below s 0 0 (Q_rm4 Z a1 a2 u_value_a1 u_coder_a1 h0 n0) (T4.setTop (mkF m 10 #[.val (.ref a1), .val (.ref a2), .val (.int (0 : Int32))] [(.ref a1)]))
  refine Run.go (fun _ k => XS.iloadN X4.here hx rfl (hb hby d4_10) rfl  k) ?_
  show Run p e below s 0 0 (Q_rm4 Z a1 a2 u_value_a1 u_coder_a1 h0 n0) (T4.setTop (mkF m 11 #[.val (.ref a1), .val (.ref a2), .val (.int (0 : Int32))] [(.int (0 : Int32)), (.ref a1)]))
  have fx6 := (E_a1.wr W4)
  have fx7 := (F_coder_a1.other W4 (Or.inr (slot_ne (Or.inr (hw _ (List.mem_of_getElem? (i := 25) rfl))) (Or.inr (hw _ (List.mem_of_getElem? (i := 23) rfl))) (by decide) (t := .byte) (t' := (.array .byte)) (by decide) (by decide))))
  obtain ⟨T8, h8, X8, e8, W8, st8⟩ := putFN X4 hx hZ hown (hw _ (List.mem_of_getElem? (i := 24) rfl)) Via.refl e4 fx7 fx6 (Or.inr ⟨(hw _ (List.mem_of_getElem? (i := 25) rfl)), rfl, hnm⟩) (hw _ (List.mem_of_getElem? (i := 10) rfl)) (ty := .byte) (v' := (.int (0 : Int32))) (by decide) rfl (by decide) (g := (mkF m 11 #[.val (.ref a1), .val (.ref a2), .val (.int (0 : Int32))] [(.int (0 : Int32)), (.ref a1)])) rfl rfl (hb hby d4_11)
  have N8 := Fr.snoc X8 N4 g_a1
  have Z8 : n0 ≤ h8.size := Nat.le_trans Z4 (Keep.of_wr W8).1
  have K8 : Keep h0 h8 [a1] := K4.wr W8 (Or.inl (List.mem_of_getElem? (i := 0) rfl))
  have fx9 := fx7.same W8
  refine Run.go st8 ?_
  show Run p e below s 0 0 (Q_rm4 Z a1 a2 u_value_a1 u_coder_a1 h0 n0) (T8.setTop (mkF m 14 #[.val (.ref a1), .val (.ref a2), .val (.int (0 : Int32))] []))
  refine Run.ret0 X8 hx Bd.returns Bd.notSynchronized (hb hby d4_14) (by decide) (by decide) ?_
  show Q_rm4 Z a1 a2 u_value_a1 u_coder_a1 h0 n0 _ T8.heap _
  have fx10 := (fx6.wr W8)
  have fx11 := (fx5.other W8 (Or.inr (slot_ne (Or.inr (hw _ (List.mem_of_getElem? (i := 23) rfl))) (Or.inr (hw _ (List.mem_of_getElem? (i := 25) rfl))) (by decide) (t := (.array .byte)) (t' := .byte) (by decide) (by decide))))
  rw [e8]
  exact ⟨rfl, N8, K8, fx10, fx11, fx9⟩
theorem own_enc (c : Int32) (h : ¬ ((255 : Int32) < c)) : ¬ ((F_rm2 c) = (0 : Int32)) := by
  unfold F_rm2; simp [h]
theorem d1_0 : decode jdk_42_method_139_code 0 = .ok (.getstatic 38, 3) := by decide +kernel
theorem d1_3 : decode jdk_42_method_139_code 3 = .ok (.ifCond .eq 23, 3) := by decide +kernel
theorem d1_6 : decode jdk_42_method_139_code 6 = .ok (.iload_n 0, 1) := by decide +kernel
theorem d1_7 : decode jdk_42_method_139_code 7 = .ok (.invokestatic 1015, 3) := by decide +kernel
theorem pd_0 : parseMethodDescriptor "(C)Z" = some ⟨[.char], some .boolean⟩ := by decide +kernel
theorem d1_10 : decode jdk_42_method_139_code 10 = .ok (.ifCond .eq 16, 3) := by decide +kernel
theorem d1_13 : decode jdk_42_method_139_code 13 = .ok (.new 10, 3) := by decide +kernel
theorem d1_16 : decode jdk_42_method_139_code 16 = .ok (.dup, 1) := by decide +kernel
theorem d1_17 : decode jdk_42_method_139_code 17 = .ok (.iload_n 0, 1) := by decide +kernel
theorem d1_18 : decode jdk_42_method_139_code 18 = .ok (.invokestatic 1018, 3) := by decide +kernel
theorem pd_1 : parseMethodDescriptor "(C)[B" = some ⟨[.char], some (.array .byte)⟩ := by decide +kernel
theorem d1_21 : decode jdk_42_method_139_code 21 = .ok (.iconst 0, 1) := by decide +kernel
theorem d1_22 : decode jdk_42_method_139_code 22 = .ok (.invokespecial 209, 3) := by decide +kernel
theorem pd_2 : parseMethodDescriptor "([BB)V" = some ⟨[(.array .byte), .byte], none⟩ := by decide +kernel
theorem d1_25 : decode jdk_42_method_139_code 25 = .ok (.areturn, 1) := by decide +kernel
def Q_rm1 (Z : State) (p1 : Int32) (cs : Int32) (h0 : Heap) (n0 : Nat) (v : Option Value) (h : Heap) (L : List Loc) : Prop := ∃ (b4 : Addr) (b8 : Addr), v = some (.ref b4) ∧ Fr n0 L ∧ Keep h0 h [] ∧ h0.size ≤ b4 ∧ h0.size ≤ b8 ∧ Exa Z h b4 "java/lang/String" ∧ Fld Z h b4 "java/lang/String" "value" "[B" (.ref b8) ∧ Fld Z h b4 "java/lang/String" "coder" "B" (.int (0 : Int32)) ∧ Ary Z h b8 .byte 1 (fun i => if i = 0 then (.int (p1.toInt8.toInt32)) else (fun _ => (.int (0 : Int32))) i)
theorem ef_rm1 (m : MethodId) (x0 : Int32) : entryFrame m #[(.int x0)] 1 = mkF m 0 #[.val (.int x0)] [] := by first | (simp [entryFrame, mkF, argsToLocals, Value.category]; done) | rfl
set_option maxRecDepth 65536 in
set_option maxHeartbeats 40000000 in
theorem rm1 (l : Launch) (Z : State) (a0 : Array Value) (hw : ∀ d ∈ tables_1, d.before a0 Z = true) (ws : List Jvm.Cond) (p1 : Int32) (cs : Int32) (h0 : Heap) (n0 : Nat) (Z0 : n0 ≤ h0.size) (S_String_COMPACT_STRINGS : Sta Z h0 "java/lang/String" "COMPACT_STRINGS" "Z" (.int cs)) (hcs : ¬ (cs = (0 : Int32))) (hch : ¬ ((255 : Int32) < p1)) :
    MetFree l (⟨"java/lang/String", "valueOf", "(C)Ljava/lang/String;"⟩ : MethodName) (head1 (Jvm.Cond.code (⟨"java/lang/String", "valueOf", "(C)Ljava/lang/String;"⟩ : MethodName) jdk_42_method_139_code 1 (some (.object "java/lang/String")) :: ws) ({ frames := 2, cells := 2, slots := 5, locals := 27 } : Room)) (fun a U => a = #[(.int p1)] ∧ Z.Warmed39 U.vm ∧ U.heap = h0) (fun _ _ _ _ _ => True) (fun _ U o U' => ∃ v L, o = .returned v ∧ Q_rm1 Z p1 cs h0 n0 v U'.heap L ∧ FrameEnd U o U' L ({ frames := 2, cells := 2, slots := 5, locals := 27 } : Room).cells ({ frames := 2, cells := 2, slots := 5, locals := 27 } : Room).slots) := by
  refine MetFree.of_bodySF (plainFor_of_name pn_1) hisR ?_
  intro p e s m args below meth c s₁ Bd hml0 hP hK
  obtain ⟨rfl, hZ, hh⟩ := hP
  have hx := Bd.exec
  have hby := Bd.bytes
  have hml : c.maxLocals = 1 := hml0
  have hown : s.vm.findClass "java/lang/String" = some m.cls := findClass_of_methodNamed Bd.named
  have hnm := (name_of_methodNamed Bd.named Bd.method).1
  have X0 : Stand p l e ({ frames := 2, cells := 2, slots := 5, locals := 27 } : Room) s m #[(.int p1)] below meth c s₁ [] 0 0 := Stand.of_body Bd
  have e0 : s₁.heap = h0 := by rw [← hh, Bd.state]; rfl
  have N0 := Fr.nil n0
  show Run p e below s 2 5 (Q_rm1 Z p1 cs h0 n0) (s₁.setTop (entryFrame m #[(.int p1)] 1))
  refine Run.go (fun _ k => castTop (ef_rm1 m p1) k) ?_
  show Run p e below s 2 5 (Q_rm1 Z p1 cs h0 n0) (s₁.setTop (mkF m 0 #[.val (.int p1)] []))
  obtain ⟨T2, X2, e2, st2⟩ := getS2 X0 hx hZ hown (host := "") (Or.inl (hw _ (List.mem_of_getElem? (i := 4) rfl))) Via.refl e0 S_String_COMPACT_STRINGS (g := (mkF m 0 #[.val (.int p1)] [])) rfl (hb hby d1_0)
  refine Run.go st2 ?_
  show Run p e below s 2 5 (Q_rm1 Z p1 cs h0 n0) (T2.setTop (mkF m 3 #[.val (.int p1)] [(.int cs)]))
  refine Run.go (fun _ k => XS.ifNo X2.here hx rfl (hb hby d1_3) rfl ((if0 _ _).trans (feq hcs).1) k) ?_
  show Run p e below s 2 5 (Q_rm1 Z p1 cs h0 n0) (T2.setTop (mkF m 6 #[.val (.int p1)] []))
  refine Run.go (fun _ k => XS.iloadN X2.here hx rfl (hb hby d1_6) rfl  k) ?_
  show Run p e below s 2 5 (Q_rm1 Z p1 cs h0 n0) (T2.setTop (mkF m 7 #[.val (.int p1)] [(.int p1)]))
  obtain ⟨_, _, ⟨T3, L3, k3, n3⟩, -, X3, ⟨Lc3, hQ3, l3, y3, z3⟩, st3⟩ := Jvm.LawKit.callS X2 hx (y := (⟨"java/lang/StringLatin1", "canEncode", "(C)Z"⟩ : MethodName)) hown (mvT hZ (hw _ (List.mem_of_getElem? (i := 5) rfl))) (mvT hZ (hw _ (List.mem_of_getElem? (i := 6) rfl))) (mvT hZ (hw _ (List.mem_of_getElem? (i := 7) rfl))) (mvT hZ (hw _ (List.mem_of_getElem? (i := 8) rfl))) (by decide) (backOf (W := 0) (rm2 l Z a0 hw [] p1 h0 n0 Z0 ) hZ (hw _ (List.mem_of_getElem? (i := 8) rfl)) (hw _ (List.mem_of_getElem? (i := 7) rfl)) (by decide) (by decide)) (g := (mkF m 7 #[.val (.int p1)] [(.int p1)])) rfl (by rw [hml]; rfl) (argsL := [(.int p1)]) (rest := []) (lenOf pd_0 rfl) rfl (by show 2 * 0 + _ ≤ _; exact Nat.le_of_eq rfl) (hb hby d1_7) (fun _ _ => ⟨rfl, e2, (by decide : 0 + 0 ≤ _), (by decide : 0 + 0 ≤ _)⟩)
  dsimp only [Pt.U, Pt.locs, Pt.cells, Pt.slots] at X3 l3 y3 z3 st3 hQ3
  subst l3 y3 z3
  obtain ⟨rfl, N3q, e3q⟩ := hQ3
  have N3 := Fr.app N0 N3q
  refine Run.go st3 ?_
  show Run p e below s 2 5 (Q_rm1 Z p1 cs h0 n0) (T3.setTop (mkF m 10 #[.val (.int p1)] [(.int (F_rm2 p1))]))
  refine Run.go (fun _ k => XS.ifNo X3.here hx rfl (hb hby d1_10) rfl ((if0 _ _).trans (feq (own_enc _ hch)).1) k) ?_
  show Run p e below s 2 5 (Q_rm1 Z p1 cs h0 n0) (T3.setTop (mkF m 13 #[.val (.int p1)] []))
  obtain ⟨T4, h4, X4, e4, E4, A4, D4, -, st4⟩ := newO X3 hx hZ hown (hw _ (List.mem_of_getElem? (i := 9) rfl)) (hw _ (List.mem_of_getElem? (i := 10) rfl)) (hw _ (List.mem_of_getElem? (i := 2) rfl)) e3q (g := (mkF m 13 #[.val (.int p1)] [])) rfl (hb hby d1_13) (by decide) (by decide)
  obtain ⟨b4, g4⟩ : ∃ z, z = h0.size := ⟨_, rfl⟩
  rw [← g4] at A4 D4 st4
  have g_b4 : n0 ≤ b4 := Nat.le_trans Z0 (Nat.le_of_eq g4.symm)
  have sz_b4 : h0.size ≤ b4 := Nat.le_trans (Keep.refl h0 []).1 (Nat.le_of_eq g4.symm)
  have Z4 : n0 ≤ h4.size := Nat.le_trans Z0 E4.1
  have K4 : Keep h0 h4 [] := (Keep.refl h0 []).ext E4
  have fx5 : Fld Z h4 b4 "java/lang/String" "value" "[B" .null := D4 (Or.inr (hw _ (List.mem_of_getElem? (i := 23) rfl))) (ty := (.array .byte)) (by decide)
  have fx6 : Fld Z h4 b4 "java/lang/String" "coder" "B" (.int (0 : Int32)) := D4 (Or.inr (hw _ (List.mem_of_getElem? (i := 25) rfl))) (ty := .byte) (by decide)
  refine Run.go st4 ?_
  show Run p e below s 2 5 (Q_rm1 Z p1 cs h0 n0) (T4.setTop (mkF m 16 #[.val (.int p1)] [(.ref b4)]))
  refine Run.go (fun _ k => XS.dup X4.here hx rfl (hb hby d1_16) rfl rfl k) ?_
  show Run p e below s 2 5 (Q_rm1 Z p1 cs h0 n0) (T4.setTop (mkF m 17 #[.val (.int p1)] [(.ref b4), (.ref b4)]))
  refine Run.go (fun _ k => XS.iloadN X4.here hx rfl (hb hby d1_17) rfl  k) ?_
  show Run p e below s 2 5 (Q_rm1 Z p1 cs h0 n0) (T4.setTop (mkF m 18 #[.val (.int p1)] [(.int p1), (.ref b4), (.ref b4)]))
  obtain ⟨_, _, ⟨T7, L7, k7, n7⟩, -, X7, ⟨Lc7, hQ7, l7, y7, z7⟩, st7⟩ := Jvm.LawKit.callS X4 hx (y := (⟨"java/lang/StringLatin1", "toBytes", "(C)[B"⟩ : MethodName)) hown (mvT hZ (hw _ (List.mem_of_getElem? (i := 11) rfl))) (mvT hZ (hw _ (List.mem_of_getElem? (i := 12) rfl))) (mvT hZ (hw _ (List.mem_of_getElem? (i := 7) rfl))) (mvT hZ (hw _ (List.mem_of_getElem? (i := 13) rfl))) (by decide) (backOf (W := 2) (rm3 l Z a0 hw [] p1 h4 n0 Z4 ) hZ (hw _ (List.mem_of_getElem? (i := 13) rfl)) (hw _ (List.mem_of_getElem? (i := 7) rfl)) (by decide) (by decide)) (g := (mkF m 18 #[.val (.int p1)] [(.int p1), (.ref b4), (.ref b4)])) rfl (by rw [hml]; rfl) (argsL := [(.int p1)]) (rest := [(.ref b4), (.ref b4)]) (lenOf pd_1 rfl) rfl (by show 2 * 0 + _ ≤ _; exact Nat.le_of_eq rfl) (hb hby d1_18) (fun _ _ => ⟨rfl, e4, (by decide : 1 + 1 ≤ _), (by decide : 4 + 1 ≤ _)⟩)
  dsimp only [Pt.U, Pt.locs, Pt.cells, Pt.slots] at X7 l7 y7 z7 st7 hQ7
  subst l7 y7 z7
  obtain ⟨b8, rfl, N7q, K7q, s_b8, fq7_0⟩ := hQ7
  have N7 := Fr.app N3 N7q
  have K7 : Keep h0 T7.heap [] := K4.trans K7q all0
  have g_b8 : n0 ≤ b8 := Nat.le_trans Z4 s_b8
  have sz_b8 : h0.size ≤ b8 := Nat.le_trans K4.1 s_b8
  have ne_b4_b8 : b4 ≠ b8 := Nat.ne_of_lt (Nat.lt_of_lt_of_le A4.lt s_b8)
  have Z7 : n0 ≤ T7.heap.size := Nat.le_trans Z4 K7q.1
  refine Run.go st7 ?_
  show Run p e below s 2 5 (Q_rm1 Z p1 cs h0 n0) (T7.setTop (mkF m 21 #[.val (.int p1)] [(.ref b8), (.ref b4), (.ref b4)]))
  refine Run.go (fun _ k => XS.iconst X7.here hx rfl (hb hby d1_21) k) ?_
  show Run p e below s 2 5 (Q_rm1 Z p1 cs h0 n0) (T7.setTop (mkF m 22 #[.val (.int p1)] [(.int (0 : Int32)), (.ref b8), (.ref b4), (.ref b4)]))
  have fx10 := (A4.keep K7q)
  have fx11 := (fx5.keep K7q nin0)
  have fx12 := (fx6.keep K7q nin0)
  obtain ⟨_, _, ⟨T9, L9, k9, n9⟩, -, X9, ⟨Lc9, hQ9, l9, y9, z9⟩, st9⟩ := X7.specialBack hx (y := (⟨"java/lang/String", "<init>", "([BB)V"⟩ : MethodName)) rfl hown (mvT hZ (hw _ (List.mem_of_getElem? (i := 15) rfl))) (mvT hZ (hw _ (List.mem_of_getElem? (i := 16) rfl))) (mvT hZ (hw _ (List.mem_of_getElem? (i := 18) rfl))) (by decide) (backOf (W := 1) (rm4 l Z a0 hw [] b4 b8 .null (.int (0 : Int32)) T7.heap n0 Z7 fx10 fx11 g_b4 fx12) hZ (hw _ (List.mem_of_getElem? (i := 18) rfl)) (hw _ (List.mem_of_getElem? (i := 2) rfl)) (by decide) (by decide)) (g := (mkF m 22 #[.val (.int p1)] [(.int (0 : Int32)), (.ref b8), (.ref b4), (.ref b4)])) rfl (by rw [hml]; rfl) (Steps.refl _) (a := b4) (argsL := [(.ref b8), (.int (0 : Int32))]) (rest := [(.ref b4)]) (lenOf pd_2 rfl) rfl (by show 2 * 0 + _ ≤ _; exact Nat.le_of_eq rfl) (hb hby d1_22) (fun _ _ => ⟨rfl, rfl, (by decide : 2 + 0 ≤ _), (by decide : 5 + 0 ≤ _)⟩)
  dsimp only [Pt.U, Pt.locs, Pt.cells, Pt.slots] at X9 l9 y9 z9 st9 hQ9
  subst l9 y9 z9
  obtain ⟨rfl, N9q, K9q, fq9_0, fq9_1, fq9_2⟩ := hQ9
  have N9 := Fr.app N7 N9q
  have K9 : Keep h0 T9.heap [] := K7.trans K9q (allS (Or.inr sz_b4) all0)
  have Z9 : n0 ≤ T9.heap.size := Nat.le_trans Z7 K9q.1
  refine Run.tr st9 ?_
  show Run p e below s 2 5 (Q_rm1 Z p1 cs h0 n0) (T9.setTop (mkF m 25 #[.val (.int p1)] [(.ref b4)]))
  refine Run.retA X9 hx rfl Bd.returns rfl Bd.notSynchronized (hb hby d1_25) (by decide) (by decide) ?_
  show Q_rm1 Z p1 cs h0 n0 _ T9.heap _
  have fx13 := (fq7_0.keep K9q (ninS (Ne.symm ne_b4_b8) nin0))
  exact ⟨b4, b8, rfl, N9, K9, sz_b4, sz_b8, fq9_0, fq9_1, fq9_2, fx13⟩
theorem d7_0 : decode jdk_30_method_1_code 0 = .ok (.aload_n 0, 1) := by decide +kernel
theorem d7_1 : decode jdk_30_method_1_code 1 = .ok (.invokespecial 1, 3) := by decide +kernel
theorem d7_4 : decode jdk_30_method_1_code 4 = .ok (.return_, 1) := by decide +kernel
def Q_rm7 (Z : State) (a1 : Addr) (h0 : Heap) (n0 : Nat) (v : Option Value) (h : Heap) (L : List Loc) : Prop := v = none ∧ Fr n0 L ∧ h = h0
theorem ef_rm7 (m : MethodId) (x0 : Addr) : entryFrame m #[(.ref x0)] 1 = mkF m 0 #[.val (.ref x0)] [] := by first | (simp [entryFrame, mkF, argsToLocals, Value.category]; done) | rfl
theorem pn_2 : plainName "java/lang/Record" = true := by first | (simp [plainName, overriddenIn]; done) | decide +kernel
set_option maxRecDepth 65536 in
set_option maxHeartbeats 40000000 in
theorem rm7 (l : Launch) (Z : State) (a0 : Array Value) (hw : ∀ d ∈ tables_1, d.before a0 Z = true) (ws : List Jvm.Cond) (a1 : Addr) (h0 : Heap) (n0 : Nat) (Z0 : n0 ≤ h0.size)  :
    MetFree l (⟨"java/lang/Record", "<init>", "()V"⟩ : MethodName) (head1 (Jvm.Cond.code (⟨"java/lang/Record", "<init>", "()V"⟩ : MethodName) jdk_30_method_1_code 1 none :: ws) ({ frames := 1, cells := 0, slots := 0, locals := 12 } : Room)) (fun a U => a = #[(.ref a1)] ∧ Z.Warmed39 U.vm ∧ U.heap = h0) (fun _ _ _ _ _ => True) (fun _ U o U' => ∃ v L, o = .returned v ∧ Q_rm7 Z a1 h0 n0 v U'.heap L ∧ FrameEnd U o U' L ({ frames := 1, cells := 0, slots := 0, locals := 12 } : Room).cells ({ frames := 1, cells := 0, slots := 0, locals := 12 } : Room).slots) := by
  refine MetFree.of_bodySF (plainFor_of_name pn_2) hisR ?_
  intro p e s m args below meth c s₁ Bd hml0 hP hK
  obtain ⟨rfl, hZ, hh⟩ := hP
  have hx := Bd.exec
  have hby := Bd.bytes
  have hml : c.maxLocals = 1 := hml0
  have hown : s.vm.findClass "java/lang/Record" = some m.cls := findClass_of_methodNamed Bd.named
  have hnm := (name_of_methodNamed Bd.named Bd.method).1
  have X0 : Stand p l e ({ frames := 1, cells := 0, slots := 0, locals := 12 } : Room) s m #[(.ref a1)] below meth c s₁ [] 0 0 := Stand.of_body Bd
  have e0 : s₁.heap = h0 := by rw [← hh, Bd.state]; rfl
  have N0 := Fr.nil n0
  show Run p e below s 0 0 (Q_rm7 Z a1 h0 n0) (s₁.setTop (entryFrame m #[(.ref a1)] 1))
  refine Run.go (fun _ k => castTop (ef_rm7 m a1) k) ?_
  show Run p e below s 0 0 (Q_rm7 Z a1 h0 n0) (s₁.setTop (mkF m 0 #[.val (.ref a1)] []))
  refine Run.go (fun _ k => XS.aloadN X0.here hx rfl (hb hby d7_0) rfl rfl k) ?_
  show Run p e below s 0 0 (Q_rm7 Z a1 h0 n0) (s₁.setTop (mkF m 1 #[.val (.ref a1)] [(.ref a1)]))
  obtain ⟨T2, X2, e2, st2⟩ := initO X0 hx hZ hown (hw _ (List.mem_of_getElem? (i := 37) rfl)) (hw _ (List.mem_of_getElem? (i := 20) rfl)) (hw _ (List.mem_of_getElem? (i := 21) rfl)) e0 (g := (mkF m 1 #[.val (.ref a1)] [(.ref a1)])) rfl (by rw [hml]; rfl) rfl (hb hby d7_1) (by decide) (W := 0) (by show 2 * 0 + _ ≤ _; exact Nat.le_of_eq rfl) (by decide)
  refine Run.go st2 ?_
  show Run p e below s 0 0 (Q_rm7 Z a1 h0 n0) (T2.setTop (mkF m 4 #[.val (.ref a1)] []))
  refine Run.ret0 X2 hx Bd.returns Bd.notSynchronized (hb hby d7_4) (by decide) (by decide) ?_
  show Q_rm7 Z a1 h0 n0 _ T2.heap _
  exact ⟨rfl, N0, e2⟩
theorem d6_0 : decode prog_21_method_1_code 0 = .ok (.aload_n 0, 1) := by decide +kernel
theorem d6_1 : decode prog_21_method_1_code 1 = .ok (.invokespecial 1, 3) := by decide +kernel
theorem pd_3 : parseMethodDescriptor "()V" = some ⟨[], none⟩ := by decide +kernel
theorem d6_4 : decode prog_21_method_1_code 4 = .ok (.aload_n 0, 1) := by decide +kernel
theorem d6_5 : decode prog_21_method_1_code 5 = .ok (.aload_n 1, 1) := by decide +kernel
theorem d6_6 : decode prog_21_method_1_code 6 = .ok (.putfield 7, 3) := by decide +kernel
theorem d6_9 : decode prog_21_method_1_code 9 = .ok (.aload_n 0, 1) := by decide +kernel
theorem d6_10 : decode prog_21_method_1_code 10 = .ok (.lload_n 2, 1) := by decide +kernel
theorem d6_11 : decode prog_21_method_1_code 11 = .ok (.putfield 13, 3) := by decide +kernel
theorem d6_14 : decode prog_21_method_1_code 14 = .ok (.aload_n 0, 1) := by decide +kernel
theorem d6_15 : decode prog_21_method_1_code 15 = .ok (.lload 4, 2) := by decide +kernel
theorem d6_17 : decode prog_21_method_1_code 17 = .ok (.putfield 17, 3) := by decide +kernel
theorem d6_20 : decode prog_21_method_1_code 20 = .ok (.return_, 1) := by decide +kernel
def Q_rm6 (Z : State) (a1 : Addr) (a2 : Addr) (q3 : Int64) (q4 : Int64) (u_holder_a1 : Value) (u_endMillis_a1 : Value) (u_token_a1 : Value) (h0 : Heap) (n0 : Nat) (v : Option Value) (h : Heap) (L : List Loc) : Prop := v = none ∧ Fr n0 L ∧ Keep h0 h [a1] ∧ Exa Z h a1 "com/example/hyra/hyra/LeaseValue" ∧ Fld Z h a1 "com/example/hyra/hyra/LeaseValue" "holder" "Ljava/lang/String;" (.ref a2) ∧ Fld Z h a1 "com/example/hyra/hyra/LeaseValue" "endMillis" "J" (.long q3) ∧ Fld Z h a1 "com/example/hyra/hyra/LeaseValue" "token" "J" (.long q4)
theorem ef_rm6 (m : MethodId) (x0 : Addr) (x1 : Addr) (x2 : Int64) (x3 : Int64) : entryFrame m #[(.ref x0), (.ref x1), (.long x2), (.long x3)] 6 = mkF m 0 #[.val (.ref x0), .val (.ref x1), .val (.long x2), .second, .val (.long x3), .second] [] := by first | (simp [entryFrame, mkF, argsToLocals, Value.category]; done) | rfl
theorem pn_3 : plainName "com/example/hyra/hyra/LeaseValue" = true := by first | (simp [plainName, overriddenIn]; done) | decide +kernel
set_option maxRecDepth 65536 in
set_option maxHeartbeats 40000000 in
theorem rm6 (l : Launch) (Z : State) (a0 : Array Value) (hw : ∀ d ∈ tables_1, d.before a0 Z = true) (ws : List Jvm.Cond) (a1 : Addr) (a2 : Addr) (q3 : Int64) (q4 : Int64) (u_holder_a1 : Value) (u_endMillis_a1 : Value) (u_token_a1 : Value) (h0 : Heap) (n0 : Nat) (Z0 : n0 ≤ h0.size) (E_a1 : Exa Z h0 a1 "com/example/hyra/hyra/LeaseValue") (F_holder_a1 : Fld Z h0 a1 "com/example/hyra/hyra/LeaseValue" "holder" "Ljava/lang/String;" u_holder_a1) (g_a1 : n0 ≤ a1) (F_endMillis_a1 : Fld Z h0 a1 "com/example/hyra/hyra/LeaseValue" "endMillis" "J" u_endMillis_a1) (F_token_a1 : Fld Z h0 a1 "com/example/hyra/hyra/LeaseValue" "token" "J" u_token_a1) :
    MetFree l (⟨"com/example/hyra/hyra/LeaseValue", "<init>", "(Ljava/lang/String;JJ)V"⟩ : MethodName) (head1 (Jvm.Cond.code (⟨"com/example/hyra/hyra/LeaseValue", "<init>", "(Ljava/lang/String;JJ)V"⟩ : MethodName) prog_21_method_1_code 6 none :: ws) ({ frames := 2, cells := 0, slots := 0, locals := 24 } : Room)) (fun a U => a = #[(.ref a1), (.ref a2), (.long q3), (.long q4)] ∧ Z.Warmed39 U.vm ∧ U.heap = h0) (fun _ _ _ _ _ => True) (fun _ U o U' => ∃ v L, o = .returned v ∧ Q_rm6 Z a1 a2 q3 q4 u_holder_a1 u_endMillis_a1 u_token_a1 h0 n0 v U'.heap L ∧ FrameEnd U o U' L ({ frames := 2, cells := 0, slots := 0, locals := 24 } : Room).cells ({ frames := 2, cells := 0, slots := 0, locals := 24 } : Room).slots) := by
  refine MetFree.of_bodySF (plainFor_of_name pn_3) hisR ?_
  intro p e s m args below meth c s₁ Bd hml0 hP hK
  obtain ⟨rfl, hZ, hh⟩ := hP
  have hx := Bd.exec
  have hby := Bd.bytes
  have hml : c.maxLocals = 6 := hml0
  have hown : s.vm.findClass "com/example/hyra/hyra/LeaseValue" = some m.cls := findClass_of_methodNamed Bd.named
  have hnm := (name_of_methodNamed Bd.named Bd.method).1
  have X0 : Stand p l e ({ frames := 2, cells := 0, slots := 0, locals := 24 } : Room) s m #[(.ref a1), (.ref a2), (.long q3), (.long q4)] below meth c s₁ [] 0 0 := Stand.of_body Bd
  have e0 : s₁.heap = h0 := by rw [← hh, Bd.state]; rfl
  have N0 := Fr.nil n0
  show Run p e below s 0 0 (Q_rm6 Z a1 a2 q3 q4 u_holder_a1 u_endMillis_a1 u_token_a1 h0 n0) (s₁.setTop (entryFrame m #[(.ref a1), (.ref a2), (.long q3), (.long q4)] 6))
  refine Run.go (fun _ k => castTop (ef_rm6 m a1 a2 q3 q4) k) ?_
  show Run p e below s 0 0 (Q_rm6 Z a1 a2 q3 q4 u_holder_a1 u_endMillis_a1 u_token_a1 h0 n0) (s₁.setTop (mkF m 0 #[.val (.ref a1), .val (.ref a2), .val (.long q3), .second, .val (.long q4), .second] []))
  refine Run.go (fun _ k => XS.aloadN X0.here hx rfl (hb hby d6_0) rfl rfl k) ?_
  show Run p e below s 0 0 (Q_rm6 Z a1 a2 q3 q4 u_holder_a1 u_endMillis_a1 u_token_a1 h0 n0) (s₁.setTop (mkF m 1 #[.val (.ref a1), .val (.ref a2), .val (.long q3), .second, .val (.long q4), .second] [(.ref a1)]))
  obtain ⟨_, _, ⟨T5, L5, k5, n5⟩, -, X5, ⟨Lc5, hQ5, l5, y5, z5⟩, st5⟩ := X0.specialBack hx (y := (⟨"java/lang/Record", "<init>", "()V"⟩ : MethodName)) rfl hown (mvT hZ (hw _ (List.mem_of_getElem? (i := 32) rfl))) (mvT hZ (hw _ (List.mem_of_getElem? (i := 33) rfl))) (mvT hZ (hw _ (List.mem_of_getElem? (i := 36) rfl))) (by decide) (backOf (W := 0) (rm7 l Z a0 hw [] a1 h0 n0 Z0 ) hZ (hw _ (List.mem_of_getElem? (i := 36) rfl)) (hw _ (List.mem_of_getElem? (i := 35) rfl)) (by decide) (by decide)) (g := (mkF m 1 #[.val (.ref a1), .val (.ref a2), .val (.long q3), .second, .val (.long q4), .second] [(.ref a1)])) rfl (by rw [hml]; rfl) (Steps.refl _) (a := a1) (argsL := []) (rest := []) (lenOf pd_3 rfl) rfl (by show 2 * 0 + _ ≤ _; exact Nat.le_of_eq rfl) (hb hby d6_1) (fun _ _ => ⟨rfl, e0, (by decide : 0 + 0 ≤ _), (by decide : 0 + 0 ≤ _)⟩)
  dsimp only [Pt.U, Pt.locs, Pt.cells, Pt.slots] at X5 l5 y5 z5 st5 hQ5
  subst l5 y5 z5
  obtain ⟨rfl, N5q, e5q⟩ := hQ5
  have N5 := Fr.app N0 N5q
  refine Run.tr st5 ?_
  show Run p e below s 0 0 (Q_rm6 Z a1 a2 q3 q4 u_holder_a1 u_endMillis_a1 u_token_a1 h0 n0) (T5.setTop (mkF m 4 #[.val (.ref a1), .val (.ref a2), .val (.long q3), .second, .val (.long q4), .second] []))
  refine Run.go (fun _ k => XS.aloadN X5.here hx rfl (hb hby d6_4) rfl rfl k) ?_
  show Run p e below s 0 0 (Q_rm6 Z a1 a2 q3 q4 u_holder_a1 u_endMillis_a1 u_token_a1 h0 n0) (T5.setTop (mkF m 5 #[.val (.ref a1), .val (.ref a2), .val (.long q3), .second, .val (.long q4), .second] [(.ref a1)]))
  refine Run.go (fun _ k => XS.aloadN X5.here hx rfl (hb hby d6_5) rfl rfl k) ?_
  show Run p e below s 0 0 (Q_rm6 Z a1 a2 q3 q4 u_holder_a1 u_endMillis_a1 u_token_a1 h0 n0) (T5.setTop (mkF m 6 #[.val (.ref a1), .val (.ref a2), .val (.long q3), .second, .val (.long q4), .second] [(.ref a2), (.ref a1)]))
  obtain ⟨T6, h6, X6, e6, W6, st6⟩ := putF X5 hx hZ hown (host := "") (Or.inl (hw _ (List.mem_of_getElem? (i := 38) rfl))) Via.refl e5q F_holder_a1 E_a1 (Or.inr ⟨(hw _ (List.mem_of_getElem? (i := 39) rfl)), rfl, hnm⟩) (hw _ (List.mem_of_getElem? (i := 27) rfl)) (ty := (.object "java/lang/String")) (by decide) rfl rfl (g := (mkF m 6 #[.val (.ref a1), .val (.ref a2), .val (.long q3), .second, .val (.long q4), .second] [(.ref a2), (.ref a1)])) rfl rfl (hb hby d6_6)
  have N6 := Fr.snoc X6 N5 g_a1
  have Z6 : n0 ≤ h6.size := Nat.le_trans Z0 (Keep.of_wr W6).1
  have K6 : Keep h0 h6 [a1] := (Keep.refl h0 [a1]).wr W6 (Or.inl (List.mem_of_getElem? (i := 0) rfl))
  have fx7 := F_holder_a1.same W6
  refine Run.go st6 ?_
  show Run p e below s 0 0 (Q_rm6 Z a1 a2 q3 q4 u_holder_a1 u_endMillis_a1 u_token_a1 h0 n0) (T6.setTop (mkF m 9 #[.val (.ref a1), .val (.ref a2), .val (.long q3), .second, .val (.long q4), .second] []))
  refine Run.go (fun _ k => XS.aloadN X6.here hx rfl (hb hby d6_9) rfl rfl k) ?_
  show Run p e below s 0 0 (Q_rm6 Z a1 a2 q3 q4 u_holder_a1 u_endMillis_a1 u_token_a1 h0 n0) (T6.setTop (mkF m 10 #[.val (.ref a1), .val (.ref a2), .val (.long q3), .second, .val (.long q4), .second] [(.ref a1)]))
  refine Run.go (fun _ k => XS.lloadN X6.here hx rfl (hb hby d6_10) rfl  k) ?_
  show Run p e below s 0 0 (Q_rm6 Z a1 a2 q3 q4 u_holder_a1 u_endMillis_a1 u_token_a1 h0 n0) (T6.setTop (mkF m 11 #[.val (.ref a1), .val (.ref a2), .val (.long q3), .second, .val (.long q4), .second] [(.long q3), (.ref a1)]))
  have fx8 := (E_a1.wr W6)
  have fx9 := (F_endMillis_a1.other W6 (Or.inr (slot_ne (Or.inr (hw _ (List.mem_of_getElem? (i := 41) rfl))) (Or.inr (hw _ (List.mem_of_getElem? (i := 39) rfl))) (by decide) (t := .long) (t' := (.object "java/lang/String")) (by decide) (by decide))))
  obtain ⟨T10, h10, X10, e10, W10, st10⟩ := putF X6 hx hZ hown (host := "") (Or.inl (hw _ (List.mem_of_getElem? (i := 40) rfl))) Via.refl e6 fx9 fx8 (Or.inr ⟨(hw _ (List.mem_of_getElem? (i := 41) rfl)), rfl, hnm⟩) (hw _ (List.mem_of_getElem? (i := 27) rfl)) (ty := .long) (by decide) rfl rfl (g := (mkF m 11 #[.val (.ref a1), .val (.ref a2), .val (.long q3), .second, .val (.long q4), .second] [(.long q3), (.ref a1)])) rfl rfl (hb hby d6_11)
  have N10 := Fr.snoc X10 N6 g_a1
  have Z10 : n0 ≤ h10.size := Nat.le_trans Z6 (Keep.of_wr W10).1
  have K10 : Keep h0 h10 [a1] := K6.wr W10 (Or.inl (List.mem_of_getElem? (i := 0) rfl))
  have fx11 := fx9.same W10
  refine Run.go st10 ?_
  show Run p e below s 0 0 (Q_rm6 Z a1 a2 q3 q4 u_holder_a1 u_endMillis_a1 u_token_a1 h0 n0) (T10.setTop (mkF m 14 #[.val (.ref a1), .val (.ref a2), .val (.long q3), .second, .val (.long q4), .second] []))
  refine Run.go (fun _ k => XS.aloadN X10.here hx rfl (hb hby d6_14) rfl rfl k) ?_
  show Run p e below s 0 0 (Q_rm6 Z a1 a2 q3 q4 u_holder_a1 u_endMillis_a1 u_token_a1 h0 n0) (T10.setTop (mkF m 15 #[.val (.ref a1), .val (.ref a2), .val (.long q3), .second, .val (.long q4), .second] [(.ref a1)]))
  refine Run.go (fun _ k => XS.lload X10.here hx rfl (hb hby d6_15) rfl  k) ?_
  show Run p e below s 0 0 (Q_rm6 Z a1 a2 q3 q4 u_holder_a1 u_endMillis_a1 u_token_a1 h0 n0) (T10.setTop (mkF m 17 #[.val (.ref a1), .val (.ref a2), .val (.long q3), .second, .val (.long q4), .second] [(.long q4), (.ref a1)]))
  have fx12 := (fx8.wr W10)
  have fx13 := ((F_token_a1.other W6 (Or.inr (slot_ne (Or.inr (hw _ (List.mem_of_getElem? (i := 43) rfl))) (Or.inr (hw _ (List.mem_of_getElem? (i := 39) rfl))) (by decide) (t := .long) (t' := (.object "java/lang/String")) (by decide) (by decide)))).other W10 (Or.inr (slot_ne (Or.inr (hw _ (List.mem_of_getElem? (i := 43) rfl))) (Or.inr (hw _ (List.mem_of_getElem? (i := 41) rfl))) (by decide) (t := .long) (t' := .long) (by decide) (by decide))))
  obtain ⟨T14, h14, X14, e14, W14, st14⟩ := putF X10 hx hZ hown (host := "") (Or.inl (hw _ (List.mem_of_getElem? (i := 42) rfl))) Via.refl e10 fx13 fx12 (Or.inr ⟨(hw _ (List.mem_of_getElem? (i := 43) rfl)), rfl, hnm⟩) (hw _ (List.mem_of_getElem? (i := 27) rfl)) (ty := .long) (by decide) rfl rfl (g := (mkF m 17 #[.val (.ref a1), .val (.ref a2), .val (.long q3), .second, .val (.long q4), .second] [(.long q4), (.ref a1)])) rfl rfl (hb hby d6_17)
  have N14 := Fr.snoc X14 N10 g_a1
  have Z14 : n0 ≤ h14.size := Nat.le_trans Z10 (Keep.of_wr W14).1
  have K14 : Keep h0 h14 [a1] := K10.wr W14 (Or.inl (List.mem_of_getElem? (i := 0) rfl))
  have fx15 := fx13.same W14
  refine Run.go st14 ?_
  show Run p e below s 0 0 (Q_rm6 Z a1 a2 q3 q4 u_holder_a1 u_endMillis_a1 u_token_a1 h0 n0) (T14.setTop (mkF m 20 #[.val (.ref a1), .val (.ref a2), .val (.long q3), .second, .val (.long q4), .second] []))
  refine Run.ret0 X14 hx Bd.returns Bd.notSynchronized (hb hby d6_20) (by decide) (by decide) ?_
  show Q_rm6 Z a1 a2 q3 q4 u_holder_a1 u_endMillis_a1 u_token_a1 h0 n0 _ T14.heap _
  have fx16 := (fx12.wr W14)
  have fx17 := ((fx7.other W10 (Or.inr (slot_ne (Or.inr (hw _ (List.mem_of_getElem? (i := 39) rfl))) (Or.inr (hw _ (List.mem_of_getElem? (i := 41) rfl))) (by decide) (t := (.object "java/lang/String")) (t' := .long) (by decide) (by decide)))).other W14 (Or.inr (slot_ne (Or.inr (hw _ (List.mem_of_getElem? (i := 39) rfl))) (Or.inr (hw _ (List.mem_of_getElem? (i := 43) rfl))) (by decide) (t := (.object "java/lang/String")) (t' := .long) (by decide) (by decide))))
  have fx18 := (fx11.other W14 (Or.inr (slot_ne (Or.inr (hw _ (List.mem_of_getElem? (i := 41) rfl))) (Or.inr (hw _ (List.mem_of_getElem? (i := 43) rfl))) (by decide) (t := .long) (t' := .long) (by decide) (by decide))))
  rw [e14]
  exact ⟨rfl, N14, K14, fx16, fx17, fx18, fx15⟩
theorem d8_0 : decode prog_21_method_2_code 0 = .ok (.new 8, 3) := by decide +kernel
theorem d8_3 : decode prog_21_method_2_code 3 = .ok (.dup, 1) := by decide +kernel
theorem d8_4 : decode prog_21_method_2_code 4 = .ok (.aload_n 0, 1) := by decide +kernel
theorem d8_5 : decode prog_21_method_2_code 5 = .ok (.ldc2_w 22, 3) := by decide +kernel
theorem d8_8 : decode prog_21_method_2_code 8 = .ok (.lload_n 1, 1) := by decide +kernel
theorem d8_9 : decode prog_21_method_2_code 9 = .ok (.invokespecial 24, 3) := by decide +kernel
theorem pd_4 : parseMethodDescriptor "(Ljava/lang/String;JJ)V" = some ⟨[(.object "java/lang/String"), .long, .long], none⟩ := by decide +kernel
theorem d8_12 : decode prog_21_method_2_code 12 = .ok (.areturn, 1) := by decide +kernel
def Q_rm8 (Z : State) (a1 : Addr) (q2 : Int64) (h0 : Heap) (n0 : Nat) (v : Option Value) (h : Heap) (L : List Loc) : Prop := ∃ (b3 : Addr), v = some (.ref b3) ∧ Fr n0 L ∧ Keep h0 h [] ∧ h0.size ≤ b3 ∧ Exa Z h b3 "com/example/hyra/hyra/LeaseValue" ∧ Fld Z h b3 "com/example/hyra/hyra/LeaseValue" "holder" "Ljava/lang/String;" (.ref a1) ∧ Fld Z h b3 "com/example/hyra/hyra/LeaseValue" "endMillis" "J" (.long (-9223372036854775808 : Int64)) ∧ Fld Z h b3 "com/example/hyra/hyra/LeaseValue" "token" "J" (.long q2)
theorem ef_rm8 (m : MethodId) (x0 : Addr) (x1 : Int64) : entryFrame m #[(.ref x0), (.long x1)] 3 = mkF m 0 #[.val (.ref x0), .val (.long x1), .second] [] := by first | (simp [entryFrame, mkF, argsToLocals, Value.category]; done) | rfl
set_option maxRecDepth 65536 in
set_option maxHeartbeats 40000000 in
theorem rm8 (l : Launch) (Z : State) (a0 : Array Value) (hw : ∀ d ∈ tables_1, d.before a0 Z = true) (ws : List Jvm.Cond) (a1 : Addr) (q2 : Int64) (h0 : Heap) (n0 : Nat) (Z0 : n0 ≤ h0.size)  :
    MetFree l (⟨"com/example/hyra/hyra/LeaseValue", "released", "(Ljava/lang/String;J)Lcom/example/hyra/hyra/LeaseValue;"⟩ : MethodName) (head1 (Jvm.Cond.code (⟨"com/example/hyra/hyra/LeaseValue", "released", "(Ljava/lang/String;J)Lcom/example/hyra/hyra/LeaseValue;"⟩ : MethodName) prog_21_method_2_code 3 (some (.object "com/example/hyra/hyra/LeaseValue")) :: ws) ({ frames := 3, cells := 1, slots := 3, locals := 42 } : Room)) (fun a U => a = #[(.ref a1), (.long q2)] ∧ Z.Warmed39 U.vm ∧ U.heap = h0) (fun _ _ _ _ _ => True) (fun _ U o U' => ∃ v L, o = .returned v ∧ Q_rm8 Z a1 q2 h0 n0 v U'.heap L ∧ FrameEnd U o U' L ({ frames := 3, cells := 1, slots := 3, locals := 42 } : Room).cells ({ frames := 3, cells := 1, slots := 3, locals := 42 } : Room).slots) := by
  refine MetFree.of_bodySF (plainFor_of_name pn_3) hisR ?_
  intro p e s m args below meth c s₁ Bd hml0 hP hK
  obtain ⟨rfl, hZ, hh⟩ := hP
  have hx := Bd.exec
  have hby := Bd.bytes
  have hml : c.maxLocals = 3 := hml0
  have hown : s.vm.findClass "com/example/hyra/hyra/LeaseValue" = some m.cls := findClass_of_methodNamed Bd.named
  have hnm := (name_of_methodNamed Bd.named Bd.method).1
  have X0 : Stand p l e ({ frames := 3, cells := 1, slots := 3, locals := 42 } : Room) s m #[(.ref a1), (.long q2)] below meth c s₁ [] 0 0 := Stand.of_body Bd
  have e0 : s₁.heap = h0 := by rw [← hh, Bd.state]; rfl
  have N0 := Fr.nil n0
  show Run p e below s 1 3 (Q_rm8 Z a1 q2 h0 n0) (s₁.setTop (entryFrame m #[(.ref a1), (.long q2)] 3))
  refine Run.go (fun _ k => castTop (ef_rm8 m a1 q2) k) ?_
  show Run p e below s 1 3 (Q_rm8 Z a1 q2 h0 n0) (s₁.setTop (mkF m 0 #[.val (.ref a1), .val (.long q2), .second] []))
  obtain ⟨T3, h3, X3, e3, E3, A3, D3, -, st3⟩ := newO X0 hx hZ hown (hw _ (List.mem_of_getElem? (i := 47) rfl)) (hw _ (List.mem_of_getElem? (i := 27) rfl)) (hw _ (List.mem_of_getElem? (i := 28) rfl)) e0 (g := (mkF m 0 #[.val (.ref a1), .val (.long q2), .second] [])) rfl (hb hby d8_0) (by decide) (by decide)
  obtain ⟨b3, g3⟩ : ∃ z, z = h0.size := ⟨_, rfl⟩
  rw [← g3] at A3 D3 st3
  have g_b3 : n0 ≤ b3 := Nat.le_trans Z0 (Nat.le_of_eq g3.symm)
  have sz_b3 : h0.size ≤ b3 := Nat.le_trans (Keep.refl h0 []).1 (Nat.le_of_eq g3.symm)
  have Z3 : n0 ≤ h3.size := Nat.le_trans Z0 E3.1
  have K3 : Keep h0 h3 [] := (Keep.refl h0 []).ext E3
  have fx4 : Fld Z h3 b3 "com/example/hyra/hyra/LeaseValue" "holder" "Ljava/lang/String;" .null := D3 (Or.inr (hw _ (List.mem_of_getElem? (i := 39) rfl))) (ty := (.object "java/lang/String")) (by decide)
  have fx5 : Fld Z h3 b3 "com/example/hyra/hyra/LeaseValue" "endMillis" "J" (.long (0 : Int64)) := D3 (Or.inr (hw _ (List.mem_of_getElem? (i := 41) rfl))) (ty := .long) (by decide)
  have fx6 : Fld Z h3 b3 "com/example/hyra/hyra/LeaseValue" "token" "J" (.long (0 : Int64)) := D3 (Or.inr (hw _ (List.mem_of_getElem? (i := 43) rfl))) (ty := .long) (by decide)
  refine Run.go st3 ?_
  show Run p e below s 1 3 (Q_rm8 Z a1 q2 h0 n0) (T3.setTop (mkF m 3 #[.val (.ref a1), .val (.long q2), .second] [(.ref b3)]))
  refine Run.go (fun _ k => XS.dup X3.here hx rfl (hb hby d8_3) rfl rfl k) ?_
  show Run p e below s 1 3 (Q_rm8 Z a1 q2 h0 n0) (T3.setTop (mkF m 4 #[.val (.ref a1), .val (.long q2), .second] [(.ref b3), (.ref b3)]))
  refine Run.go (fun _ k => XS.aloadN X3.here hx rfl (hb hby d8_4) rfl rfl k) ?_
  show Run p e below s 1 3 (Q_rm8 Z a1 q2 h0 n0) (T3.setTop (mkF m 5 #[.val (.ref a1), .val (.long q2), .second] [(.ref a1), (.ref b3), (.ref b3)]))
  refine Run.go (fun _ k => X3.ldc2Long hx hown (mvT hZ (hw _ (List.mem_of_getElem? (i := 48) rfl))) (g := (mkF m 5 #[.val (.ref a1), .val (.long q2), .second] [(.ref a1), (.ref b3), (.ref b3)])) rfl (hb hby d8_5) _ k) ?_
  show Run p e below s 1 3 (Q_rm8 Z a1 q2 h0 n0) (T3.setTop (mkF m 8 #[.val (.ref a1), .val (.long q2), .second] [(.long (-9223372036854775808 : Int64)), (.ref a1), (.ref b3), (.ref b3)]))
  refine Run.go (fun _ k => XS.lloadN X3.here hx rfl (hb hby d8_8) rfl  k) ?_
  show Run p e below s 1 3 (Q_rm8 Z a1 q2 h0 n0) (T3.setTop (mkF m 9 #[.val (.ref a1), .val (.long q2), .second] [(.long q2), (.long (-9223372036854775808 : Int64)), (.ref a1), (.ref b3), (.ref b3)]))
  obtain ⟨_, _, ⟨T7, L7, k7, n7⟩, -, X7, ⟨Lc7, hQ7, l7, y7, z7⟩, st7⟩ := X3.specialBack hx (y := (⟨"com/example/hyra/hyra/LeaseValue", "<init>", "(Ljava/lang/String;JJ)V"⟩ : MethodName)) rfl hown (mvT hZ (hw _ (List.mem_of_getElem? (i := 49) rfl))) (mvT hZ (hw _ (List.mem_of_getElem? (i := 30) rfl))) (mvT hZ (hw _ (List.mem_of_getElem? (i := 31) rfl))) (by decide) (backOf (W := 1) (rm6 l Z a0 hw [] b3 a1 (-9223372036854775808 : Int64) q2 .null (.long (0 : Int64)) (.long (0 : Int64)) h3 n0 Z3 A3 fx4 g_b3 fx5 fx6) hZ (hw _ (List.mem_of_getElem? (i := 31) rfl)) (hw _ (List.mem_of_getElem? (i := 28) rfl)) (by decide) (by decide)) (g := (mkF m 9 #[.val (.ref a1), .val (.long q2), .second] [(.long q2), (.long (-9223372036854775808 : Int64)), (.ref a1), (.ref b3), (.ref b3)])) rfl (by rw [hml]; rfl) (Steps.refl _) (a := b3) (argsL := [(.ref a1), (.long (-9223372036854775808 : Int64)), (.long q2)]) (rest := [(.ref b3)]) (lenOf pd_4 rfl) rfl (by show 2 * 0 + _ ≤ _; exact Nat.le_of_eq rfl) (hb hby d8_9) (fun _ _ => ⟨rfl, e3, (by decide : 1 + 0 ≤ _), (by decide : 3 + 0 ≤ _)⟩)
  dsimp only [Pt.U, Pt.locs, Pt.cells, Pt.slots] at X7 l7 y7 z7 st7 hQ7
  subst l7 y7 z7
  obtain ⟨rfl, N7q, K7q, fq7_0, fq7_1, fq7_2, fq7_3⟩ := hQ7
  have N7 := Fr.app N0 N7q
  have K7 : Keep h0 T7.heap [] := K3.trans K7q (allS (Or.inr sz_b3) all0)
  have Z7 : n0 ≤ T7.heap.size := Nat.le_trans Z3 K7q.1
  refine Run.tr st7 ?_
  show Run p e below s 1 3 (Q_rm8 Z a1 q2 h0 n0) (T7.setTop (mkF m 12 #[.val (.ref a1), .val (.long q2), .second] [(.ref b3)]))
  refine Run.retA X7 hx rfl Bd.returns rfl Bd.notSynchronized (hb hby d8_12) (by decide) (by decide) ?_
  show Q_rm8 Z a1 q2 h0 n0 _ T7.heap _
  exact ⟨b3, rfl, N7, K7, sz_b3, fq7_0, fq7_1, fq7_2, fq7_3⟩
theorem d9_0 : decode prog_21_method_3_code 0 = .ok (.aload_n 0, 1) := by decide +kernel
theorem d9_1 : decode prog_21_method_3_code 1 = .ok (.ifnull 12, 3) := by decide +kernel
theorem d9_13 : decode prog_21_method_3_code 13 = .ok (.iconst 1, 1) := by decide +kernel
theorem d9_14 : decode prog_21_method_3_code 14 = .ok (.goto 4, 3) := by decide +kernel
theorem d9_18 : decode prog_21_method_3_code 18 = .ok (.ireturn, 1) := by decide +kernel
def Q_rm9n (Z : State) (q1 : Int64) (h0 : Heap) (n0 : Nat) (v : Option Value) (h : Heap) (L : List Loc) : Prop := v = some (.int (1 : Int32)) ∧ Fr n0 L ∧ h = h0
theorem ef_rm9n (m : MethodId) (x1 : Int64) : entryFrame m #[.null, (.long x1)] 3 = mkF m 0 #[.val .null, .val (.long x1), .second] [] := by first | (simp [entryFrame, mkF, argsToLocals, Value.category]; done) | rfl
set_option maxRecDepth 65536 in
set_option maxHeartbeats 40000000 in
theorem rm9n (l : Launch) (Z : State) (a0 : Array Value) (hw : ∀ d ∈ tables_1, d.before a0 Z = true) (ws : List Jvm.Cond) (q1 : Int64) (h0 : Heap) (n0 : Nat) (Z0 : n0 ≤ h0.size)  :
    MetFree l (⟨"com/example/hyra/hyra/LeaseValue", "endedBefore", "(Lcom/example/hyra/hyra/LeaseValue;J)Z"⟩ : MethodName) (head1 (Jvm.Cond.code (⟨"com/example/hyra/hyra/LeaseValue", "endedBefore", "(Lcom/example/hyra/hyra/LeaseValue;J)Z"⟩ : MethodName) prog_21_method_3_code 3 (some .boolean) :: ws) ({ frames := 0, cells := 0, slots := 0, locals := 0 } : Room)) (fun a U => a = #[.null, (.long q1)] ∧ Z.Warmed39 U.vm ∧ U.heap = h0) (fun _ _ _ _ _ => True) (fun _ U o U' => ∃ v L, o = .returned v ∧ Q_rm9n Z q1 h0 n0 v U'.heap L ∧ FrameEnd U o U' L ({ frames := 0, cells := 0, slots := 0, locals := 0 } : Room).cells ({ frames := 0, cells := 0, slots := 0, locals := 0 } : Room).slots) := by
  refine MetFree.of_bodySF (plainFor_of_name pn_3) hisR ?_
  intro p e s m args below meth c s₁ Bd hml0 hP hK
  obtain ⟨rfl, hZ, hh⟩ := hP
  have hx := Bd.exec
  have hby := Bd.bytes
  have hml : c.maxLocals = 3 := hml0
  have hown : s.vm.findClass "com/example/hyra/hyra/LeaseValue" = some m.cls := findClass_of_methodNamed Bd.named
  have hnm := (name_of_methodNamed Bd.named Bd.method).1
  have X0 : Stand p l e ({ frames := 0, cells := 0, slots := 0, locals := 0 } : Room) s m #[.null, (.long q1)] below meth c s₁ [] 0 0 := Stand.of_body Bd
  have e0 : s₁.heap = h0 := by rw [← hh, Bd.state]; rfl
  have N0 := Fr.nil n0
  show Run p e below s 0 0 (Q_rm9n Z q1 h0 n0) (s₁.setTop (entryFrame m #[.null, (.long q1)] 3))
  refine Run.go (fun _ k => castTop (ef_rm9n m q1) k) ?_
  show Run p e below s 0 0 (Q_rm9n Z q1 h0 n0) (s₁.setTop (mkF m 0 #[.val .null, .val (.long q1), .second] []))
  refine Run.go (fun _ k => XS.aloadN X0.here hx rfl (hb hby d9_0) rfl rfl k) ?_
  show Run p e below s 0 0 (Q_rm9n Z q1 h0 n0) (s₁.setTop (mkF m 1 #[.val .null, .val (.long q1), .second] [.null]))
  refine Run.go (fun _ k => XS.ifnullYes X0.here hx rfl (pc0 := 1) (pc' := 13) rfl (hb hby d9_1) rfl (by decide) (by decide) k) ?_
  show Run p e below s 0 0 (Q_rm9n Z q1 h0 n0) (s₁.setTop (mkF m 13 #[.val .null, .val (.long q1), .second] []))
  refine Run.go (fun _ k => XS.iconst X0.here hx rfl (hb hby d9_13) k) ?_
  show Run p e below s 0 0 (Q_rm9n Z q1 h0 n0) (s₁.setTop (mkF m 14 #[.val .null, .val (.long q1), .second] [(.int (1 : Int32))]))
  refine Run.go (fun _ k => XS.goto X0.here hx rfl (pc0 := 14) (pc' := 18) rfl (hb hby d9_14) (by decide) (by decide) k) ?_
  show Run p e below s 0 0 (Q_rm9n Z q1 h0 n0) (s₁.setTop (mkF m 18 #[.val .null, .val (.long q1), .second] [(.int (1 : Int32))]))
  refine Run.retN (y := (1 : Int32)) X0 hx (t := .boolean) Bd.returns (by simp) rfl Bd.notSynchronized (hb hby d9_18) (by decide) (by decide) ?_
  show Q_rm9n Z q1 h0 n0 _ s₁.heap _
  exact ⟨rfl, N0, e0⟩
theorem d9_4 : decode prog_21_method_3_code 4 = .ok (.aload_n 0, 1) := by decide +kernel
theorem d9_5 : decode prog_21_method_3_code 5 = .ok (.getfield 13, 3) := by decide +kernel
theorem d9_8 : decode prog_21_method_3_code 8 = .ok (.lload_n 1, 1) := by decide +kernel
theorem d9_9 : decode prog_21_method_3_code 9 = .ok (.lcmp, 1) := by decide +kernel
theorem d9_10 : decode prog_21_method_3_code 10 = .ok (.ifCond .ge 7, 3) := by decide +kernel
theorem d9_17 : decode prog_21_method_3_code 17 = .ok (.iconst 0, 1) := by decide +kernel
def F_rm9 (q2 : Int64) (w3 : Int64) : Int32 := let w6 : Int32 := (if (w3 < q2) then (1 : Int32) else 0); w6
def Q_rm9 (Z : State) (a1 : Addr) (q2 : Int64) (w3 : Int64) (h0 : Heap) (n0 : Nat) (v : Option Value) (h : Heap) (L : List Loc) : Prop := v = some (.int (F_rm9 q2 w3)) ∧ Fr n0 L ∧ h = h0
theorem ef_rm9 (m : MethodId) (x0 : Addr) (x1 : Int64) : entryFrame m #[(.ref x0), (.long x1)] 3 = mkF m 0 #[.val (.ref x0), .val (.long x1), .second] [] := by first | (simp [entryFrame, mkF, argsToLocals, Value.category]; done) | rfl
set_option maxRecDepth 65536 in
set_option maxHeartbeats 40000000 in
theorem rm9 (l : Launch) (Z : State) (a0 : Array Value) (hw : ∀ d ∈ tables_1, d.before a0 Z = true) (ws : List Jvm.Cond) (a1 : Addr) (q2 : Int64) (w3 : Int64) (h0 : Heap) (n0 : Nat) (Z0 : n0 ≤ h0.size) (F_endMillis_a1 : Fld Z h0 a1 "com/example/hyra/hyra/LeaseValue" "endMillis" "J" (.long w3)) :
    MetFree l (⟨"com/example/hyra/hyra/LeaseValue", "endedBefore", "(Lcom/example/hyra/hyra/LeaseValue;J)Z"⟩ : MethodName) (head1 (Jvm.Cond.code (⟨"com/example/hyra/hyra/LeaseValue", "endedBefore", "(Lcom/example/hyra/hyra/LeaseValue;J)Z"⟩ : MethodName) prog_21_method_3_code 3 (some .boolean) :: ws) ({ frames := 0, cells := 0, slots := 0, locals := 0 } : Room)) (fun a U => a = #[(.ref a1), (.long q2)] ∧ Z.Warmed39 U.vm ∧ U.heap = h0) (fun _ _ _ _ _ => True) (fun _ U o U' => ∃ v L, o = .returned v ∧ Q_rm9 Z a1 q2 w3 h0 n0 v U'.heap L ∧ FrameEnd U o U' L ({ frames := 0, cells := 0, slots := 0, locals := 0 } : Room).cells ({ frames := 0, cells := 0, slots := 0, locals := 0 } : Room).slots) := by
  refine MetFree.of_bodySF (plainFor_of_name pn_3) hisR ?_
  intro p e s m args below meth c s₁ Bd hml0 hP hK
  obtain ⟨rfl, hZ, hh⟩ := hP
  have hx := Bd.exec
  have hby := Bd.bytes
  have hml : c.maxLocals = 3 := hml0
  have hown : s.vm.findClass "com/example/hyra/hyra/LeaseValue" = some m.cls := findClass_of_methodNamed Bd.named
  have hnm := (name_of_methodNamed Bd.named Bd.method).1
  have X0 : Stand p l e ({ frames := 0, cells := 0, slots := 0, locals := 0 } : Room) s m #[(.ref a1), (.long q2)] below meth c s₁ [] 0 0 := Stand.of_body Bd
  have e0 : s₁.heap = h0 := by rw [← hh, Bd.state]; rfl
  have N0 := Fr.nil n0
  show Run p e below s 0 0 (Q_rm9 Z a1 q2 w3 h0 n0) (s₁.setTop (entryFrame m #[(.ref a1), (.long q2)] 3))
  refine Run.go (fun _ k => castTop (ef_rm9 m a1 q2) k) ?_
  show Run p e below s 0 0 (Q_rm9 Z a1 q2 w3 h0 n0) (s₁.setTop (mkF m 0 #[.val (.ref a1), .val (.long q2), .second] []))
  refine Run.go (fun _ k => XS.aloadN X0.here hx rfl (hb hby d9_0) rfl rfl k) ?_
  show Run p e below s 0 0 (Q_rm9 Z a1 q2 w3 h0 n0) (s₁.setTop (mkF m 1 #[.val (.ref a1), .val (.long q2), .second] [(.ref a1)]))
  refine Run.go (fun _ k => XS.ifnullNo X0.here hx rfl (hb hby d9_1) rfl k) ?_
  show Run p e below s 0 0 (Q_rm9 Z a1 q2 w3 h0 n0) (s₁.setTop (mkF m 4 #[.val (.ref a1), .val (.long q2), .second] []))
  refine Run.go (fun _ k => XS.aloadN X0.here hx rfl (hb hby d9_4) rfl rfl k) ?_
  show Run p e below s 0 0 (Q_rm9 Z a1 q2 w3 h0 n0) (s₁.setTop (mkF m 5 #[.val (.ref a1), .val (.long q2), .second] [(.ref a1)]))
  obtain ⟨T4, X4, e4, st4⟩ := getF X0 hx hZ hown (host := "") (Or.inl (hw _ (List.mem_of_getElem? (i := 40) rfl))) Via.refl e0 F_endMillis_a1 (g := (mkF m 5 #[.val (.ref a1), .val (.long q2), .second] [(.ref a1)])) rfl rfl (hb hby d9_5)
  refine Run.go st4 ?_
  show Run p e below s 0 0 (Q_rm9 Z a1 q2 w3 h0 n0) (T4.setTop (mkF m 8 #[.val (.ref a1), .val (.long q2), .second] [(.long w3)]))
  refine Run.go (fun _ k => XS.lloadN X4.here hx rfl (hb hby d9_8) rfl  k) ?_
  show Run p e below s 0 0 (Q_rm9 Z a1 q2 w3 h0 n0) (T4.setTop (mkF m 9 #[.val (.ref a1), .val (.long q2), .second] [(.long q2), (.long w3)]))
  refine Run.go (fun _ k => XS.lcmp X4.here hx rfl (hb hby d9_9) rfl k) ?_
  show Run p e below s 0 0 (Q_rm9 Z a1 q2 w3 h0 n0) (T4.setTop (mkF m 10 #[.val (.ref a1), .val (.long q2), .second] [(.int (lcmpW w3 q2))]))
  have J5 : ∀ (w6 : Int32) (hw6 : w6 = (if (w3 < q2) then (1 : Int32) else 0)) (T7 : State) (L7 : List Loc) (X7 : Stand p l e ({ frames := 0, cells := 0, slots := 0, locals := 0 } : Room) s m #[(.ref a1), (.long q2)] below meth c T7 L7 0 0) (e7 : T7.heap = h0) (N7 : Fr n0 L7), Run p e below s 0 0 (Q_rm9 Z a1 q2 w3 h0 n0) (T7.setTop (mkF m 18 #[.val (.ref a1), .val (.long q2), .second] [(.int w6)])) := by
    intro w6 hw6 T7 L7 X7 e7 N7
    show Run p e below s 0 0 (Q_rm9 Z a1 q2 w3 h0 n0) (T7.setTop (mkF m 18 #[.val (.ref a1), .val (.long q2), .second] [(.int w6)]))
    refine Run.retN (y := w6) X7 hx (t := .boolean) Bd.returns (by simp) (by rw [hw6]; exact nar_ite _) Bd.notSynchronized (hb hby d9_18) (by decide) (by decide) ?_
    show Q_rm9 Z a1 q2 w3 h0 n0 _ T7.heap _
    exact ⟨congrArg some (congrArg Value.int (show w6 = (F_rm9 q2 w3) from (by subst hw6; unfold F_rm9; rfl))), N7, e7⟩
  by_cases hc8 : (w3 < q2)
  · refine Run.go (fun _ k => XS.ifNo X4.here hx rfl (hb hby d9_10) rfl ((if0 _ _).trans (tlt ((lw_lt w3 q2).mpr hc8)).2.1) k) ?_
    show Run p e below s 0 0 (Q_rm9 Z a1 q2 w3 h0 n0) (T4.setTop (mkF m 13 #[.val (.ref a1), .val (.long q2), .second] []))
    refine Run.go (fun _ k => XS.iconst X4.here hx rfl (hb hby d9_13) k) ?_
    show Run p e below s 0 0 (Q_rm9 Z a1 q2 w3 h0 n0) (T4.setTop (mkF m 14 #[.val (.ref a1), .val (.long q2), .second] [(.int (1 : Int32))]))
    refine Run.go (fun _ k => XS.goto X4.here hx rfl (pc0 := 14) (pc' := 18) rfl (hb hby d9_14) (by decide) (by decide) k) ?_
    show Run p e below s 0 0 (Q_rm9 Z a1 q2 w3 h0 n0) (T4.setTop (mkF m 18 #[.val (.ref a1), .val (.long q2), .second] [(.int (1 : Int32))]))
    exact J5 _ (if_pos hc8).symm _ _ X4 e4 N0
  · refine Run.go (fun _ k => XS.ifYes X4.here hx rfl (pc0 := 10) (pc' := 17) rfl (hb hby d9_10) rfl ((if0 _ _).trans (flt (mt (lw_lt w3 q2).mp hc8)).2.1) (by decide) (by decide) k) ?_
    show Run p e below s 0 0 (Q_rm9 Z a1 q2 w3 h0 n0) (T4.setTop (mkF m 17 #[.val (.ref a1), .val (.long q2), .second] []))
    refine Run.go (fun _ k => XS.iconst X4.here hx rfl (hb hby d9_17) k) ?_
    show Run p e below s 0 0 (Q_rm9 Z a1 q2 w3 h0 n0) (T4.setTop (mkF m 18 #[.val (.ref a1), .val (.long q2), .second] [(.int (0 : Int32))]))
    exact J5 _ (if_neg hc8).symm _ _ X4 e4 N0
theorem own_ch (x : Int32) : ¬ ((255 : Int32) < ((x &&& (255 : Int32)).toUInt32.toUInt16.toUInt32.toInt32)) := by
  rw [i2c_mask, Int32.lt_iff_toInt_lt]
  have h := c_and x 255 (by decide)
  have e : (255 : Int32).toInt = 255 := rfl
  omega
theorem own_after (e : Int64) (h : ¬ (e = (9223372036854775807 : Int64))) : ¬ (F_rm9 (e + (1 : Int64)) e = 0) := by
  have q : e < e + (1 : Int64) := by
    rw [← Int64.toInt_inj] at h
    rw [Int64.lt_iff_toInt_lt]
    have := c_ladd e 1
    have := rng64 e
    have := rng64 (e + 1)
    have e1 : (1 : Int64).toInt = 1 := rfl
    have e2 : (9223372036854775807 : Int64).toInt = 9223372036854775807 := rfl
    omega
  simp [F_rm9, q]
theorem own_at (e : Int64) : F_rm9 e e = 0 := by
  simp [F_rm9]
theorem own_r (e m w : Int64) : F_rm9 m e = if (e < m) then (1 : Int32) else 0 := by
  simp [F_rm9]
theorem own_rel (m : Int64) : F_rm9 m (-9223372036854775808 : Int64) = if (¬ (m = (-9223372036854775808 : Int64))) then (1 : Int32) else 0 := by
  have q : ((-9223372036854775808 : Int64) < m) ↔ ¬ (m = (-9223372036854775808 : Int64)) := by
    rw [← Int64.toInt_inj, Int64.lt_iff_toInt_lt]
    have := rng64 m
    have e2 : (-9223372036854775808 : Int64).toInt = -9223372036854775808 := rfl
    omega
  simp only [F_rm9, q]
theorem pd_5 : parseMethodDescriptor "(C)Ljava/lang/String;" = some ⟨[.char], some (.object "java/lang/String")⟩ := by decide +kernel
theorem pd_6 : parseMethodDescriptor "(Ljava/lang/String;J)Lcom/example/hyra/hyra/LeaseValue;" = some ⟨[(.object "java/lang/String"), .long], some (.object "com/example/hyra/hyra/LeaseValue")⟩ := by decide +kernel
theorem pd_7 : parseMethodDescriptor "(Lcom/example/hyra/hyra/LeaseValue;J)Z" = some ⟨[(.object "com/example/hyra/hyra/LeaseValue"), .long], some .boolean⟩ := by decide +kernel
def Q_rm0 (Z : State) (q1 : Int64) (q2 : Int64) (q3 : Int64) (p4 : Int32) (cs : Int32) (h0 : Heap) (n0 : Nat) (v : Option Value) (h : Heap) (L : List Loc) : Prop := v = some (.int 1) ∧ Fr n0 L
theorem ef_rm0 (m : MethodId) (x0 : Int64) (x1 : Int64) (x2 : Int64) (x3 : Int32) : entryFrame m #[(.long x0), (.long x1), (.long x2), (.int x3)] maxLocals = mkF m 0 #[.val (.long x0), .second, .val (.long x1), .second, .val (.long x2), .second, .val (.int x3), .unset, .unset, .unset, .unset, .unset, .unset, .unset, .unset, .unset, .unset] [] := by first | (simp [entryFrame, mkF, argsToLocals, Value.category, maxLocals]; done) | rfl
theorem pn_4 : plainName "com/example/hyra/hyra/LeaseValueEndedBeforePinLaw" = true := by first | (simp [plainName, overriddenIn]; done) | decide +kernel
set_option maxRecDepth 65536 in
set_option maxHeartbeats 40000000 in
theorem rm0 (l : Launch) (Z : State) (a0 : Array Value) (hw : ∀ d ∈ tables_1, d.before a0 Z = true) (ws : List Jvm.Cond) (q1 : Int64) (q2 : Int64) (q3 : Int64) (p4 : Int32) (cs : Int32) (h0 : Heap) (n0 : Nat) (Z0 : n0 ≤ h0.size) (S_String_COMPACT_STRINGS : Sta Z h0 "java/lang/String" "COMPACT_STRINGS" "Z" (.int cs)) (hcs : ¬ (cs = (0 : Int32))) :
    MetFree l x (head1 (Jvm.Cond.code x code maxLocals ret :: ws) room_1) (fun a U => a = #[(.long q1), (.long q2), (.long q3), (.int p4)] ∧ Z.Warmed39 U.vm ∧ U.heap = h0) (fun _ _ _ _ _ => True) (fun _ U o U' => ∃ v L, o = .returned v ∧ Q_rm0 Z q1 q2 q3 p4 cs h0 n0 v U'.heap L ∧ FrameEnd U o U' L 4 11) := by
  refine MetFree.of_bodySF (plainFor_of_name pn_4) hisR ?_
  intro p e s m args below meth c s₁ Bd hml0 hP hK
  obtain ⟨rfl, hZ, hh⟩ := hP
  have hx := Bd.exec
  have hby := Bd.bytes
  have hml : c.maxLocals = 17 := hml0
  have hown : s.vm.findClass "com/example/hyra/hyra/LeaseValueEndedBeforePinLaw" = some m.cls := findClass_of_methodNamed Bd.named
  have hnm := (name_of_methodNamed Bd.named Bd.method).1
  have X0 : Stand p l e room_1 s m #[(.long q1), (.long q2), (.long q3), (.int p4)] below meth c s₁ [] 0 0 := Stand.of_body Bd
  have e0 : s₁.heap = h0 := by rw [← hh, Bd.state]; rfl
  have N0 := Fr.nil n0
  show Run p e below s 4 11 (Q_rm0 Z q1 q2 q3 p4 cs h0 n0) (s₁.setTop (entryFrame m #[(.long q1), (.long q2), (.long q3), (.int p4)] maxLocals))
  refine Run.go (fun _ k => castTop (ef_rm0 m q1 q2 q3 p4) k) ?_
  show Run p e below s 4 11 (Q_rm0 Z q1 q2 q3 p4 cs h0 n0) (s₁.setTop (mkF m 0 #[.val (.long q1), .second, .val (.long q2), .second, .val (.long q3), .second, .val (.int p4), .unset, .unset, .unset, .unset, .unset, .unset, .unset, .unset, .unset, .unset] []))
  refine Run.go (fun _ k => XS.iload X0.here hx rfl (hb hby at_0) rfl  k) ?_
  show Run p e below s 4 11 (Q_rm0 Z q1 q2 q3 p4 cs h0 n0) (s₁.setTop (mkF m 2 #[.val (.long q1), .second, .val (.long q2), .second, .val (.long q3), .second, .val (.int p4), .unset, .unset, .unset, .unset, .unset, .unset, .unset, .unset, .unset, .unset] [(.int p4)]))
  refine Run.go (fun _ k => XS.sipush X0.here hx rfl (hb hby at_2) k) ?_
  show Run p e below s 4 11 (Q_rm0 Z q1 q2 q3 p4 cs h0 n0) (s₁.setTop (mkF m 5 #[.val (.long q1), .second, .val (.long q2), .second, .val (.long q3), .second, .val (.int p4), .unset, .unset, .unset, .unset, .unset, .unset, .unset, .unset, .unset, .unset] [(.int (255 : Int32)), (.int p4)]))
  refine Run.go (fun _ k => XS.iand X0.here hx rfl (hb hby at_5) rfl k) ?_
  show Run p e below s 4 11 (Q_rm0 Z q1 q2 q3 p4 cs h0 n0) (s₁.setTop (mkF m 6 #[.val (.long q1), .second, .val (.long q2), .second, .val (.long q3), .second, .val (.int p4), .unset, .unset, .unset, .unset, .unset, .unset, .unset, .unset, .unset, .unset] [(.int (p4 &&& (255 : Int32)))]))
  refine Run.go (fun _ k => XS.i2c X0.here hx rfl (hb hby at_6) rfl k) ?_
  show Run p e below s 4 11 (Q_rm0 Z q1 q2 q3 p4 cs h0 n0) (s₁.setTop (mkF m 7 #[.val (.long q1), .second, .val (.long q2), .second, .val (.long q3), .second, .val (.int p4), .unset, .unset, .unset, .unset, .unset, .unset, .unset, .unset, .unset, .unset] [(.int ((p4 &&& (255 : Int32)).toUInt32.toUInt16.toUInt32.toInt32))]))
  obtain ⟨_, _, ⟨T5, L5, k5, n5⟩, -, X5, ⟨Lc5, hQ5, l5, y5, z5⟩, st5⟩ := Jvm.LawKit.callS X0 hx (y := (⟨"java/lang/String", "valueOf", "(C)Ljava/lang/String;"⟩ : MethodName)) hown (mvT hZ (hw _ (List.mem_of_getElem? (i := 0) rfl))) (mvT hZ (hw _ (List.mem_of_getElem? (i := 1) rfl))) (mvT hZ (hw _ (List.mem_of_getElem? (i := 2) rfl))) (mvT hZ (hw _ (List.mem_of_getElem? (i := 3) rfl))) (by decide) (backOf (W := 0) (rm1 l Z a0 hw [] ((p4 &&& (255 : Int32)).toUInt32.toUInt16.toUInt32.toInt32) cs h0 n0 Z0 S_String_COMPACT_STRINGS hcs (own_ch _)) hZ (hw _ (List.mem_of_getElem? (i := 3) rfl)) (hw _ (List.mem_of_getElem? (i := 2) rfl)) (by decide) (by decide)) (g := (mkF m 7 #[.val (.long q1), .second, .val (.long q2), .second, .val (.long q3), .second, .val (.int p4), .unset, .unset, .unset, .unset, .unset, .unset, .unset, .unset, .unset, .unset] [(.int ((p4 &&& (255 : Int32)).toUInt32.toUInt16.toUInt32.toInt32))])) rfl (by rw [hml]; rfl) (argsL := [(.int ((p4 &&& (255 : Int32)).toUInt32.toUInt16.toUInt32.toInt32))]) (rest := []) (lenOf pd_5 rfl) rfl (by show 2 * 0 + _ ≤ _; exact Nat.le_of_eq rfl) (hb hby at_7) (fun _ _ => ⟨rfl, e0, (by decide : 0 + 2 ≤ _), (by decide : 0 + 5 ≤ _)⟩)
  dsimp only [Pt.U, Pt.locs, Pt.cells, Pt.slots] at X5 l5 y5 z5 st5 hQ5
  subst l5 y5 z5
  obtain ⟨b6, b7, rfl, N5q, K5q, s_b6, s_b7, fq5_0, fq5_1, fq5_2, fq5_3⟩ := hQ5
  have N5 := Fr.app N0 N5q
  have g_b6 : n0 ≤ b6 := Nat.le_trans Z0 s_b6
  have g_b7 : n0 ≤ b7 := Nat.le_trans Z0 s_b7
  have Z5 : n0 ≤ T5.heap.size := Nat.le_trans Z0 K5q.1
  refine Run.go st5 ?_
  show Run p e below s 4 11 (Q_rm0 Z q1 q2 q3 p4 cs h0 n0) (T5.setTop (mkF m 10 #[.val (.long q1), .second, .val (.long q2), .second, .val (.long q3), .second, .val (.int p4), .unset, .unset, .unset, .unset, .unset, .unset, .unset, .unset, .unset, .unset] [(.ref b6)]))
  refine Run.go (fun _ k => XS.astore X5.here hx rfl (hb hby at_10) rfl rfl (l' := #[.val (.long q1), .second, .val (.long q2), .second, .val (.long q3), .second, .val (.int p4), .val (.ref b6), .unset, .unset, .unset, .unset, .unset, .unset, .unset, .unset, .unset]) rfl k) ?_
  show Run p e below s 4 11 (Q_rm0 Z q1 q2 q3 p4 cs h0 n0) (T5.setTop (mkF m 12 #[.val (.long q1), .second, .val (.long q2), .second, .val (.long q3), .second, .val (.int p4), .val (.ref b6), .unset, .unset, .unset, .unset, .unset, .unset, .unset, .unset, .unset] []))
  obtain ⟨T8, h8, X8, e8, E8, A8, D8, -, st8⟩ := newO X5 hx hZ hown (hw _ (List.mem_of_getElem? (i := 26) rfl)) (hw _ (List.mem_of_getElem? (i := 27) rfl)) (hw _ (List.mem_of_getElem? (i := 28) rfl)) rfl (g := (mkF m 12 #[.val (.long q1), .second, .val (.long q2), .second, .val (.long q3), .second, .val (.int p4), .val (.ref b6), .unset, .unset, .unset, .unset, .unset, .unset, .unset, .unset, .unset] [])) rfl (hb hby at_12) (by decide) (by decide)
  obtain ⟨b8, g8⟩ : ∃ z, z = T5.heap.size := ⟨_, rfl⟩
  rw [← g8] at A8 D8 st8
  have g_b8 : n0 ≤ b8 := Nat.le_trans Z5 (Nat.le_of_eq g8.symm)
  have Z8 : n0 ≤ h8.size := Nat.le_trans Z5 E8.1
  have ne_b6_b8 : b6 ≠ b8 := Nat.ne_of_lt (Nat.lt_of_lt_of_le fq5_0.lt (Nat.le_of_eq g8.symm))
  have ne_b7_b8 : b7 ≠ b8 := Nat.ne_of_lt (Nat.lt_of_lt_of_le fq5_3.lt (Nat.le_of_eq g8.symm))
  have fx9 : Fld Z h8 b8 "com/example/hyra/hyra/LeaseValue" "holder" "Ljava/lang/String;" .null := D8 (Or.inr (hw _ (List.mem_of_getElem? (i := 39) rfl))) (ty := (.object "java/lang/String")) (by decide)
  have fx10 : Fld Z h8 b8 "com/example/hyra/hyra/LeaseValue" "endMillis" "J" (.long (0 : Int64)) := D8 (Or.inr (hw _ (List.mem_of_getElem? (i := 41) rfl))) (ty := .long) (by decide)
  have fx11 : Fld Z h8 b8 "com/example/hyra/hyra/LeaseValue" "token" "J" (.long (0 : Int64)) := D8 (Or.inr (hw _ (List.mem_of_getElem? (i := 43) rfl))) (ty := .long) (by decide)
  refine Run.go st8 ?_
  show Run p e below s 4 11 (Q_rm0 Z q1 q2 q3 p4 cs h0 n0) (T8.setTop (mkF m 15 #[.val (.long q1), .second, .val (.long q2), .second, .val (.long q3), .second, .val (.int p4), .val (.ref b6), .unset, .unset, .unset, .unset, .unset, .unset, .unset, .unset, .unset] [(.ref b8)]))
  refine Run.go (fun _ k => XS.dup X8.here hx rfl (hb hby at_15) rfl rfl k) ?_
  show Run p e below s 4 11 (Q_rm0 Z q1 q2 q3 p4 cs h0 n0) (T8.setTop (mkF m 16 #[.val (.long q1), .second, .val (.long q2), .second, .val (.long q3), .second, .val (.int p4), .val (.ref b6), .unset, .unset, .unset, .unset, .unset, .unset, .unset, .unset, .unset] [(.ref b8), (.ref b8)]))
  refine Run.go (fun _ k => XS.aload X8.here hx rfl (hb hby at_16) rfl rfl k) ?_
  show Run p e below s 4 11 (Q_rm0 Z q1 q2 q3 p4 cs h0 n0) (T8.setTop (mkF m 18 #[.val (.long q1), .second, .val (.long q2), .second, .val (.long q3), .second, .val (.int p4), .val (.ref b6), .unset, .unset, .unset, .unset, .unset, .unset, .unset, .unset, .unset] [(.ref b6), (.ref b8), (.ref b8)]))
  refine Run.go (fun _ k => XS.lloadN X8.here hx rfl (hb hby at_18) rfl  k) ?_
  show Run p e below s 4 11 (Q_rm0 Z q1 q2 q3 p4 cs h0 n0) (T8.setTop (mkF m 19 #[.val (.long q1), .second, .val (.long q2), .second, .val (.long q3), .second, .val (.int p4), .val (.ref b6), .unset, .unset, .unset, .unset, .unset, .unset, .unset, .unset, .unset] [(.long q1), (.ref b6), (.ref b8), (.ref b8)]))
  refine Run.go (fun _ k => XS.lload X8.here hx rfl (hb hby at_19) rfl  k) ?_
  show Run p e below s 4 11 (Q_rm0 Z q1 q2 q3 p4 cs h0 n0) (T8.setTop (mkF m 21 #[.val (.long q1), .second, .val (.long q2), .second, .val (.long q3), .second, .val (.int p4), .val (.ref b6), .unset, .unset, .unset, .unset, .unset, .unset, .unset, .unset, .unset] [(.long q3), (.long q1), (.ref b6), (.ref b8), (.ref b8)]))
  obtain ⟨_, _, ⟨T12, L12, k12, n12⟩, -, X12, ⟨Lc12, hQ12, l12, y12, z12⟩, st12⟩ := X8.specialBack hx (y := (⟨"com/example/hyra/hyra/LeaseValue", "<init>", "(Ljava/lang/String;JJ)V"⟩ : MethodName)) rfl hown (mvT hZ (hw _ (List.mem_of_getElem? (i := 29) rfl))) (mvT hZ (hw _ (List.mem_of_getElem? (i := 30) rfl))) (mvT hZ (hw _ (List.mem_of_getElem? (i := 31) rfl))) (by decide) (backOf (W := 1) (rm6 l Z a0 hw [] b8 b6 q1 q3 .null (.long (0 : Int64)) (.long (0 : Int64)) h8 n0 Z8 A8 fx9 g_b8 fx10 fx11) hZ (hw _ (List.mem_of_getElem? (i := 31) rfl)) (hw _ (List.mem_of_getElem? (i := 28) rfl)) (by decide) (by decide)) (g := (mkF m 21 #[.val (.long q1), .second, .val (.long q2), .second, .val (.long q3), .second, .val (.int p4), .val (.ref b6), .unset, .unset, .unset, .unset, .unset, .unset, .unset, .unset, .unset] [(.long q3), (.long q1), (.ref b6), (.ref b8), (.ref b8)])) rfl (by rw [hml]; rfl) (Steps.refl _) (a := b8) (argsL := [(.ref b6), (.long q1), (.long q3)]) (rest := [(.ref b8)]) (lenOf pd_4 rfl) rfl (by show 2 * 0 + _ ≤ _; exact Nat.le_of_eq rfl) (hb hby at_21) (fun _ _ => ⟨rfl, e8, (by decide : 3 + 0 ≤ _), (by decide : 8 + 0 ≤ _)⟩)
  dsimp only [Pt.U, Pt.locs, Pt.cells, Pt.slots] at X12 l12 y12 z12 st12 hQ12
  subst l12 y12 z12
  obtain ⟨rfl, N12q, K12q, fq12_0, fq12_1, fq12_2, fq12_3⟩ := hQ12
  have N12 := Fr.app N5 N12q
  have Z12 : n0 ≤ T12.heap.size := Nat.le_trans Z8 K12q.1
  refine Run.tr st12 ?_
  show Run p e below s 4 11 (Q_rm0 Z q1 q2 q3 p4 cs h0 n0) (T12.setTop (mkF m 24 #[.val (.long q1), .second, .val (.long q2), .second, .val (.long q3), .second, .val (.int p4), .val (.ref b6), .unset, .unset, .unset, .unset, .unset, .unset, .unset, .unset, .unset] [(.ref b8)]))
  refine Run.go (fun _ k => XS.astore X12.here hx rfl (hb hby at_24) rfl rfl (l' := #[.val (.long q1), .second, .val (.long q2), .second, .val (.long q3), .second, .val (.int p4), .val (.ref b6), .val (.ref b8), .unset, .unset, .unset, .unset, .unset, .unset, .unset, .unset]) rfl k) ?_
  show Run p e below s 4 11 (Q_rm0 Z q1 q2 q3 p4 cs h0 n0) (T12.setTop (mkF m 26 #[.val (.long q1), .second, .val (.long q2), .second, .val (.long q3), .second, .val (.int p4), .val (.ref b6), .val (.ref b8), .unset, .unset, .unset, .unset, .unset, .unset, .unset, .unset] []))
  refine Run.go (fun _ k => XS.aload X12.here hx rfl (hb hby at_26) rfl rfl k) ?_
  show Run p e below s 4 11 (Q_rm0 Z q1 q2 q3 p4 cs h0 n0) (T12.setTop (mkF m 28 #[.val (.long q1), .second, .val (.long q2), .second, .val (.long q3), .second, .val (.int p4), .val (.ref b6), .val (.ref b8), .unset, .unset, .unset, .unset, .unset, .unset, .unset, .unset] [(.ref b6)]))
  refine Run.go (fun _ k => XS.lload X12.here hx rfl (hb hby at_28) rfl  k) ?_
  show Run p e below s 4 11 (Q_rm0 Z q1 q2 q3 p4 cs h0 n0) (T12.setTop (mkF m 30 #[.val (.long q1), .second, .val (.long q2), .second, .val (.long q3), .second, .val (.int p4), .val (.ref b6), .val (.ref b8), .unset, .unset, .unset, .unset, .unset, .unset, .unset, .unset] [(.long q3), (.ref b6)]))
  have fx14 := ((fq5_0.ext E8).keep K12q)
  have fx15 := ((fq5_3.ext E8).keep K12q (ninS ne_b7_b8 nin0))
  obtain ⟨_, _, ⟨T13, L13, k13, n13⟩, -, X13, ⟨Lc13, hQ13, l13, y13, z13⟩, st13⟩ := Jvm.LawKit.callS X12 hx (y := (⟨"com/example/hyra/hyra/LeaseValue", "released", "(Ljava/lang/String;J)Lcom/example/hyra/hyra/LeaseValue;"⟩ : MethodName)) hown (mvT hZ (hw _ (List.mem_of_getElem? (i := 44) rfl))) (mvT hZ (hw _ (List.mem_of_getElem? (i := 45) rfl))) (mvT hZ (hw _ (List.mem_of_getElem? (i := 28) rfl))) (mvT hZ (hw _ (List.mem_of_getElem? (i := 46) rfl))) (by decide) (backOf (W := 0) (rm8 l Z a0 hw [] b6 q3 T12.heap n0 Z12 ) hZ (hw _ (List.mem_of_getElem? (i := 46) rfl)) (hw _ (List.mem_of_getElem? (i := 28) rfl)) (by decide) (by decide)) (g := (mkF m 30 #[.val (.long q1), .second, .val (.long q2), .second, .val (.long q3), .second, .val (.int p4), .val (.ref b6), .val (.ref b8), .unset, .unset, .unset, .unset, .unset, .unset, .unset, .unset] [(.long q3), (.ref b6)])) rfl (by rw [hml]; rfl) (argsL := [(.ref b6), (.long q3)]) (rest := []) (lenOf pd_6 rfl) rfl (by show 2 * 0 + _ ≤ _; exact Nat.le_of_eq rfl) (hb hby at_30) (fun _ _ => ⟨rfl, rfl, (by decide : 3 + 1 ≤ _), (by decide : 8 + 3 ≤ _)⟩)
  dsimp only [Pt.U, Pt.locs, Pt.cells, Pt.slots] at X13 l13 y13 z13 st13 hQ13
  subst l13 y13 z13
  obtain ⟨b16, rfl, N13q, K13q, s_b16, fq13_0, fq13_1, fq13_2, fq13_3⟩ := hQ13
  have N13 := Fr.app N12 N13q
  have g_b16 : n0 ≤ b16 := Nat.le_trans Z12 s_b16
  have ne_b6_b16 : b6 ≠ b16 := Nat.ne_of_lt (Nat.lt_of_lt_of_le fx14.lt s_b16)
  have ne_b7_b16 : b7 ≠ b16 := Nat.ne_of_lt (Nat.lt_of_lt_of_le fx15.lt s_b16)
  have ne_b8_b16 : b8 ≠ b16 := Nat.ne_of_lt (Nat.lt_of_lt_of_le fq12_0.lt s_b16)
  have Z13 : n0 ≤ T13.heap.size := Nat.le_trans Z12 K13q.1
  refine Run.go st13 ?_
  show Run p e below s 4 11 (Q_rm0 Z q1 q2 q3 p4 cs h0 n0) (T13.setTop (mkF m 33 #[.val (.long q1), .second, .val (.long q2), .second, .val (.long q3), .second, .val (.int p4), .val (.ref b6), .val (.ref b8), .unset, .unset, .unset, .unset, .unset, .unset, .unset, .unset] [(.ref b16)]))
  refine Run.go (fun _ k => XS.astore X13.here hx rfl (hb hby at_33) rfl rfl (l' := #[.val (.long q1), .second, .val (.long q2), .second, .val (.long q3), .second, .val (.int p4), .val (.ref b6), .val (.ref b8), .val (.ref b16), .unset, .unset, .unset, .unset, .unset, .unset, .unset]) rfl k) ?_
  show Run p e below s 4 11 (Q_rm0 Z q1 q2 q3 p4 cs h0 n0) (T13.setTop (mkF m 35 #[.val (.long q1), .second, .val (.long q2), .second, .val (.long q3), .second, .val (.int p4), .val (.ref b6), .val (.ref b8), .val (.ref b16), .unset, .unset, .unset, .unset, .unset, .unset, .unset] []))
  refine Run.go (fun _ k => XS.aconstNull X13.here hx rfl (hb hby at_35) k) ?_
  show Run p e below s 4 11 (Q_rm0 Z q1 q2 q3 p4 cs h0 n0) (T13.setTop (mkF m 36 #[.val (.long q1), .second, .val (.long q2), .second, .val (.long q3), .second, .val (.int p4), .val (.ref b6), .val (.ref b8), .val (.ref b16), .unset, .unset, .unset, .unset, .unset, .unset, .unset] [.null]))
  refine Run.go (fun _ k => XS.lloadN X13.here hx rfl (hb hby at_36) rfl  k) ?_
  show Run p e below s 4 11 (Q_rm0 Z q1 q2 q3 p4 cs h0 n0) (T13.setTop (mkF m 37 #[.val (.long q1), .second, .val (.long q2), .second, .val (.long q3), .second, .val (.int p4), .val (.ref b6), .val (.ref b8), .val (.ref b16), .unset, .unset, .unset, .unset, .unset, .unset, .unset] [(.long q2), .null]))
  obtain ⟨_, _, ⟨T17, L17, k17, n17⟩, -, X17, ⟨Lc17, hQ17, l17, y17, z17⟩, st17⟩ := Jvm.LawKit.callS X13 hx (y := (⟨"com/example/hyra/hyra/LeaseValue", "endedBefore", "(Lcom/example/hyra/hyra/LeaseValue;J)Z"⟩ : MethodName)) hown (mvT hZ (hw _ (List.mem_of_getElem? (i := 50) rfl))) (mvT hZ (hw _ (List.mem_of_getElem? (i := 51) rfl))) (mvT hZ (hw _ (List.mem_of_getElem? (i := 28) rfl))) (mvT hZ (hw _ (List.mem_of_getElem? (i := 52) rfl))) (by decide) (backOf (W := 0) (rm9n l Z a0 hw [] q2 T13.heap n0 Z13 ) hZ (hw _ (List.mem_of_getElem? (i := 52) rfl)) (hw _ (List.mem_of_getElem? (i := 28) rfl)) (by decide) (by decide)) (g := (mkF m 37 #[.val (.long q1), .second, .val (.long q2), .second, .val (.long q3), .second, .val (.int p4), .val (.ref b6), .val (.ref b8), .val (.ref b16), .unset, .unset, .unset, .unset, .unset, .unset, .unset] [(.long q2), .null])) rfl (by rw [hml]; rfl) (argsL := [.null, (.long q2)]) (rest := []) (lenOf pd_7 rfl) rfl (by show 2 * 0 + _ ≤ _; exact Nat.le_of_eq rfl) (hb hby at_37) (fun _ _ => ⟨rfl, rfl, (by decide : 4 + 0 ≤ _), (by decide : 11 + 0 ≤ _)⟩)
  dsimp only [Pt.U, Pt.locs, Pt.cells, Pt.slots] at X17 l17 y17 z17 st17 hQ17
  subst l17 y17 z17
  obtain ⟨rfl, N17q, e17q⟩ := hQ17
  have N17 := Fr.app N13 N17q
  refine Run.go st17 ?_
  show Run p e below s 4 11 (Q_rm0 Z q1 q2 q3 p4 cs h0 n0) (T17.setTop (mkF m 40 #[.val (.long q1), .second, .val (.long q2), .second, .val (.long q3), .second, .val (.int p4), .val (.ref b6), .val (.ref b8), .val (.ref b16), .unset, .unset, .unset, .unset, .unset, .unset, .unset] [(.int (1 : Int32))]))
  refine Run.go (fun _ k => XS.istore X17.here hx rfl (hb hby at_40) rfl (l' := #[.val (.long q1), .second, .val (.long q2), .second, .val (.long q3), .second, .val (.int p4), .val (.ref b6), .val (.ref b8), .val (.ref b16), .val (.int (1 : Int32)), .unset, .unset, .unset, .unset, .unset, .unset]) rfl k) ?_
  show Run p e below s 4 11 (Q_rm0 Z q1 q2 q3 p4 cs h0 n0) (T17.setTop (mkF m 42 #[.val (.long q1), .second, .val (.long q2), .second, .val (.long q3), .second, .val (.int p4), .val (.ref b6), .val (.ref b8), .val (.ref b16), .val (.int (1 : Int32)), .unset, .unset, .unset, .unset, .unset, .unset] []))
  refine Run.go (fun _ k => XS.aload X17.here hx rfl (hb hby at_42) rfl rfl k) ?_
  show Run p e below s 4 11 (Q_rm0 Z q1 q2 q3 p4 cs h0 n0) (T17.setTop (mkF m 44 #[.val (.long q1), .second, .val (.long q2), .second, .val (.long q3), .second, .val (.int p4), .val (.ref b6), .val (.ref b8), .val (.ref b16), .val (.int (1 : Int32)), .unset, .unset, .unset, .unset, .unset, .unset] [(.ref b8)]))
  refine Run.go (fun _ k => XS.lloadN X17.here hx rfl (hb hby at_44) rfl  k) ?_
  show Run p e below s 4 11 (Q_rm0 Z q1 q2 q3 p4 cs h0 n0) (T17.setTop (mkF m 45 #[.val (.long q1), .second, .val (.long q2), .second, .val (.long q3), .second, .val (.int p4), .val (.ref b6), .val (.ref b8), .val (.ref b16), .val (.int (1 : Int32)), .unset, .unset, .unset, .unset, .unset, .unset] [(.long q1), (.ref b8)]))
  have fx19 := (fq12_2.keep K13q nin0)
  obtain ⟨_, _, ⟨T18, L18, k18, n18⟩, -, X18, ⟨Lc18, hQ18, l18, y18, z18⟩, st18⟩ := Jvm.LawKit.callS X17 hx (y := (⟨"com/example/hyra/hyra/LeaseValue", "endedBefore", "(Lcom/example/hyra/hyra/LeaseValue;J)Z"⟩ : MethodName)) hown (mvT hZ (hw _ (List.mem_of_getElem? (i := 50) rfl))) (mvT hZ (hw _ (List.mem_of_getElem? (i := 51) rfl))) (mvT hZ (hw _ (List.mem_of_getElem? (i := 28) rfl))) (mvT hZ (hw _ (List.mem_of_getElem? (i := 52) rfl))) (by decide) (backOf (W := 0) (rm9 l Z a0 hw [] b8 q1 q1 T13.heap n0 Z13 fx19) hZ (hw _ (List.mem_of_getElem? (i := 52) rfl)) (hw _ (List.mem_of_getElem? (i := 28) rfl)) (by decide) (by decide)) (g := (mkF m 45 #[.val (.long q1), .second, .val (.long q2), .second, .val (.long q3), .second, .val (.int p4), .val (.ref b6), .val (.ref b8), .val (.ref b16), .val (.int (1 : Int32)), .unset, .unset, .unset, .unset, .unset, .unset] [(.long q1), (.ref b8)])) rfl (by rw [hml]; rfl) (argsL := [(.ref b8), (.long q1)]) (rest := []) (lenOf pd_7 rfl) rfl (by show 2 * 0 + _ ≤ _; exact Nat.le_of_eq rfl) (hb hby at_45) (fun _ _ => ⟨rfl, e17q, (by decide : 4 + 0 ≤ _), (by decide : 11 + 0 ≤ _)⟩)
  dsimp only [Pt.U, Pt.locs, Pt.cells, Pt.slots] at X18 l18 y18 z18 st18 hQ18
  subst l18 y18 z18
  obtain ⟨rfl, N18q, e18q⟩ := hQ18
  have N18 := Fr.app N17 N18q
  refine Run.go st18 ?_
  show Run p e below s 4 11 (Q_rm0 Z q1 q2 q3 p4 cs h0 n0) (T18.setTop (mkF m 48 #[.val (.long q1), .second, .val (.long q2), .second, .val (.long q3), .second, .val (.int p4), .val (.ref b6), .val (.ref b8), .val (.ref b16), .val (.int (1 : Int32)), .unset, .unset, .unset, .unset, .unset, .unset] [(.int (F_rm9 q1 q1))]))
  refine Run.go (fun _ k => XS.istore X18.here hx rfl (hb hby at_48) rfl (l' := #[.val (.long q1), .second, .val (.long q2), .second, .val (.long q3), .second, .val (.int p4), .val (.ref b6), .val (.ref b8), .val (.ref b16), .val (.int (1 : Int32)), .val (.int (F_rm9 q1 q1)), .unset, .unset, .unset, .unset, .unset]) rfl k) ?_
  show Run p e below s 4 11 (Q_rm0 Z q1 q2 q3 p4 cs h0 n0) (T18.setTop (mkF m 50 #[.val (.long q1), .second, .val (.long q2), .second, .val (.long q3), .second, .val (.int p4), .val (.ref b6), .val (.ref b8), .val (.ref b16), .val (.int (1 : Int32)), .val (.int (F_rm9 q1 q1)), .unset, .unset, .unset, .unset, .unset] []))
  refine Run.go (fun _ k => XS.lloadN X18.here hx rfl (hb hby at_50) rfl  k) ?_
  show Run p e below s 4 11 (Q_rm0 Z q1 q2 q3 p4 cs h0 n0) (T18.setTop (mkF m 51 #[.val (.long q1), .second, .val (.long q2), .second, .val (.long q3), .second, .val (.int p4), .val (.ref b6), .val (.ref b8), .val (.ref b16), .val (.int (1 : Int32)), .val (.int (F_rm9 q1 q1)), .unset, .unset, .unset, .unset, .unset] [(.long q1)]))
  refine Run.go (fun _ k => X18.ldc2Long hx hown (mvT hZ (hw _ (List.mem_of_getElem? (i := 53) rfl))) (g := (mkF m 51 #[.val (.long q1), .second, .val (.long q2), .second, .val (.long q3), .second, .val (.int p4), .val (.ref b6), .val (.ref b8), .val (.ref b16), .val (.int (1 : Int32)), .val (.int (F_rm9 q1 q1)), .unset, .unset, .unset, .unset, .unset] [(.long q1)])) rfl (hb hby at_51) _ k) ?_
  show Run p e below s 4 11 (Q_rm0 Z q1 q2 q3 p4 cs h0 n0) (T18.setTop (mkF m 54 #[.val (.long q1), .second, .val (.long q2), .second, .val (.long q3), .second, .val (.int p4), .val (.ref b6), .val (.ref b8), .val (.ref b16), .val (.int (1 : Int32)), .val (.int (F_rm9 q1 q1)), .unset, .unset, .unset, .unset, .unset] [(.long (9223372036854775807 : Int64)), (.long q1)]))
  refine Run.go (fun _ k => XS.lcmp X18.here hx rfl (hb hby at_54) rfl k) ?_
  show Run p e below s 4 11 (Q_rm0 Z q1 q2 q3 p4 cs h0 n0) (T18.setTop (mkF m 55 #[.val (.long q1), .second, .val (.long q2), .second, .val (.long q3), .second, .val (.int p4), .val (.ref b6), .val (.ref b8), .val (.ref b16), .val (.int (1 : Int32)), .val (.int (F_rm9 q1 q1)), .unset, .unset, .unset, .unset, .unset] [(.int (lcmpW q1 (9223372036854775807 : Int64)))]))
  have J21 : ∀  (T22 : State) (L22 : List Loc) (X22 : Stand p l e room_1 s m #[(.long q1), (.long q2), (.long q3), (.int p4)] below meth c T22 L22 4 11) (e22 : T22.heap = T13.heap) (N22 : Fr n0 L22), Run p e below s 4 11 (Q_rm0 Z q1 q2 q3 p4 cs h0 n0) (T22.setTop (mkF m 74 #[.val (.long q1), .second, .val (.long q2), .second, .val (.long q3), .second, .val (.int p4), .val (.ref b6), .val (.ref b8), .val (.ref b16), .val (.int (1 : Int32)), .val (.int (F_rm9 q1 q1)), .unset, .unset, .unset, .unset, .unset] [(.int (1 : Int32))])) := by
    intro  T22 L22 X22 e22 N22
    show Run p e below s 4 11 (Q_rm0 Z q1 q2 q3 p4 cs h0 n0) (T22.setTop (mkF m 74 #[.val (.long q1), .second, .val (.long q2), .second, .val (.long q3), .second, .val (.int p4), .val (.ref b6), .val (.ref b8), .val (.ref b16), .val (.int (1 : Int32)), .val (.int (F_rm9 q1 q1)), .unset, .unset, .unset, .unset, .unset] [(.int (1 : Int32))]))
    refine Run.go (fun _ k => XS.istore X22.here hx rfl (hb hby at_74) rfl (l' := #[.val (.long q1), .second, .val (.long q2), .second, .val (.long q3), .second, .val (.int p4), .val (.ref b6), .val (.ref b8), .val (.ref b16), .val (.int (1 : Int32)), .val (.int (F_rm9 q1 q1)), .val (.int (1 : Int32)), .unset, .unset, .unset, .unset]) rfl k) ?_
    show Run p e below s 4 11 (Q_rm0 Z q1 q2 q3 p4 cs h0 n0) (T22.setTop (mkF m 76 #[.val (.long q1), .second, .val (.long q2), .second, .val (.long q3), .second, .val (.int p4), .val (.ref b6), .val (.ref b8), .val (.ref b16), .val (.int (1 : Int32)), .val (.int (F_rm9 q1 q1)), .val (.int (1 : Int32)), .unset, .unset, .unset, .unset] []))
    refine Run.go (fun _ k => XS.aload X22.here hx rfl (hb hby at_76) rfl rfl k) ?_
    show Run p e below s 4 11 (Q_rm0 Z q1 q2 q3 p4 cs h0 n0) (T22.setTop (mkF m 78 #[.val (.long q1), .second, .val (.long q2), .second, .val (.long q3), .second, .val (.int p4), .val (.ref b6), .val (.ref b8), .val (.ref b16), .val (.int (1 : Int32)), .val (.int (F_rm9 q1 q1)), .val (.int (1 : Int32)), .unset, .unset, .unset, .unset] [(.ref b8)]))
    refine Run.go (fun _ k => XS.lloadN X22.here hx rfl (hb hby at_78) rfl  k) ?_
    show Run p e below s 4 11 (Q_rm0 Z q1 q2 q3 p4 cs h0 n0) (T22.setTop (mkF m 79 #[.val (.long q1), .second, .val (.long q2), .second, .val (.long q3), .second, .val (.int p4), .val (.ref b6), .val (.ref b8), .val (.ref b16), .val (.int (1 : Int32)), .val (.int (F_rm9 q1 q1)), .val (.int (1 : Int32)), .unset, .unset, .unset, .unset] [(.long q2), (.ref b8)]))
    obtain ⟨_, _, ⟨T23, L23, k23, n23⟩, -, X23, ⟨Lc23, hQ23, l23, y23, z23⟩, st23⟩ := Jvm.LawKit.callS X22 hx (y := (⟨"com/example/hyra/hyra/LeaseValue", "endedBefore", "(Lcom/example/hyra/hyra/LeaseValue;J)Z"⟩ : MethodName)) hown (mvT hZ (hw _ (List.mem_of_getElem? (i := 50) rfl))) (mvT hZ (hw _ (List.mem_of_getElem? (i := 51) rfl))) (mvT hZ (hw _ (List.mem_of_getElem? (i := 28) rfl))) (mvT hZ (hw _ (List.mem_of_getElem? (i := 52) rfl))) (by decide) (backOf (W := 0) (rm9 l Z a0 hw [] b8 q2 q1 T13.heap n0 Z13 fx19) hZ (hw _ (List.mem_of_getElem? (i := 52) rfl)) (hw _ (List.mem_of_getElem? (i := 28) rfl)) (by decide) (by decide)) (g := (mkF m 79 #[.val (.long q1), .second, .val (.long q2), .second, .val (.long q3), .second, .val (.int p4), .val (.ref b6), .val (.ref b8), .val (.ref b16), .val (.int (1 : Int32)), .val (.int (F_rm9 q1 q1)), .val (.int (1 : Int32)), .unset, .unset, .unset, .unset] [(.long q2), (.ref b8)])) rfl (by rw [hml]; rfl) (argsL := [(.ref b8), (.long q2)]) (rest := []) (lenOf pd_7 rfl) rfl (by show 2 * 0 + _ ≤ _; exact Nat.le_of_eq rfl) (hb hby at_79) (fun _ _ => ⟨rfl, e22, (by decide : 4 + 0 ≤ _), (by decide : 11 + 0 ≤ _)⟩)
    dsimp only [Pt.U, Pt.locs, Pt.cells, Pt.slots] at X23 l23 y23 z23 st23 hQ23
    subst l23 y23 z23
    obtain ⟨rfl, N23q, e23q⟩ := hQ23
    have N23 := Fr.app N22 N23q
    refine Run.go st23 ?_
    show Run p e below s 4 11 (Q_rm0 Z q1 q2 q3 p4 cs h0 n0) (T23.setTop (mkF m 82 #[.val (.long q1), .second, .val (.long q2), .second, .val (.long q3), .second, .val (.int p4), .val (.ref b6), .val (.ref b8), .val (.ref b16), .val (.int (1 : Int32)), .val (.int (F_rm9 q1 q1)), .val (.int (1 : Int32)), .unset, .unset, .unset, .unset] [(.int (F_rm9 q2 q1))]))
    refine Run.go (fun _ k => XS.istore X23.here hx rfl (hb hby at_82) rfl (l' := #[.val (.long q1), .second, .val (.long q2), .second, .val (.long q3), .second, .val (.int p4), .val (.ref b6), .val (.ref b8), .val (.ref b16), .val (.int (1 : Int32)), .val (.int (F_rm9 q1 q1)), .val (.int (1 : Int32)), .val (.int (F_rm9 q2 q1)), .unset, .unset, .unset]) rfl k) ?_
    show Run p e below s 4 11 (Q_rm0 Z q1 q2 q3 p4 cs h0 n0) (T23.setTop (mkF m 84 #[.val (.long q1), .second, .val (.long q2), .second, .val (.long q3), .second, .val (.int p4), .val (.ref b6), .val (.ref b8), .val (.ref b16), .val (.int (1 : Int32)), .val (.int (F_rm9 q1 q1)), .val (.int (1 : Int32)), .val (.int (F_rm9 q2 q1)), .unset, .unset, .unset] []))
    refine Run.go (fun _ k => XS.aload X23.here hx rfl (hb hby at_84) rfl rfl k) ?_
    show Run p e below s 4 11 (Q_rm0 Z q1 q2 q3 p4 cs h0 n0) (T23.setTop (mkF m 86 #[.val (.long q1), .second, .val (.long q2), .second, .val (.long q3), .second, .val (.int p4), .val (.ref b6), .val (.ref b8), .val (.ref b16), .val (.int (1 : Int32)), .val (.int (F_rm9 q1 q1)), .val (.int (1 : Int32)), .val (.int (F_rm9 q2 q1)), .unset, .unset, .unset] [(.ref b16)]))
    refine Run.go (fun _ k => XS.lloadN X23.here hx rfl (hb hby at_86) rfl  k) ?_
    show Run p e below s 4 11 (Q_rm0 Z q1 q2 q3 p4 cs h0 n0) (T23.setTop (mkF m 87 #[.val (.long q1), .second, .val (.long q2), .second, .val (.long q3), .second, .val (.int p4), .val (.ref b6), .val (.ref b8), .val (.ref b16), .val (.int (1 : Int32)), .val (.int (F_rm9 q1 q1)), .val (.int (1 : Int32)), .val (.int (F_rm9 q2 q1)), .unset, .unset, .unset] [(.long q2), (.ref b16)]))
    obtain ⟨_, _, ⟨T24, L24, k24, n24⟩, -, X24, ⟨Lc24, hQ24, l24, y24, z24⟩, st24⟩ := Jvm.LawKit.callS X23 hx (y := (⟨"com/example/hyra/hyra/LeaseValue", "endedBefore", "(Lcom/example/hyra/hyra/LeaseValue;J)Z"⟩ : MethodName)) hown (mvT hZ (hw _ (List.mem_of_getElem? (i := 50) rfl))) (mvT hZ (hw _ (List.mem_of_getElem? (i := 51) rfl))) (mvT hZ (hw _ (List.mem_of_getElem? (i := 28) rfl))) (mvT hZ (hw _ (List.mem_of_getElem? (i := 52) rfl))) (by decide) (backOf (W := 0) (rm9 l Z a0 hw [] b16 q2 (-9223372036854775808 : Int64) T13.heap n0 Z13 fq13_2) hZ (hw _ (List.mem_of_getElem? (i := 52) rfl)) (hw _ (List.mem_of_getElem? (i := 28) rfl)) (by decide) (by decide)) (g := (mkF m 87 #[.val (.long q1), .second, .val (.long q2), .second, .val (.long q3), .second, .val (.int p4), .val (.ref b6), .val (.ref b8), .val (.ref b16), .val (.int (1 : Int32)), .val (.int (F_rm9 q1 q1)), .val (.int (1 : Int32)), .val (.int (F_rm9 q2 q1)), .unset, .unset, .unset] [(.long q2), (.ref b16)])) rfl (by rw [hml]; rfl) (argsL := [(.ref b16), (.long q2)]) (rest := []) (lenOf pd_7 rfl) rfl (by show 2 * 0 + _ ≤ _; exact Nat.le_of_eq rfl) (hb hby at_87) (fun _ _ => ⟨rfl, e23q, (by decide : 4 + 0 ≤ _), (by decide : 11 + 0 ≤ _)⟩)
    dsimp only [Pt.U, Pt.locs, Pt.cells, Pt.slots] at X24 l24 y24 z24 st24 hQ24
    subst l24 y24 z24
    obtain ⟨rfl, N24q, e24q⟩ := hQ24
    have N24 := Fr.app N23 N24q
    refine Run.go st24 ?_
    show Run p e below s 4 11 (Q_rm0 Z q1 q2 q3 p4 cs h0 n0) (T24.setTop (mkF m 90 #[.val (.long q1), .second, .val (.long q2), .second, .val (.long q3), .second, .val (.int p4), .val (.ref b6), .val (.ref b8), .val (.ref b16), .val (.int (1 : Int32)), .val (.int (F_rm9 q1 q1)), .val (.int (1 : Int32)), .val (.int (F_rm9 q2 q1)), .unset, .unset, .unset] [(.int (F_rm9 q2 (-9223372036854775808 : Int64)))]))
    refine Run.go (fun _ k => XS.istore X24.here hx rfl (hb hby at_90) rfl (l' := #[.val (.long q1), .second, .val (.long q2), .second, .val (.long q3), .second, .val (.int p4), .val (.ref b6), .val (.ref b8), .val (.ref b16), .val (.int (1 : Int32)), .val (.int (F_rm9 q1 q1)), .val (.int (1 : Int32)), .val (.int (F_rm9 q2 q1)), .val (.int (F_rm9 q2 (-9223372036854775808 : Int64))), .unset, .unset]) rfl k) ?_
    show Run p e below s 4 11 (Q_rm0 Z q1 q2 q3 p4 cs h0 n0) (T24.setTop (mkF m 92 #[.val (.long q1), .second, .val (.long q2), .second, .val (.long q3), .second, .val (.int p4), .val (.ref b6), .val (.ref b8), .val (.ref b16), .val (.int (1 : Int32)), .val (.int (F_rm9 q1 q1)), .val (.int (1 : Int32)), .val (.int (F_rm9 q2 q1)), .val (.int (F_rm9 q2 (-9223372036854775808 : Int64))), .unset, .unset] []))
    refine Run.go (fun _ k => XS.lloadN X24.here hx rfl (hb hby at_92) rfl  k) ?_
    show Run p e below s 4 11 (Q_rm0 Z q1 q2 q3 p4 cs h0 n0) (T24.setTop (mkF m 93 #[.val (.long q1), .second, .val (.long q2), .second, .val (.long q3), .second, .val (.int p4), .val (.ref b6), .val (.ref b8), .val (.ref b16), .val (.int (1 : Int32)), .val (.int (F_rm9 q1 q1)), .val (.int (1 : Int32)), .val (.int (F_rm9 q2 q1)), .val (.int (F_rm9 q2 (-9223372036854775808 : Int64))), .unset, .unset] [(.long q2)]))
    refine Run.go (fun _ k => XS.lloadN X24.here hx rfl (hb hby at_93) rfl  k) ?_
    show Run p e below s 4 11 (Q_rm0 Z q1 q2 q3 p4 cs h0 n0) (T24.setTop (mkF m 94 #[.val (.long q1), .second, .val (.long q2), .second, .val (.long q3), .second, .val (.int p4), .val (.ref b6), .val (.ref b8), .val (.ref b16), .val (.int (1 : Int32)), .val (.int (F_rm9 q1 q1)), .val (.int (1 : Int32)), .val (.int (F_rm9 q2 q1)), .val (.int (F_rm9 q2 (-9223372036854775808 : Int64))), .unset, .unset] [(.long q1), (.long q2)]))
    refine Run.go (fun _ k => XS.lcmp X24.here hx rfl (hb hby at_94) rfl k) ?_
    show Run p e below s 4 11 (Q_rm0 Z q1 q2 q3 p4 cs h0 n0) (T24.setTop (mkF m 95 #[.val (.long q1), .second, .val (.long q2), .second, .val (.long q3), .second, .val (.int p4), .val (.ref b6), .val (.ref b8), .val (.ref b16), .val (.int (1 : Int32)), .val (.int (F_rm9 q1 q1)), .val (.int (1 : Int32)), .val (.int (F_rm9 q2 q1)), .val (.int (F_rm9 q2 (-9223372036854775808 : Int64))), .unset, .unset] [(.int (lcmpW q2 q1))]))
    have J25 : ∀ (w26 : Int32) (hw26 : w26 = (if (q1 < q2) then (1 : Int32) else 0)) (T27 : State) (L27 : List Loc) (X27 : Stand p l e room_1 s m #[(.long q1), (.long q2), (.long q3), (.int p4)] below meth c T27 L27 4 11) (e27 : T27.heap = T13.heap) (N27 : Fr n0 L27), Run p e below s 4 11 (Q_rm0 Z q1 q2 q3 p4 cs h0 n0) (T27.setTop (mkF m 107 #[.val (.long q1), .second, .val (.long q2), .second, .val (.long q3), .second, .val (.int p4), .val (.ref b6), .val (.ref b8), .val (.ref b16), .val (.int (1 : Int32)), .val (.int (F_rm9 q1 q1)), .val (.int (1 : Int32)), .val (.int (F_rm9 q2 q1)), .val (.int (F_rm9 q2 (-9223372036854775808 : Int64))), .val (.int w26), .unset] [])) := by
      intro w26 hw26 T27 L27 X27 e27 N27
      show Run p e below s 4 11 (Q_rm0 Z q1 q2 q3 p4 cs h0 n0) (T27.setTop (mkF m 107 #[.val (.long q1), .second, .val (.long q2), .second, .val (.long q3), .second, .val (.int p4), .val (.ref b6), .val (.ref b8), .val (.ref b16), .val (.int (1 : Int32)), .val (.int (F_rm9 q1 q1)), .val (.int (1 : Int32)), .val (.int (F_rm9 q2 q1)), .val (.int (F_rm9 q2 (-9223372036854775808 : Int64))), .val (.int w26), .unset] []))
      refine Run.go (fun _ k => XS.lloadN X27.here hx rfl (hb hby at_107) rfl  k) ?_
      show Run p e below s 4 11 (Q_rm0 Z q1 q2 q3 p4 cs h0 n0) (T27.setTop (mkF m 108 #[.val (.long q1), .second, .val (.long q2), .second, .val (.long q3), .second, .val (.int p4), .val (.ref b6), .val (.ref b8), .val (.ref b16), .val (.int (1 : Int32)), .val (.int (F_rm9 q1 q1)), .val (.int (1 : Int32)), .val (.int (F_rm9 q2 q1)), .val (.int (F_rm9 q2 (-9223372036854775808 : Int64))), .val (.int w26), .unset] [(.long q2)]))
      refine Run.go (fun _ k => X27.ldc2Long hx hown (mvT hZ (hw _ (List.mem_of_getElem? (i := 54) rfl))) (g := (mkF m 108 #[.val (.long q1), .second, .val (.long q2), .second, .val (.long q3), .second, .val (.int p4), .val (.ref b6), .val (.ref b8), .val (.ref b16), .val (.int (1 : Int32)), .val (.int (F_rm9 q1 q1)), .val (.int (1 : Int32)), .val (.int (F_rm9 q2 q1)), .val (.int (F_rm9 q2 (-9223372036854775808 : Int64))), .val (.int w26), .unset] [(.long q2)])) rfl (hb hby at_108) _ k) ?_
      show Run p e below s 4 11 (Q_rm0 Z q1 q2 q3 p4 cs h0 n0) (T27.setTop (mkF m 111 #[.val (.long q1), .second, .val (.long q2), .second, .val (.long q3), .second, .val (.int p4), .val (.ref b6), .val (.ref b8), .val (.ref b16), .val (.int (1 : Int32)), .val (.int (F_rm9 q1 q1)), .val (.int (1 : Int32)), .val (.int (F_rm9 q2 q1)), .val (.int (F_rm9 q2 (-9223372036854775808 : Int64))), .val (.int w26), .unset] [(.long (-9223372036854775808 : Int64)), (.long q2)]))
      refine Run.go (fun _ k => XS.lcmp X27.here hx rfl (hb hby at_111) rfl k) ?_
      show Run p e below s 4 11 (Q_rm0 Z q1 q2 q3 p4 cs h0 n0) (T27.setTop (mkF m 112 #[.val (.long q1), .second, .val (.long q2), .second, .val (.long q3), .second, .val (.int p4), .val (.ref b6), .val (.ref b8), .val (.ref b16), .val (.int (1 : Int32)), .val (.int (F_rm9 q1 q1)), .val (.int (1 : Int32)), .val (.int (F_rm9 q2 q1)), .val (.int (F_rm9 q2 (-9223372036854775808 : Int64))), .val (.int w26), .unset] [(.int (lcmpW q2 (-9223372036854775808 : Int64)))]))
      have J28 : ∀ (w29 : Int32) (hw29 : w29 = (if (¬ (q2 = (-9223372036854775808 : Int64))) then (1 : Int32) else 0)) (T30 : State) (L30 : List Loc) (X30 : Stand p l e room_1 s m #[(.long q1), (.long q2), (.long q3), (.int p4)] below meth c T30 L30 4 11) (e30 : T30.heap = T13.heap) (N30 : Fr n0 L30), Run p e below s 4 11 (Q_rm0 Z q1 q2 q3 p4 cs h0 n0) (T30.setTop (mkF m 120 #[.val (.long q1), .second, .val (.long q2), .second, .val (.long q3), .second, .val (.int p4), .val (.ref b6), .val (.ref b8), .val (.ref b16), .val (.int (1 : Int32)), .val (.int (F_rm9 q1 q1)), .val (.int (1 : Int32)), .val (.int (F_rm9 q2 q1)), .val (.int (F_rm9 q2 (-9223372036854775808 : Int64))), .val (.int w26), .unset] [(.int w29)])) := by
        intro w29 hw29 T30 L30 X30 e30 N30
        show Run p e below s 4 11 (Q_rm0 Z q1 q2 q3 p4 cs h0 n0) (T30.setTop (mkF m 120 #[.val (.long q1), .second, .val (.long q2), .second, .val (.long q3), .second, .val (.int p4), .val (.ref b6), .val (.ref b8), .val (.ref b16), .val (.int (1 : Int32)), .val (.int (F_rm9 q1 q1)), .val (.int (1 : Int32)), .val (.int (F_rm9 q2 q1)), .val (.int (F_rm9 q2 (-9223372036854775808 : Int64))), .val (.int w26), .unset] [(.int w29)]))
        refine Run.go (fun _ k => XS.istore X30.here hx rfl (hb hby at_120) rfl (l' := #[.val (.long q1), .second, .val (.long q2), .second, .val (.long q3), .second, .val (.int p4), .val (.ref b6), .val (.ref b8), .val (.ref b16), .val (.int (1 : Int32)), .val (.int (F_rm9 q1 q1)), .val (.int (1 : Int32)), .val (.int (F_rm9 q2 q1)), .val (.int (F_rm9 q2 (-9223372036854775808 : Int64))), .val (.int w26), .val (.int w29)]) rfl k) ?_
        show Run p e below s 4 11 (Q_rm0 Z q1 q2 q3 p4 cs h0 n0) (T30.setTop (mkF m 122 #[.val (.long q1), .second, .val (.long q2), .second, .val (.long q3), .second, .val (.int p4), .val (.ref b6), .val (.ref b8), .val (.ref b16), .val (.int (1 : Int32)), .val (.int (F_rm9 q1 q1)), .val (.int (1 : Int32)), .val (.int (F_rm9 q2 q1)), .val (.int (F_rm9 q2 (-9223372036854775808 : Int64))), .val (.int w26), .val (.int w29)] []))
        refine Run.go (fun _ k => XS.iload X30.here hx rfl (hb hby at_122) rfl  k) ?_
        show Run p e below s 4 11 (Q_rm0 Z q1 q2 q3 p4 cs h0 n0) (T30.setTop (mkF m 124 #[.val (.long q1), .second, .val (.long q2), .second, .val (.long q3), .second, .val (.int p4), .val (.ref b6), .val (.ref b8), .val (.ref b16), .val (.int (1 : Int32)), .val (.int (F_rm9 q1 q1)), .val (.int (1 : Int32)), .val (.int (F_rm9 q2 q1)), .val (.int (F_rm9 q2 (-9223372036854775808 : Int64))), .val (.int w26), .val (.int w29)] [(.int (1 : Int32))]))
        refine Run.go (fun _ k => XS.ifNo X30.here hx rfl (hb hby at_124) rfl ((if0 _ _).trans (feq (by decide)).1) k) ?_
        show Run p e below s 4 11 (Q_rm0 Z q1 q2 q3 p4 cs h0 n0) (T30.setTop (mkF m 127 #[.val (.long q1), .second, .val (.long q2), .second, .val (.long q3), .second, .val (.int p4), .val (.ref b6), .val (.ref b8), .val (.ref b16), .val (.int (1 : Int32)), .val (.int (F_rm9 q1 q1)), .val (.int (1 : Int32)), .val (.int (F_rm9 q2 q1)), .val (.int (F_rm9 q2 (-9223372036854775808 : Int64))), .val (.int w26), .val (.int w29)] []))
        refine Run.go (fun _ k => XS.iload X30.here hx rfl (hb hby at_127) rfl  k) ?_
        show Run p e below s 4 11 (Q_rm0 Z q1 q2 q3 p4 cs h0 n0) (T30.setTop (mkF m 129 #[.val (.long q1), .second, .val (.long q2), .second, .val (.long q3), .second, .val (.int p4), .val (.ref b6), .val (.ref b8), .val (.ref b16), .val (.int (1 : Int32)), .val (.int (F_rm9 q1 q1)), .val (.int (1 : Int32)), .val (.int (F_rm9 q2 q1)), .val (.int (F_rm9 q2 (-9223372036854775808 : Int64))), .val (.int w26), .val (.int w29)] [(.int (F_rm9 q1 q1))]))
        refine Run.go (fun _ k => XS.ifNo X30.here hx rfl (hb hby at_129) rfl ((if0 _ _).trans (teq (own_at _)).2) k) ?_
        show Run p e below s 4 11 (Q_rm0 Z q1 q2 q3 p4 cs h0 n0) (T30.setTop (mkF m 132 #[.val (.long q1), .second, .val (.long q2), .second, .val (.long q3), .second, .val (.int p4), .val (.ref b6), .val (.ref b8), .val (.ref b16), .val (.int (1 : Int32)), .val (.int (F_rm9 q1 q1)), .val (.int (1 : Int32)), .val (.int (F_rm9 q2 q1)), .val (.int (F_rm9 q2 (-9223372036854775808 : Int64))), .val (.int w26), .val (.int w29)] []))
        refine Run.go (fun _ k => XS.iload X30.here hx rfl (hb hby at_132) rfl  k) ?_
        show Run p e below s 4 11 (Q_rm0 Z q1 q2 q3 p4 cs h0 n0) (T30.setTop (mkF m 134 #[.val (.long q1), .second, .val (.long q2), .second, .val (.long q3), .second, .val (.int p4), .val (.ref b6), .val (.ref b8), .val (.ref b16), .val (.int (1 : Int32)), .val (.int (F_rm9 q1 q1)), .val (.int (1 : Int32)), .val (.int (F_rm9 q2 q1)), .val (.int (F_rm9 q2 (-9223372036854775808 : Int64))), .val (.int w26), .val (.int w29)] [(.int (1 : Int32))]))
        refine Run.go (fun _ k => XS.ifNo X30.here hx rfl (hb hby at_134) rfl ((if0 _ _).trans (feq (by decide)).1) k) ?_
        show Run p e below s 4 11 (Q_rm0 Z q1 q2 q3 p4 cs h0 n0) (T30.setTop (mkF m 137 #[.val (.long q1), .second, .val (.long q2), .second, .val (.long q3), .second, .val (.int p4), .val (.ref b6), .val (.ref b8), .val (.ref b16), .val (.int (1 : Int32)), .val (.int (F_rm9 q1 q1)), .val (.int (1 : Int32)), .val (.int (F_rm9 q2 q1)), .val (.int (F_rm9 q2 (-9223372036854775808 : Int64))), .val (.int w26), .val (.int w29)] []))
        refine Run.go (fun _ k => XS.iload X30.here hx rfl (hb hby at_137) rfl  k) ?_
        show Run p e below s 4 11 (Q_rm0 Z q1 q2 q3 p4 cs h0 n0) (T30.setTop (mkF m 139 #[.val (.long q1), .second, .val (.long q2), .second, .val (.long q3), .second, .val (.int p4), .val (.ref b6), .val (.ref b8), .val (.ref b16), .val (.int (1 : Int32)), .val (.int (F_rm9 q1 q1)), .val (.int (1 : Int32)), .val (.int (F_rm9 q2 q1)), .val (.int (F_rm9 q2 (-9223372036854775808 : Int64))), .val (.int w26), .val (.int w29)] [(.int (F_rm9 q2 q1))]))
        refine Run.go (fun _ k => XS.iload X30.here hx rfl (hb hby at_139) rfl  k) ?_
        show Run p e below s 4 11 (Q_rm0 Z q1 q2 q3 p4 cs h0 n0) (T30.setTop (mkF m 141 #[.val (.long q1), .second, .val (.long q2), .second, .val (.long q3), .second, .val (.int p4), .val (.ref b6), .val (.ref b8), .val (.ref b16), .val (.int (1 : Int32)), .val (.int (F_rm9 q1 q1)), .val (.int (1 : Int32)), .val (.int (F_rm9 q2 q1)), .val (.int (F_rm9 q2 (-9223372036854775808 : Int64))), .val (.int w26), .val (.int w29)] [(.int w26), (.int (F_rm9 q2 q1))]))
        refine Run.go (fun _ k => XS.icmpNo X30.here hx rfl (hb hby at_141) rfl (teq ((own_r _ _ 0).trans hw26.symm)).2 k) ?_
        show Run p e below s 4 11 (Q_rm0 Z q1 q2 q3 p4 cs h0 n0) (T30.setTop (mkF m 144 #[.val (.long q1), .second, .val (.long q2), .second, .val (.long q3), .second, .val (.int p4), .val (.ref b6), .val (.ref b8), .val (.ref b16), .val (.int (1 : Int32)), .val (.int (F_rm9 q1 q1)), .val (.int (1 : Int32)), .val (.int (F_rm9 q2 q1)), .val (.int (F_rm9 q2 (-9223372036854775808 : Int64))), .val (.int w26), .val (.int w29)] []))
        refine Run.go (fun _ k => XS.iload X30.here hx rfl (hb hby at_144) rfl  k) ?_
        show Run p e below s 4 11 (Q_rm0 Z q1 q2 q3 p4 cs h0 n0) (T30.setTop (mkF m 146 #[.val (.long q1), .second, .val (.long q2), .second, .val (.long q3), .second, .val (.int p4), .val (.ref b6), .val (.ref b8), .val (.ref b16), .val (.int (1 : Int32)), .val (.int (F_rm9 q1 q1)), .val (.int (1 : Int32)), .val (.int (F_rm9 q2 q1)), .val (.int (F_rm9 q2 (-9223372036854775808 : Int64))), .val (.int w26), .val (.int w29)] [(.int (F_rm9 q2 (-9223372036854775808 : Int64)))]))
        refine Run.go (fun _ k => XS.iload X30.here hx rfl (hb hby at_146) rfl  k) ?_
        show Run p e below s 4 11 (Q_rm0 Z q1 q2 q3 p4 cs h0 n0) (T30.setTop (mkF m 148 #[.val (.long q1), .second, .val (.long q2), .second, .val (.long q3), .second, .val (.int p4), .val (.ref b6), .val (.ref b8), .val (.ref b16), .val (.int (1 : Int32)), .val (.int (F_rm9 q1 q1)), .val (.int (1 : Int32)), .val (.int (F_rm9 q2 q1)), .val (.int (F_rm9 q2 (-9223372036854775808 : Int64))), .val (.int w26), .val (.int w29)] [(.int w29), (.int (F_rm9 q2 (-9223372036854775808 : Int64)))]))
        refine Run.go (fun _ k => XS.icmpNo X30.here hx rfl (hb hby at_148) rfl (teq ((own_rel _).trans hw29.symm)).2 k) ?_
        show Run p e below s 4 11 (Q_rm0 Z q1 q2 q3 p4 cs h0 n0) (T30.setTop (mkF m 151 #[.val (.long q1), .second, .val (.long q2), .second, .val (.long q3), .second, .val (.int p4), .val (.ref b6), .val (.ref b8), .val (.ref b16), .val (.int (1 : Int32)), .val (.int (F_rm9 q1 q1)), .val (.int (1 : Int32)), .val (.int (F_rm9 q2 q1)), .val (.int (F_rm9 q2 (-9223372036854775808 : Int64))), .val (.int w26), .val (.int w29)] []))
        refine Run.go (fun _ k => XS.iconst X30.here hx rfl (hb hby at_151) k) ?_
        show Run p e below s 4 11 (Q_rm0 Z q1 q2 q3 p4 cs h0 n0) (T30.setTop (mkF m 152 #[.val (.long q1), .second, .val (.long q2), .second, .val (.long q3), .second, .val (.int p4), .val (.ref b6), .val (.ref b8), .val (.ref b16), .val (.int (1 : Int32)), .val (.int (F_rm9 q1 q1)), .val (.int (1 : Int32)), .val (.int (F_rm9 q2 q1)), .val (.int (F_rm9 q2 (-9223372036854775808 : Int64))), .val (.int w26), .val (.int w29)] [(.int (1 : Int32))]))
        refine Run.go (fun _ k => XS.goto X30.here hx rfl (pc0 := 152) (pc' := 156) rfl (hb hby at_152) (by decide) (by decide) k) ?_
        show Run p e below s 4 11 (Q_rm0 Z q1 q2 q3 p4 cs h0 n0) (T30.setTop (mkF m 156 #[.val (.long q1), .second, .val (.long q2), .second, .val (.long q3), .second, .val (.int p4), .val (.ref b6), .val (.ref b8), .val (.ref b16), .val (.int (1 : Int32)), .val (.int (F_rm9 q1 q1)), .val (.int (1 : Int32)), .val (.int (F_rm9 q2 q1)), .val (.int (F_rm9 q2 (-9223372036854775808 : Int64))), .val (.int w26), .val (.int w29)] [(.int (1 : Int32))]))
        exact Run.retN (y := 1) X30 hx (t := .boolean) Bd.returns (by simp) rfl Bd.notSynchronized (hb hby at_156) (by decide) (by decide) ⟨rfl, N30⟩
      by_cases hc31 : (q2 = (-9223372036854775808 : Int64))
      · refine Run.go (fun _ k => XS.ifYes X27.here hx rfl (pc0 := 112) (pc' := 119) rfl (hb hby at_112) rfl ((if0 _ _).trans (teq ((lw_eq q2 (-9223372036854775808 : Int64)).mpr hc31)).1) (by decide) (by decide) k) ?_
        show Run p e below s 4 11 (Q_rm0 Z q1 q2 q3 p4 cs h0 n0) (T27.setTop (mkF m 119 #[.val (.long q1), .second, .val (.long q2), .second, .val (.long q3), .second, .val (.int p4), .val (.ref b6), .val (.ref b8), .val (.ref b16), .val (.int (1 : Int32)), .val (.int (F_rm9 q1 q1)), .val (.int (1 : Int32)), .val (.int (F_rm9 q2 q1)), .val (.int (F_rm9 q2 (-9223372036854775808 : Int64))), .val (.int w26), .unset] []))
        refine Run.go (fun _ k => XS.iconst X27.here hx rfl (hb hby at_119) k) ?_
        show Run p e below s 4 11 (Q_rm0 Z q1 q2 q3 p4 cs h0 n0) (T27.setTop (mkF m 120 #[.val (.long q1), .second, .val (.long q2), .second, .val (.long q3), .second, .val (.int p4), .val (.ref b6), .val (.ref b8), .val (.ref b16), .val (.int (1 : Int32)), .val (.int (F_rm9 q1 q1)), .val (.int (1 : Int32)), .val (.int (F_rm9 q2 q1)), .val (.int (F_rm9 q2 (-9223372036854775808 : Int64))), .val (.int w26), .unset] [(.int (0 : Int32))]))
        exact J28 _ (if_neg (fun q => q hc31)).symm _ _ X27 e27 N27
      · refine Run.go (fun _ k => XS.ifNo X27.here hx rfl (hb hby at_112) rfl ((if0 _ _).trans (feq (mt (lw_eq q2 (-9223372036854775808 : Int64)).mp hc31)).1) k) ?_
        show Run p e below s 4 11 (Q_rm0 Z q1 q2 q3 p4 cs h0 n0) (T27.setTop (mkF m 115 #[.val (.long q1), .second, .val (.long q2), .second, .val (.long q3), .second, .val (.int p4), .val (.ref b6), .val (.ref b8), .val (.ref b16), .val (.int (1 : Int32)), .val (.int (F_rm9 q1 q1)), .val (.int (1 : Int32)), .val (.int (F_rm9 q2 q1)), .val (.int (F_rm9 q2 (-9223372036854775808 : Int64))), .val (.int w26), .unset] []))
        refine Run.go (fun _ k => XS.iconst X27.here hx rfl (hb hby at_115) k) ?_
        show Run p e below s 4 11 (Q_rm0 Z q1 q2 q3 p4 cs h0 n0) (T27.setTop (mkF m 116 #[.val (.long q1), .second, .val (.long q2), .second, .val (.long q3), .second, .val (.int p4), .val (.ref b6), .val (.ref b8), .val (.ref b16), .val (.int (1 : Int32)), .val (.int (F_rm9 q1 q1)), .val (.int (1 : Int32)), .val (.int (F_rm9 q2 q1)), .val (.int (F_rm9 q2 (-9223372036854775808 : Int64))), .val (.int w26), .unset] [(.int (1 : Int32))]))
        refine Run.go (fun _ k => XS.goto X27.here hx rfl (pc0 := 116) (pc' := 120) rfl (hb hby at_116) (by decide) (by decide) k) ?_
        show Run p e below s 4 11 (Q_rm0 Z q1 q2 q3 p4 cs h0 n0) (T27.setTop (mkF m 120 #[.val (.long q1), .second, .val (.long q2), .second, .val (.long q3), .second, .val (.int p4), .val (.ref b6), .val (.ref b8), .val (.ref b16), .val (.int (1 : Int32)), .val (.int (F_rm9 q1 q1)), .val (.int (1 : Int32)), .val (.int (F_rm9 q2 q1)), .val (.int (F_rm9 q2 (-9223372036854775808 : Int64))), .val (.int w26), .unset] [(.int (1 : Int32))]))
        exact J28 _ (if_pos hc31).symm _ _ X27 e27 N27
    by_cases hc32 : (q1 < q2)
    · refine Run.go (fun _ k => XS.ifYes X24.here hx rfl (pc0 := 95) (pc' := 104) rfl (hb hby at_95) rfl ((if0 _ _).trans (tlt ((lw_gt q2 q1).mpr hc32)).2.2.1) (by decide) (by decide) k) ?_
      show Run p e below s 4 11 (Q_rm0 Z q1 q2 q3 p4 cs h0 n0) (T24.setTop (mkF m 104 #[.val (.long q1), .second, .val (.long q2), .second, .val (.long q3), .second, .val (.int p4), .val (.ref b6), .val (.ref b8), .val (.ref b16), .val (.int (1 : Int32)), .val (.int (F_rm9 q1 q1)), .val (.int (1 : Int32)), .val (.int (F_rm9 q2 q1)), .val (.int (F_rm9 q2 (-9223372036854775808 : Int64))), .unset, .unset] []))
      refine Run.go (fun _ k => XS.iconst X24.here hx rfl (hb hby at_104) k) ?_
      show Run p e below s 4 11 (Q_rm0 Z q1 q2 q3 p4 cs h0 n0) (T24.setTop (mkF m 105 #[.val (.long q1), .second, .val (.long q2), .second, .val (.long q3), .second, .val (.int p4), .val (.ref b6), .val (.ref b8), .val (.ref b16), .val (.int (1 : Int32)), .val (.int (F_rm9 q1 q1)), .val (.int (1 : Int32)), .val (.int (F_rm9 q2 q1)), .val (.int (F_rm9 q2 (-9223372036854775808 : Int64))), .unset, .unset] [(.int (1 : Int32))]))
      refine Run.go (fun _ k => XS.istore X24.here hx rfl (hb hby at_105) rfl (l' := #[.val (.long q1), .second, .val (.long q2), .second, .val (.long q3), .second, .val (.int p4), .val (.ref b6), .val (.ref b8), .val (.ref b16), .val (.int (1 : Int32)), .val (.int (F_rm9 q1 q1)), .val (.int (1 : Int32)), .val (.int (F_rm9 q2 q1)), .val (.int (F_rm9 q2 (-9223372036854775808 : Int64))), .val (.int (1 : Int32)), .unset]) rfl k) ?_
      show Run p e below s 4 11 (Q_rm0 Z q1 q2 q3 p4 cs h0 n0) (T24.setTop (mkF m 107 #[.val (.long q1), .second, .val (.long q2), .second, .val (.long q3), .second, .val (.int p4), .val (.ref b6), .val (.ref b8), .val (.ref b16), .val (.int (1 : Int32)), .val (.int (F_rm9 q1 q1)), .val (.int (1 : Int32)), .val (.int (F_rm9 q2 q1)), .val (.int (F_rm9 q2 (-9223372036854775808 : Int64))), .val (.int (1 : Int32)), .unset] []))
      exact J25 _ (if_pos hc32).symm _ _ X24 e24q N24
    · refine Run.go (fun _ k => XS.ifNo X24.here hx rfl (hb hby at_95) rfl ((if0 _ _).trans (flt (mt (lw_gt q2 q1).mp hc32)).2.2.1) k) ?_
      show Run p e below s 4 11 (Q_rm0 Z q1 q2 q3 p4 cs h0 n0) (T24.setTop (mkF m 98 #[.val (.long q1), .second, .val (.long q2), .second, .val (.long q3), .second, .val (.int p4), .val (.ref b6), .val (.ref b8), .val (.ref b16), .val (.int (1 : Int32)), .val (.int (F_rm9 q1 q1)), .val (.int (1 : Int32)), .val (.int (F_rm9 q2 q1)), .val (.int (F_rm9 q2 (-9223372036854775808 : Int64))), .unset, .unset] []))
      refine Run.go (fun _ k => XS.iconst X24.here hx rfl (hb hby at_98) k) ?_
      show Run p e below s 4 11 (Q_rm0 Z q1 q2 q3 p4 cs h0 n0) (T24.setTop (mkF m 99 #[.val (.long q1), .second, .val (.long q2), .second, .val (.long q3), .second, .val (.int p4), .val (.ref b6), .val (.ref b8), .val (.ref b16), .val (.int (1 : Int32)), .val (.int (F_rm9 q1 q1)), .val (.int (1 : Int32)), .val (.int (F_rm9 q2 q1)), .val (.int (F_rm9 q2 (-9223372036854775808 : Int64))), .unset, .unset] [(.int (0 : Int32))]))
      refine Run.go (fun _ k => XS.istore X24.here hx rfl (hb hby at_99) rfl (l' := #[.val (.long q1), .second, .val (.long q2), .second, .val (.long q3), .second, .val (.int p4), .val (.ref b6), .val (.ref b8), .val (.ref b16), .val (.int (1 : Int32)), .val (.int (F_rm9 q1 q1)), .val (.int (1 : Int32)), .val (.int (F_rm9 q2 q1)), .val (.int (F_rm9 q2 (-9223372036854775808 : Int64))), .val (.int (0 : Int32)), .unset]) rfl k) ?_
      show Run p e below s 4 11 (Q_rm0 Z q1 q2 q3 p4 cs h0 n0) (T24.setTop (mkF m 101 #[.val (.long q1), .second, .val (.long q2), .second, .val (.long q3), .second, .val (.int p4), .val (.ref b6), .val (.ref b8), .val (.ref b16), .val (.int (1 : Int32)), .val (.int (F_rm9 q1 q1)), .val (.int (1 : Int32)), .val (.int (F_rm9 q2 q1)), .val (.int (F_rm9 q2 (-9223372036854775808 : Int64))), .val (.int (0 : Int32)), .unset] []))
      refine Run.go (fun _ k => XS.goto X24.here hx rfl (pc0 := 101) (pc' := 107) rfl (hb hby at_101) (by decide) (by decide) k) ?_
      show Run p e below s 4 11 (Q_rm0 Z q1 q2 q3 p4 cs h0 n0) (T24.setTop (mkF m 107 #[.val (.long q1), .second, .val (.long q2), .second, .val (.long q3), .second, .val (.int p4), .val (.ref b6), .val (.ref b8), .val (.ref b16), .val (.int (1 : Int32)), .val (.int (F_rm9 q1 q1)), .val (.int (1 : Int32)), .val (.int (F_rm9 q2 q1)), .val (.int (F_rm9 q2 (-9223372036854775808 : Int64))), .val (.int (0 : Int32)), .unset] []))
      exact J25 _ (if_neg hc32).symm _ _ X24 e24q N24
  by_cases hc33 : (q1 = (9223372036854775807 : Int64))
  · refine Run.go (fun _ k => XS.ifYes X18.here hx rfl (pc0 := 55) (pc' := 69) rfl (hb hby at_55) rfl ((if0 _ _).trans (teq ((lw_eq q1 (9223372036854775807 : Int64)).mpr hc33)).1) (by decide) (by decide) k) ?_
    show Run p e below s 4 11 (Q_rm0 Z q1 q2 q3 p4 cs h0 n0) (T18.setTop (mkF m 69 #[.val (.long q1), .second, .val (.long q2), .second, .val (.long q3), .second, .val (.int p4), .val (.ref b6), .val (.ref b8), .val (.ref b16), .val (.int (1 : Int32)), .val (.int (F_rm9 q1 q1)), .unset, .unset, .unset, .unset, .unset] []))
    refine Run.go (fun _ k => XS.iconst X18.here hx rfl (hb hby at_69) k) ?_
    show Run p e below s 4 11 (Q_rm0 Z q1 q2 q3 p4 cs h0 n0) (T18.setTop (mkF m 70 #[.val (.long q1), .second, .val (.long q2), .second, .val (.long q3), .second, .val (.int p4), .val (.ref b6), .val (.ref b8), .val (.ref b16), .val (.int (1 : Int32)), .val (.int (F_rm9 q1 q1)), .unset, .unset, .unset, .unset, .unset] [(.int (1 : Int32))]))
    refine Run.go (fun _ k => XS.goto X18.here hx rfl (pc0 := 70) (pc' := 74) rfl (hb hby at_70) (by decide) (by decide) k) ?_
    show Run p e below s 4 11 (Q_rm0 Z q1 q2 q3 p4 cs h0 n0) (T18.setTop (mkF m 74 #[.val (.long q1), .second, .val (.long q2), .second, .val (.long q3), .second, .val (.int p4), .val (.ref b6), .val (.ref b8), .val (.ref b16), .val (.int (1 : Int32)), .val (.int (F_rm9 q1 q1)), .unset, .unset, .unset, .unset, .unset] [(.int (1 : Int32))]))
    exact J21  _ _ X18 e18q N18
  · refine Run.go (fun _ k => XS.ifNo X18.here hx rfl (hb hby at_55) rfl ((if0 _ _).trans (feq (mt (lw_eq q1 (9223372036854775807 : Int64)).mp hc33)).1) k) ?_
    show Run p e below s 4 11 (Q_rm0 Z q1 q2 q3 p4 cs h0 n0) (T18.setTop (mkF m 58 #[.val (.long q1), .second, .val (.long q2), .second, .val (.long q3), .second, .val (.int p4), .val (.ref b6), .val (.ref b8), .val (.ref b16), .val (.int (1 : Int32)), .val (.int (F_rm9 q1 q1)), .unset, .unset, .unset, .unset, .unset] []))
    refine Run.go (fun _ k => XS.aload X18.here hx rfl (hb hby at_58) rfl rfl k) ?_
    show Run p e below s 4 11 (Q_rm0 Z q1 q2 q3 p4 cs h0 n0) (T18.setTop (mkF m 60 #[.val (.long q1), .second, .val (.long q2), .second, .val (.long q3), .second, .val (.int p4), .val (.ref b6), .val (.ref b8), .val (.ref b16), .val (.int (1 : Int32)), .val (.int (F_rm9 q1 q1)), .unset, .unset, .unset, .unset, .unset] [(.ref b8)]))
    refine Run.go (fun _ k => XS.lloadN X18.here hx rfl (hb hby at_60) rfl  k) ?_
    show Run p e below s 4 11 (Q_rm0 Z q1 q2 q3 p4 cs h0 n0) (T18.setTop (mkF m 61 #[.val (.long q1), .second, .val (.long q2), .second, .val (.long q3), .second, .val (.int p4), .val (.ref b6), .val (.ref b8), .val (.ref b16), .val (.int (1 : Int32)), .val (.int (F_rm9 q1 q1)), .unset, .unset, .unset, .unset, .unset] [(.long q1), (.ref b8)]))
    refine Run.go (fun _ k => XS.lconst X18.here hx rfl (hb hby at_61) k) ?_
    show Run p e below s 4 11 (Q_rm0 Z q1 q2 q3 p4 cs h0 n0) (T18.setTop (mkF m 62 #[.val (.long q1), .second, .val (.long q2), .second, .val (.long q3), .second, .val (.int p4), .val (.ref b6), .val (.ref b8), .val (.ref b16), .val (.int (1 : Int32)), .val (.int (F_rm9 q1 q1)), .unset, .unset, .unset, .unset, .unset] [(.long (1 : Int64)), (.long q1), (.ref b8)]))
    refine Run.go (fun _ k => XS.ladd X18.here hx rfl (hb hby at_62) rfl k) ?_
    show Run p e below s 4 11 (Q_rm0 Z q1 q2 q3 p4 cs h0 n0) (T18.setTop (mkF m 63 #[.val (.long q1), .second, .val (.long q2), .second, .val (.long q3), .second, .val (.int p4), .val (.ref b6), .val (.ref b8), .val (.ref b16), .val (.int (1 : Int32)), .val (.int (F_rm9 q1 q1)), .unset, .unset, .unset, .unset, .unset] [(.long (q1 + (1 : Int64))), (.ref b8)]))
    obtain ⟨_, _, ⟨T34, L34, k34, n34⟩, -, X34, ⟨Lc34, hQ34, l34, y34, z34⟩, st34⟩ := Jvm.LawKit.callS X18 hx (y := (⟨"com/example/hyra/hyra/LeaseValue", "endedBefore", "(Lcom/example/hyra/hyra/LeaseValue;J)Z"⟩ : MethodName)) hown (mvT hZ (hw _ (List.mem_of_getElem? (i := 50) rfl))) (mvT hZ (hw _ (List.mem_of_getElem? (i := 51) rfl))) (mvT hZ (hw _ (List.mem_of_getElem? (i := 28) rfl))) (mvT hZ (hw _ (List.mem_of_getElem? (i := 52) rfl))) (by decide) (backOf (W := 0) (rm9 l Z a0 hw [] b8 (q1 + (1 : Int64)) q1 T13.heap n0 Z13 fx19) hZ (hw _ (List.mem_of_getElem? (i := 52) rfl)) (hw _ (List.mem_of_getElem? (i := 28) rfl)) (by decide) (by decide)) (g := (mkF m 63 #[.val (.long q1), .second, .val (.long q2), .second, .val (.long q3), .second, .val (.int p4), .val (.ref b6), .val (.ref b8), .val (.ref b16), .val (.int (1 : Int32)), .val (.int (F_rm9 q1 q1)), .unset, .unset, .unset, .unset, .unset] [(.long (q1 + (1 : Int64))), (.ref b8)])) rfl (by rw [hml]; rfl) (argsL := [(.ref b8), (.long (q1 + (1 : Int64)))]) (rest := []) (lenOf pd_7 rfl) rfl (by show 2 * 0 + _ ≤ _; exact Nat.le_of_eq rfl) (hb hby at_63) (fun _ _ => ⟨rfl, e18q, (by decide : 4 + 0 ≤ _), (by decide : 11 + 0 ≤ _)⟩)
    dsimp only [Pt.U, Pt.locs, Pt.cells, Pt.slots] at X34 l34 y34 z34 st34 hQ34
    subst l34 y34 z34
    obtain ⟨rfl, N34q, e34q⟩ := hQ34
    have N34 := Fr.app N18 N34q
    refine Run.go st34 ?_
    show Run p e below s 4 11 (Q_rm0 Z q1 q2 q3 p4 cs h0 n0) (T34.setTop (mkF m 66 #[.val (.long q1), .second, .val (.long q2), .second, .val (.long q3), .second, .val (.int p4), .val (.ref b6), .val (.ref b8), .val (.ref b16), .val (.int (1 : Int32)), .val (.int (F_rm9 q1 q1)), .unset, .unset, .unset, .unset, .unset] [(.int (F_rm9 (q1 + (1 : Int64)) q1))]))
    refine Run.go (fun _ k => XS.ifNo X34.here hx rfl (hb hby at_66) rfl ((if0 _ _).trans (feq (own_after _ hc33)).1) k) ?_
    show Run p e below s 4 11 (Q_rm0 Z q1 q2 q3 p4 cs h0 n0) (T34.setTop (mkF m 69 #[.val (.long q1), .second, .val (.long q2), .second, .val (.long q3), .second, .val (.int p4), .val (.ref b6), .val (.ref b8), .val (.ref b16), .val (.int (1 : Int32)), .val (.int (F_rm9 q1 q1)), .unset, .unset, .unset, .unset, .unset] []))
    refine Run.go (fun _ k => XS.iconst X34.here hx rfl (hb hby at_69) k) ?_
    show Run p e below s 4 11 (Q_rm0 Z q1 q2 q3 p4 cs h0 n0) (T34.setTop (mkF m 70 #[.val (.long q1), .second, .val (.long q2), .second, .val (.long q3), .second, .val (.int p4), .val (.ref b6), .val (.ref b8), .val (.ref b16), .val (.int (1 : Int32)), .val (.int (F_rm9 q1 q1)), .unset, .unset, .unset, .unset, .unset] [(.int (1 : Int32))]))
    refine Run.go (fun _ k => XS.goto X34.here hx rfl (pc0 := 70) (pc' := 74) rfl (hb hby at_70) (by decide) (by decide) k) ?_
    show Run p e below s 4 11 (Q_rm0 Z q1 q2 q3 p4 cs h0 n0) (T34.setTop (mkF m 74 #[.val (.long q1), .second, .val (.long q2), .second, .val (.long q3), .second, .val (.int p4), .val (.ref b6), .val (.ref b8), .val (.ref b16), .val (.int (1 : Int32)), .val (.int (F_rm9 q1 q1)), .unset, .unset, .unset, .unset, .unset] [(.int (1 : Int32))]))
    exact J21  _ _ X34 e34q N34
set_option maxRecDepth 65536 in
set_option maxHeartbeats 40000000 in
theorem comes_1 {Post : Tables → Env → Array Value → State → Outcome → State → Prop} (hpost : ∀ tb e args s v u, (limb_1_1.after args s (.returned v) u = true ∧ limb_1_2.after args s (.returned v) u = true ∧ True) → FrameEnd s (.returned v) u (Jvm.fieldLocs frame_1_writes args s ++ Jvm.arrayLocs frame_1_arrays args s ++ Jvm.staticLocs frame_1_statics s) 16 128 → Post tb e args s (.returned v) u) :
    ArmFor flags0 classFile x code maxLocals ret World_1 tables_1 room_1 Calls_1 rest_1 Pre_1 Post := by
  intro l hfl _ _ p e ha hc hk s m args below hf hA hF happ hP
  obtain ⟨hcalls, hrest, hpre⟩ := hP
  obtain ⟨-, -, -, hnamed, -, -, -, hat⟩ := (Spec.applies_iff hf).mp happ
  obtain ⟨hg, hn⟩ := and_e (Cond.before_iff.mp (show (Jvm.Cond.and given_1 narrow_1).before args s = true from hpre))
  obtain ⟨g1, g2⟩ := and_e hg
  obtain ⟨g3, g4⟩ := and_e g2
  obtain ⟨g5, g6⟩ := and_e g4
  obtain ⟨g7, g8⟩ := and_e g6
  obtain ⟨w0, w1, w2, w3, rfl⟩ : ∃ w0 w1 w2 w3 : Value, args = #[w0, w1, w2, w3] := by
    have hs : args.size = 4 := by simpa [Cond.value, given_1] using g1
    obtain ⟨L⟩ := args
    match L, hs with
    | [w0, w1, w2, w3], _ => exact ⟨w0, w1, w2, w3, rfl⟩
  have hw := fun d (hd : d ∈ tables_1) => atoms_spec (ws := Jvm.Cond.code x code maxLocals ret :: tables_1) hat d (List.mem_cons_of_mem _ hd)
  have hfit : Fit s := fun {y c} hc i hi => by
    obtain ⟨ha, rfl⟩ := Array.getElem?_eq_some_iff.mp hc
    have q := List.all_eq_true.mp ((Array.all_eq_true_iff_forall_mem.mp hF) _ (Array.getElem_mem ha)) i (List.mem_range.mpr hi)
    simpa [Array.getElem?_eq_getElem hi] using q
  obtain ⟨hsets, hown0⟩ := atoms_of _ (rest_1_c_eq ▸ (show rest_1_c.before _ s = true from hrest))
  have hr0 := Cond.before_iff.mp hown0
  obtain ⟨i0, ei0⟩ := isL_v g3
  obtain rfl : w0 = (.long i0) := Option.some.inj ei0
  obtain ⟨i1, ei1⟩ := isL_v g5
  obtain rfl : w1 = (.long i1) := Option.some.inj ei1
  obtain ⟨i2, ei2⟩ := isL_v g7
  obtain rfl : w2 = (.long i2) := Option.some.inj ei2
  obtain ⟨i3, ei3⟩ := is_v g8
  obtain rfl : w3 = (.int i3) := Option.some.inj ei3
  have nz := not_v (Cond.before_iff.mp (hsets _ (List.mem_of_getElem? (i := 2) rfl)))
  obtain ⟨cs, ecs⟩ := is_v (Cond.before_iff.mp (hsets _ (List.mem_of_getElem? (i := 1) rfl)))
  have Scs : Sta s s.heap "java/lang/String" "COMPACT_STRINGS" "Z" (.int cs) := Sta.start ecs (Or.inl (hsets _ (List.mem_of_getElem? (i := 0) rfl)))
  have hcs : ¬ (cs = (0 : Int32)) := fun q => by subst q; rw [eq_i ecs (Term.int_eval 0) rfl] at nz; cases nz
  obtain ⟨n, o, h1, h2, h3, _, L, rfl, ⟨rfl, N⟩, hq⟩ := rm0 l s _ hw tables_1 i0 i1 i2 i3 cs s.heap s.heap.size (Nat.le_refl _) Scs hcs p e ha hc hk s m _ below hf ((Spec.applies_iff_loose hf).mp happ).1 ⟨rfl, State.Warmed39.refl s, rfl⟩ trivial
  refine ⟨n, _, h1, h2, h3, hpost _ _ _ _ _ _ ⟨Cond.after_iff.mpr rfl, Cond.after_iff.mpr (eq_i res_at (Term.int_eval (1)) rfl), trivial⟩ ⟨hq.1, hq.2.1, (hq.2.2.sift fun y hy => Or.inr (N y hy)).mono (by decide) (by decide)⟩⟩
theorem main_1_1 : Claimed_1_1 := comes_1 fun _ _ _ _ _ _ h hF => ⟨h.1, hF⟩
theorem main_1_2 : Claimed_1_2 := comes_1 fun _ _ _ _ _ _ h hF => ⟨h.2.1, hF⟩
end Jvm.Pilot.@@N@@
namespace Jvm.Pilot.@@N@@
open Jvm Jvm.ClassFile Sem Op Lib Jvm.Free Jvm.Stand Jvm.Pilot.@@N@@.Jvm.D
/-! MADE BY PROGRAM (witnessworld.py) out of the Statement's table words and the real class files: 18 classes; the members and pool entries that the words name. The judged class is class 1, her method 1. -/
namespace start1
open Jvm.ClassFile
def u (s : String) : CpInfo := .utf8 (stringToUtf16 s)
/-- a pool by its gaps: so many unusable entries, then the entry; so many at the end -/
def gap : Nat → List CpInfo → List CpInfo
  | 0, r => r
  | n + 1, r => .unusable :: gap n r
def poolList (es : List (Nat × CpInfo)) (last : Nat) : List CpInfo := es.foldr (fun e r => gap e.1 (e.2 :: r)) (gap last [])
def pool (es : List (Nat × CpInfo)) (last : Nat) : Array CpInfo := ⟨poolList es last⟩
def fileOf (pool : Array CpInfo) (this : Nat) (attrs : Array Attribute := #[]) (ms : Array MethodInfo := #[]) (fl : Nat := 33) (sup : Nat := 0) (ifs : Array Nat := #[]) (fds : Array FieldInfo := #[]) : ClassFile where
  minorVersion := 0
  majorVersion := 65
  constantPool := pool
  accessFlags := fl
  thisClass := this
  superClass := sup
  interfaces := ifs
  fields := fds
  methods := ms
  attributes := attrs
def plain (name : String) (sup : Option ClassId) : Class where
  name := name
  kind := .ordinary
  loader := none
  accessFlags := 33
  super := sup
  interfaces := #[]
  cf := none
  fields := #[]
  methods := #[]
  instanceTypes := #[]
  staticTypes := #[]
  resolved := #[]
  callSites := []
  init := .initialized
  statics := none
  mirror := none

def pool0 : Array CpInfo := pool [(5, u "<init>"), (0, u "()V"), (1, .class_ 10), (1, u "java/lang/Object")] 113

def k0c0 : Code := { maxStack := 0, maxLocals := 1, code := object_method_1_code, exceptionTable := #[], attributes := #[] }
def k0m0 : Method := { name := "<init>", desc := "()V", sig := { parameters := [], returnType := none }, accessFlags := 1, code := some k0c0 }
/-- java/lang/Object -/
def k0 : Class := { plain "java/lang/Object" none with
  accessFlags := 33
  interfaces := #[]
  cf := some (fileOf pool0 8 #[] #[{ accessFlags := 1, nameIndex := 5, descriptorIndex := 6, attributes := #[] }] 33 0 #[] #[])
  fields := #[]
  methods := #[k0m0]
  instanceTypes := #[]
  staticTypes := #[]
  resolved := Array.replicate 124 none
  statics := none }

def pool1 : Array CpInfo := pool [(2, .class_ 4), (1, u "java/lang/Object"), (0, u "<init>"), (0, u "()V"), (0, .methodref 8 9), (0, .class_ 10), (0, .nameAndType 11 12), (0, u "java/lang/String"), (0, u "valueOf"), (0, u "(C)Ljava/lang/String;"), (0, .class_ 14), (0, u "com/example/hyra/hyra/LeaseValue"), (0, .methodref 13 16), (0, .nameAndType 5 17), (0, u "(Ljava/lang/String;JJ)V"), (0, .methodref 13 19), (0, .nameAndType 20 21), (0, u "released"), (0, u "(Ljava/lang/String;J)Lcom/example/hyra/hyra/LeaseValue;"), (0, .methodref 13 23), (0, .nameAndType 24 25), (0, u "endedBefore"), (0, u "(Lcom/example/hyra/hyra/LeaseValue;J)Z"), (2, .long 9223372036854775807), (1, .long 9223372036854775808), (1, .class_ 33), (0, u "com/example/hyra/hyra/LeaseValueEndedBeforePinLaw"), (2, u "law"), (0, u "(JJJI)Z")] 3

def k1m0 : Method := { name := "<init>", desc := "()V", sig := { parameters := [], returnType := none }, accessFlags := 1, code := none }
def k1c1 : Code := { maxStack := 7, maxLocals := 17, code := code, exceptionTable := #[], attributes := #[] }
def k1m1 : Method := { name := "law", desc := "(JJJI)Z", sig := { parameters := [.long, .long, .long, .int], returnType := some .boolean }, accessFlags := 9, code := some k1c1 }
/-- com/example/hyra/hyra/LeaseValueEndedBeforePinLaw -/
def k1 : Class := { plain "com/example/hyra/hyra/LeaseValueEndedBeforePinLaw" (some 0) with
  accessFlags := 49
  interfaces := #[]
  cf := some (fileOf pool1 32 #[] #[{ accessFlags := 1, nameIndex := 5, descriptorIndex := 6, attributes := #[] }, { accessFlags := 9, nameIndex := 36, descriptorIndex := 37, attributes := #[] }] 49 2 #[] #[])
  fields := #[]
  methods := #[k1m0, k1m1]
  instanceTypes := #[]
  staticTypes := #[]
  resolved := Array.replicate 41 none
  statics := none }

def pool2 : Array CpInfo := pool [(1, .class_ 2), (0, u "java/io/Serializable"), (0, .class_ 4), (0, u "java/lang/Object")] 2

/-- java/io/Serializable -/
def k2 : Class := { plain "java/io/Serializable" (some 0) with
  accessFlags := 1537
  interfaces := #[]
  cf := some (fileOf pool2 1 #[] #[] 1537 3 #[] #[])
  fields := #[]
  methods := #[]
  instanceTypes := #[]
  staticTypes := #[]
  resolved := Array.replicate 7 none
  statics := none }

def pool3 : Array CpInfo := pool [(1, .class_ 2), (0, u "java/lang/Comparable"), (0, .class_ 4), (0, u "java/lang/Object")] 7

/-- java/lang/Comparable -/
def k3 : Class := { plain "java/lang/Comparable" (some 0) with
  accessFlags := 1537
  interfaces := #[]
  cf := some (fileOf pool3 1 #[] #[] 1537 3 #[] #[])
  fields := #[]
  methods := #[]
  instanceTypes := #[]
  staticTypes := #[]
  resolved := Array.replicate 12 none
  statics := none }

def pool4 : Array CpInfo := pool [(2, .class_ 4), (1, u "java/lang/CharSequence"), (42, .class_ 48), (0, u "java/lang/CharSequence$1CodePointIterator"), (10, .class_ 60), (0, u "java/lang/CharSequence$1CharIterator"), (5, .class_ 67), (0, u "java/lang/Object")] 63

/-- java/lang/CharSequence -/
def k4 : Class := { plain "java/lang/CharSequence" (some 0) with
  accessFlags := 1537
  interfaces := #[]
  cf := some (fileOf pool4 2 #[.nestMembers #[47, 59]] #[] 1537 66 #[] #[])
  fields := #[]
  methods := #[]
  instanceTypes := #[]
  staticTypes := #[]
  resolved := Array.replicate 131 none
  statics := none }

def pool5 : Array CpInfo := pool [(1, .class_ 2), (0, u "java/lang/constant/Constable"), (0, .class_ 4), (0, u "java/lang/Object")] 6

/-- java/lang/constant/Constable -/
def k5 : Class := { plain "java/lang/constant/Constable" (some 0) with
  accessFlags := 1537
  interfaces := #[]
  cf := some (fileOf pool5 1 #[] #[] 1537 3 #[] #[])
  fields := #[]
  methods := #[]
  instanceTypes := #[]
  staticTypes := #[]
  resolved := Array.replicate 11 none
  statics := none }

def pool6 : Array CpInfo := pool [(1, .class_ 2), (0, u "java/lang/constant/ConstantDesc"), (0, .class_ 4), (0, u "java/lang/Object")] 32

/-- java/lang/constant/ConstantDesc -/
def k6 : Class := { plain "java/lang/constant/ConstantDesc" (some 0) with
  accessFlags := 1537
  interfaces := #[]
  cf := some (fileOf pool6 1 #[] #[] 1537 3 #[] #[])
  fields := #[]
  methods := #[]
  instanceTypes := #[]
  staticTypes := #[]
  resolved := Array.replicate 37 none
  statics := none }

def pool7 : Array CpInfo := pool [(1, .methodref 2 3), (0, .class_ 4), (0, .nameAndType 5 6), (0, u "java/lang/Object"), (0, u "<init>"), (0, u "()V"), (2, .fieldref 10 11), (0, .class_ 12), (0, .nameAndType 13 14), (0, u "java/lang/String"), (0, u "value"), (0, u "[B"), (0, .fieldref 10 16), (0, .nameAndType 17 18), (0, u "coder"), (0, u "B"), (2, u "hash"), (0, u "I"), (2, u "hashIsZero"), (0, u "Z"), (11, .fieldref 10 39), (0, .nameAndType 40 26), (0, u "COMPACT_STRINGS"), (12, u "toBytes"), (53, .class_ 109), (1, u "java/lang/StringLatin1"), (99, .methodref 10 210), (0, .nameAndType 5 211), (0, u "([BB)V"), (157, u "(C)Z"), (205, .class_ 576), (0, u "java/lang/CharSequence"), (22, u "CASE_INSENSITIVE_ORDER"), (0, u "Ljava/util/Comparator;"), (181, u "valueOf"), (0, u "(C)Ljava/lang/String;"), (231, .methodref 107 1016), (0, .nameAndType 1017 369), (0, u "canEncode"), (0, .methodref 107 1019), (0, .nameAndType 53 1020), (0, u "(C)[B"), (80, u "serialPersistentFields"), (0, u "[Ljava/io/ObjectStreamField;"), (0, .class_ 1104), (0, u "java/lang/String$CaseInsensitiveComparator"), (1, .class_ 1107), (0, u "java/io/Serializable"), (0, .class_ 1109), (0, u "java/lang/Comparable"), (0, .class_ 1111), (0, u "java/lang/constant/Constable"), (0, .class_ 1113), (0, u "java/lang/constant/ConstantDesc"), (2, u "serialVersionUID"), (0, u "J"), (3, u "REPL"), (0, u "C"), (2, u "LATIN1"), (1, u "UTF16")] 323

def k7m0 : Method := { name := "<init>", desc := "()V", sig := { parameters := [], returnType := none }, accessFlags := 1, code := none }
def k7c1 : Code := { maxStack := 4, maxLocals := 1, code := jdk_42_method_139_code, exceptionTable := #[], attributes := #[] }
def k7m1 : Method := { name := "valueOf", desc := "(C)Ljava/lang/String;", sig := { parameters := [.char], returnType := some (.object "java/lang/String") }, accessFlags := 9, code := some k7c1 }
def k7c2 : Code := { maxStack := 2, maxLocals := 3, code := jdk_42_method_151_code, exceptionTable := #[], attributes := #[] }
def k7m2 : Method := { name := "<init>", desc := "([BB)V", sig := { parameters := [(.array .byte), .byte], returnType := none }, accessFlags := 0, code := some k7c2 }
/-- java/lang/String -/
def k7 : Class := { plain "java/lang/String" (some 0) with
  accessFlags := 49
  interfaces := #[2, 3, 4, 5, 6]
  cf := some (fileOf pool7 10 #[.nestMembers #[1103]] #[{ accessFlags := 1, nameIndex := 5, descriptorIndex := 6, attributes := #[] }, { accessFlags := 9, nameIndex := 782, descriptorIndex := 783, attributes := #[] }, { accessFlags := 0, nameIndex := 5, descriptorIndex := 211, attributes := #[] }] 49 2 #[1106, 1108, 575, 1110, 1112] #[{ accessFlags := 18, nameIndex := 13, descriptorIndex := 14, attributes := #[] }, { accessFlags := 18, nameIndex := 17, descriptorIndex := 18, attributes := #[] }, { accessFlags := 2, nameIndex := 21, descriptorIndex := 22, attributes := #[] }, { accessFlags := 2, nameIndex := 25, descriptorIndex := 26, attributes := #[] }, { accessFlags := 26, nameIndex := 1116, descriptorIndex := 1117, attributes := #[] }, { accessFlags := 24, nameIndex := 40, descriptorIndex := 26, attributes := #[] }, { accessFlags := 26, nameIndex := 1101, descriptorIndex := 1102, attributes := #[] }, { accessFlags := 26, nameIndex := 1121, descriptorIndex := 1122, attributes := #[] }, { accessFlags := 25, nameIndex := 599, descriptorIndex := 600, attributes := #[] }, { accessFlags := 24, nameIndex := 1125, descriptorIndex := 18, attributes := #[] }, { accessFlags := 24, nameIndex := 1127, descriptorIndex := 18, attributes := #[] }])
  fields := #[{ name := "value", type := (.array .byte), accessFlags := 18, slot := 0, constantValue := 0 }, { name := "coder", type := .byte, accessFlags := 18, slot := 1, constantValue := 0 }, { name := "hash", type := .int, accessFlags := 2, slot := 2, constantValue := 0 }, { name := "hashIsZero", type := .boolean, accessFlags := 2, slot := 3, constantValue := 0 }, { name := "serialVersionUID", type := .long, accessFlags := 26, slot := 0, constantValue := 0 }, { name := "COMPACT_STRINGS", type := .boolean, accessFlags := 24, slot := 1, constantValue := 0 }, { name := "serialPersistentFields", type := (.array (.object "java/io/ObjectStreamField")), accessFlags := 26, slot := 2, constantValue := 0 }, { name := "REPL", type := .char, accessFlags := 26, slot := 3, constantValue := 0 }, { name := "CASE_INSENSITIVE_ORDER", type := (.object "java/util/Comparator"), accessFlags := 25, slot := 4, constantValue := 0 }, { name := "LATIN1", type := .byte, accessFlags := 24, slot := 5, constantValue := 0 }, { name := "UTF16", type := .byte, accessFlags := 24, slot := 6, constantValue := 0 }]
  methods := #[k7m0, k7m1, k7m2]
  instanceTypes := #[(.array .byte), .byte, .int, .boolean]
  staticTypes := #[.long, .boolean, (.array (.object "java/io/ObjectStreamField")), .char, (.object "java/util/Comparator"), .byte, .byte]
  resolved := Array.replicate 1451 none
  statics := some 0 }

def pool8 : Array CpInfo := pool [(4, .class_ 6), (1, u "java/lang/Object"), (0, u "<init>"), (0, u "()V"), (5, .class_ 16), (1, u "java/lang/StringLatin1"), (73, u "canEncode"), (14, u "(C)Z"), (15, u "$assertionsDisabled"), (0, u "Z"), (98, .class_ 223), (1, u "java/lang/StringLatin1$LinesSpliterator"), (156, u "toBytes"), (1, u "(C)[B"), (7, .class_ 391), (0, u "java/lang/StringLatin1$CharsSpliterator")] 3

def k8m0 : Method := { name := "<init>", desc := "()V", sig := { parameters := [], returnType := none }, accessFlags := 0, code := none }
def k8c1 : Code := { maxStack := 2, maxLocals := 1, code := jdk_43_method_3_code, exceptionTable := #[], attributes := #[] }
def k8m1 : Method := { name := "canEncode", desc := "(C)Z", sig := { parameters := [.char], returnType := some .boolean }, accessFlags := 9, code := some k8c1 }
def k8c2 : Code := { maxStack := 4, maxLocals := 1, code := jdk_43_method_46_code, exceptionTable := #[], attributes := #[] }
def k8m2 : Method := { name := "toBytes", desc := "(C)[B", sig := { parameters := [.char], returnType := some (.array .byte) }, accessFlags := 9, code := some k8c2 }
/-- java/lang/StringLatin1 -/
def k8 : Class := { plain "java/lang/StringLatin1" (some 0) with
  accessFlags := 48
  interfaces := #[]
  cf := some (fileOf pool8 14 #[.nestMembers #[390, 221]] #[{ accessFlags := 0, nameIndex := 7, descriptorIndex := 8, attributes := #[] }, { accessFlags := 9, nameIndex := 90, descriptorIndex := 105, attributes := #[] }, { accessFlags := 9, nameIndex := 380, descriptorIndex := 382, attributes := #[] }] 48 4 #[] #[{ accessFlags := 4120, nameIndex := 121, descriptorIndex := 122, attributes := #[] }])
  fields := #[{ name := "$assertionsDisabled", type := .boolean, accessFlags := 4120, slot := 0, constantValue := 0 }]
  methods := #[k8m0, k8m1, k8m2]
  instanceTypes := #[]
  staticTypes := #[.boolean]
  resolved := Array.replicate 395 none
  statics := none }

def pool9 : Array CpInfo := pool [(1, .methodref 2 3), (0, .class_ 4), (0, .nameAndType 5 6), (0, u "java/lang/Object"), (0, u "<init>"), (0, u "()V"), (0, .class_ 8), (0, u "java/lang/Record")] 13

def k9c0 : Code := { maxStack := 1, maxLocals := 1, code := jdk_30_method_1_code, exceptionTable := #[], attributes := #[] }
def k9m0 : Method := { name := "<init>", desc := "()V", sig := { parameters := [], returnType := none }, accessFlags := 4, code := some k9c0 }
/-- java/lang/Record -/
def k9 : Class := { plain "java/lang/Record" (some 0) with
  accessFlags := 1057
  interfaces := #[]
  cf := some (fileOf pool9 7 #[] #[{ accessFlags := 4, nameIndex := 5, descriptorIndex := 6, attributes := #[] }] 1057 2 #[] #[])
  fields := #[]
  methods := #[k9m0]
  instanceTypes := #[]
  staticTypes := #[]
  resolved := Array.replicate 22 none
  statics := none }

def pool10 : Array CpInfo := pool [(1, .methodref 2 3), (0, .class_ 4), (0, .nameAndType 5 6), (0, u "java/lang/Record"), (0, u "<init>"), (0, u "()V"), (0, .fieldref 8 9), (0, .class_ 10), (0, .nameAndType 11 12), (0, u "com/example/hyra/hyra/LeaseValue"), (0, u "holder"), (0, u "Ljava/lang/String;"), (0, .fieldref 8 14), (0, .nameAndType 15 16), (0, u "endMillis"), (0, u "J"), (0, .fieldref 8 18), (0, .nameAndType 19 16), (0, u "token"), (2, .long 9223372036854775808), (1, .methodref 8 25), (0, .nameAndType 5 26), (0, u "(Ljava/lang/String;JJ)V"), (15, u "released"), (0, u "(Ljava/lang/String;J)Lcom/example/hyra/hyra/LeaseValue;"), (0, u "endedBefore"), (0, u "(Lcom/example/hyra/hyra/LeaseValue;J)Z")] 27

def k10c0 : Code := { maxStack := 3, maxLocals := 6, code := prog_21_method_1_code, exceptionTable := #[], attributes := #[] }
def k10m0 : Method := { name := "<init>", desc := "(Ljava/lang/String;JJ)V", sig := { parameters := [(.object "java/lang/String"), .long, .long], returnType := none }, accessFlags := 0, code := some k10c0 }
def k10c1 : Code := { maxStack := 7, maxLocals := 3, code := prog_21_method_2_code, exceptionTable := #[], attributes := #[] }
def k10m1 : Method := { name := "released", desc := "(Ljava/lang/String;J)Lcom/example/hyra/hyra/LeaseValue;", sig := { parameters := [(.object "java/lang/String"), .long], returnType := some (.object "com/example/hyra/hyra/LeaseValue") }, accessFlags := 8, code := some k10c1 }
def k10c2 : Code := { maxStack := 4, maxLocals := 3, code := prog_21_method_3_code, exceptionTable := #[], attributes := #[] }
def k10m2 : Method := { name := "endedBefore", desc := "(Lcom/example/hyra/hyra/LeaseValue;J)Z", sig := { parameters := [(.object "com/example/hyra/hyra/LeaseValue"), .long], returnType := some .boolean }, accessFlags := 8, code := some k10c2 }
/-- com/example/hyra/hyra/LeaseValue -/
def k10 : Class := { plain "com/example/hyra/hyra/LeaseValue" (some 9) with
  accessFlags := 48
  interfaces := #[]
  cf := some (fileOf pool10 8 #[] #[{ accessFlags := 0, nameIndex := 5, descriptorIndex := 26, attributes := #[] }, { accessFlags := 8, nameIndex := 42, descriptorIndex := 43, attributes := #[] }, { accessFlags := 8, nameIndex := 44, descriptorIndex := 45, attributes := #[] }] 48 2 #[] #[{ accessFlags := 18, nameIndex := 11, descriptorIndex := 12, attributes := #[] }, { accessFlags := 18, nameIndex := 15, descriptorIndex := 16, attributes := #[] }, { accessFlags := 18, nameIndex := 19, descriptorIndex := 16, attributes := #[] }])
  fields := #[{ name := "holder", type := (.object "java/lang/String"), accessFlags := 18, slot := 0, constantValue := 0 }, { name := "endMillis", type := .long, accessFlags := 18, slot := 1, constantValue := 0 }, { name := "token", type := .long, accessFlags := 18, slot := 2, constantValue := 0 }]
  methods := #[k10m0, k10m1, k10m2]
  instanceTypes := #[(.object "java/lang/String"), .long, .long]
  staticTypes := #[]
  resolved := Array.replicate 73 none
  statics := none }

def pool11 : Array CpInfo := pool [(2, .class_ 4), (1, u "java/lang/Object"), (0, u "<init>"), (0, u "()V"), (17, .class_ 26), (1, u "jdk/internal/util/Preconditions"), (28, .class_ 56), (0, u "jdk/internal/util/Preconditions$4"), (57, .class_ 115), (0, u "jdk/internal/util/Preconditions$1"), (7, u "SIOOBE_FORMATTER"), (0, u "Ljava/util/function/BiFunction;"), (0, .class_ 126), (0, u "jdk/internal/util/Preconditions$2"), (3, u "AIOOBE_FORMATTER"), (0, .class_ 132), (0, u "jdk/internal/util/Preconditions$3"), (3, u "IOOBE_FORMATTER")] 57

def k11m0 : Method := { name := "<init>", desc := "()V", sig := { parameters := [], returnType := none }, accessFlags := 1, code := none }
/-- jdk/internal/util/Preconditions -/
def k11 : Class := { plain "jdk/internal/util/Preconditions" (some 0) with
  accessFlags := 33
  interfaces := #[]
  cf := some (fileOf pool11 24 #[.nestMembers #[55, 131, 125, 114]] #[{ accessFlags := 1, nameIndex := 5, descriptorIndex := 6, attributes := #[] }] 33 2 #[] #[{ accessFlags := 25, nameIndex := 123, descriptorIndex := 124, attributes := #[] }, { accessFlags := 25, nameIndex := 130, descriptorIndex := 124, attributes := #[] }, { accessFlags := 25, nameIndex := 136, descriptorIndex := 124, attributes := #[] }])
  fields := #[{ name := "SIOOBE_FORMATTER", type := (.object "java/util/function/BiFunction"), accessFlags := 25, slot := 0, constantValue := 0 }, { name := "AIOOBE_FORMATTER", type := (.object "java/util/function/BiFunction"), accessFlags := 25, slot := 1, constantValue := 0 }, { name := "IOOBE_FORMATTER", type := (.object "java/util/function/BiFunction"), accessFlags := 25, slot := 2, constantValue := 0 }]
  methods := #[k11m0]
  instanceTypes := #[]
  staticTypes := #[(.object "java/util/function/BiFunction"), (.object "java/util/function/BiFunction"), (.object "java/util/function/BiFunction")]
  resolved := Array.replicate 194 none
  statics := some 1 }

def pool12 : Array CpInfo := pool [(9, u "<init>"), (6, .class_ 18), (1, u "java/lang/Object"), (0, u "()V"), (1, .class_ 23), (1, u "jdk/internal/util/ArraysSupport"), (0, u "LOG2_ARRAY_LONG_INDEX_SCALE"), (0, u "I"), (2, u "U"), (0, u "Ljdk/internal/misc/Unsafe;"), (8, u "BIG_ENDIAN"), (0, u "Z"), (8, u "LOG2_BYTE_BIT_SIZE"), (4, u "LOG2_ARRAY_INT_INDEX_SCALE"), (54, u "JLA"), (0, u "Ljdk/internal/access/JavaLangAccess;"), (11, u "LOG2_ARRAY_BOOLEAN_INDEX_SCALE"), (9, u "LOG2_ARRAY_BYTE_INDEX_SCALE"), (5, u "LOG2_ARRAY_CHAR_INDEX_SCALE"), (5, u "LOG2_ARRAY_SHORT_INDEX_SCALE"), (18, u "LOG2_ARRAY_FLOAT_INDEX_SCALE"), (24, u "LOG2_ARRAY_DOUBLE_INDEX_SCALE"), (89, u "T_BOOLEAN"), (2, u "T_CHAR"), (1, u "T_FLOAT"), (1, u "T_DOUBLE"), (1, u "T_BYTE"), (1, u "T_SHORT"), (1, u "T_INT"), (1, u "T_LONG"), (1, u "SOFT_MAX_ARRAY_LENGTH")] 83

def k12m0 : Method := { name := "<init>", desc := "()V", sig := { parameters := [], returnType := none }, accessFlags := 2, code := none }
/-- jdk/internal/util/ArraysSupport -/
def k12 : Class := { plain "jdk/internal/util/ArraysSupport" (some 0) with
  accessFlags := 33
  interfaces := #[]
  cf := some (fileOf pool12 21 #[] #[{ accessFlags := 2, nameIndex := 9, descriptorIndex := 19, attributes := #[] }] 33 16 #[] #[{ accessFlags := 24, nameIndex := 28, descriptorIndex := 29, attributes := #[] }, { accessFlags := 26, nameIndex := 38, descriptorIndex := 39, attributes := #[] }, { accessFlags := 25, nameIndex := 121, descriptorIndex := 25, attributes := #[] }, { accessFlags := 25, nameIndex := 131, descriptorIndex := 25, attributes := #[] }, { accessFlags := 25, nameIndex := 137, descriptorIndex := 25, attributes := #[] }, { accessFlags := 25, nameIndex := 143, descriptorIndex := 25, attributes := #[] }, { accessFlags := 25, nameIndex := 53, descriptorIndex := 25, attributes := #[] }, { accessFlags := 25, nameIndex := 24, descriptorIndex := 25, attributes := #[] }, { accessFlags := 25, nameIndex := 162, descriptorIndex := 25, attributes := #[] }, { accessFlags := 25, nameIndex := 187, descriptorIndex := 25, attributes := #[] }, { accessFlags := 26, nameIndex := 48, descriptorIndex := 25, attributes := #[] }, { accessFlags := 25, nameIndex := 277, descriptorIndex := 25, attributes := #[] }, { accessFlags := 25, nameIndex := 280, descriptorIndex := 25, attributes := #[] }, { accessFlags := 25, nameIndex := 282, descriptorIndex := 25, attributes := #[] }, { accessFlags := 25, nameIndex := 284, descriptorIndex := 25, attributes := #[] }, { accessFlags := 25, nameIndex := 286, descriptorIndex := 25, attributes := #[] }, { accessFlags := 25, nameIndex := 288, descriptorIndex := 25, attributes := #[] }, { accessFlags := 25, nameIndex := 290, descriptorIndex := 25, attributes := #[] }, { accessFlags := 25, nameIndex := 292, descriptorIndex := 25, attributes := #[] }, { accessFlags := 26, nameIndex := 108, descriptorIndex := 109, attributes := #[] }, { accessFlags := 25, nameIndex := 294, descriptorIndex := 25, attributes := #[] }])
  fields := #[{ name := "U", type := (.object "jdk/internal/misc/Unsafe"), accessFlags := 24, slot := 0, constantValue := 0 }, { name := "BIG_ENDIAN", type := .boolean, accessFlags := 26, slot := 1, constantValue := 0 }, { name := "LOG2_ARRAY_BOOLEAN_INDEX_SCALE", type := .int, accessFlags := 25, slot := 2, constantValue := 0 }, { name := "LOG2_ARRAY_BYTE_INDEX_SCALE", type := .int, accessFlags := 25, slot := 3, constantValue := 0 }, { name := "LOG2_ARRAY_CHAR_INDEX_SCALE", type := .int, accessFlags := 25, slot := 4, constantValue := 0 }, { name := "LOG2_ARRAY_SHORT_INDEX_SCALE", type := .int, accessFlags := 25, slot := 5, constantValue := 0 }, { name := "LOG2_ARRAY_INT_INDEX_SCALE", type := .int, accessFlags := 25, slot := 6, constantValue := 0 }, { name := "LOG2_ARRAY_LONG_INDEX_SCALE", type := .int, accessFlags := 25, slot := 7, constantValue := 0 }, { name := "LOG2_ARRAY_FLOAT_INDEX_SCALE", type := .int, accessFlags := 25, slot := 8, constantValue := 0 }, { name := "LOG2_ARRAY_DOUBLE_INDEX_SCALE", type := .int, accessFlags := 25, slot := 9, constantValue := 0 }, { name := "LOG2_BYTE_BIT_SIZE", type := .int, accessFlags := 26, slot := 10, constantValue := 0 }, { name := "T_BOOLEAN", type := .int, accessFlags := 25, slot := 11, constantValue := 0 }, { name := "T_CHAR", type := .int, accessFlags := 25, slot := 12, constantValue := 0 }, { name := "T_FLOAT", type := .int, accessFlags := 25, slot := 13, constantValue := 0 }, { name := "T_DOUBLE", type := .int, accessFlags := 25, slot := 14, constantValue := 0 }, { name := "T_BYTE", type := .int, accessFlags := 25, slot := 15, constantValue := 0 }, { name := "T_SHORT", type := .int, accessFlags := 25, slot := 16, constantValue := 0 }, { name := "T_INT", type := .int, accessFlags := 25, slot := 17, constantValue := 0 }, { name := "T_LONG", type := .int, accessFlags := 25, slot := 18, constantValue := 0 }, { name := "JLA", type := (.object "jdk/internal/access/JavaLangAccess"), accessFlags := 26, slot := 19, constantValue := 0 }, { name := "SOFT_MAX_ARRAY_LENGTH", type := .int, accessFlags := 25, slot := 20, constantValue := 0 }]
  methods := #[k12m0]
  instanceTypes := #[]
  staticTypes := #[(.object "jdk/internal/misc/Unsafe"), .boolean, .int, .int, .int, .int, .int, .int, .int, .int, .int, .int, .int, .int, .int, .int, .int, .int, .int, (.object "jdk/internal/access/JavaLangAccess"), .int]
  resolved := Array.replicate 378 none
  statics := none }

def pool13 : Array CpInfo := pool [(1, u "java/lang/Cloneable"), (0, .class_ 1), (0, u "java/lang/Object"), (0, .class_ 3)] 3

/-- java/lang/Cloneable -/
def k13 : Class := { plain "java/lang/Cloneable" (some 0) with
  accessFlags := 1537
  interfaces := #[]
  cf := some (fileOf pool13 2 #[] #[] 1537 4 #[] #[])
  fields := #[]
  methods := #[]
  instanceTypes := #[]
  staticTypes := #[]
  resolved := Array.replicate 8 none
  statics := none }

/-- the primitive byte -/
def k14 : Class := { plain "byte" none with kind := .primitive 'B', accessFlags := 0x411 }
/-- [B -/
def k15 : Class := { plain "[B" (some 0) with kind := .array 14 .byte, interfaces := #[13, 2], accessFlags := 1041 }

/-- the primitive int -/
def k16 : Class := { plain "int" none with kind := .primitive 'I', accessFlags := 0x411 }
/-- [I -/
def k17 : Class := { plain "[I" (some 0) with kind := .array 16 .int, interfaces := #[13, 2], accessFlags := 1041 }

def heap : Heap := #[{ cls := 7, slots := #[.long 0, .int 1, .null, .int 0, .null, .int 0, .int 0], vm := .statics 7 },
  { cls := 11, slots := #[.null, .null, .null], vm := .statics 11 }]
def classes : Array Class := #[k0, k1, k2, k3, k4, k5, k6, k7, k8, k9, k10, k11, k12, k13, k14, k15, k16, k17]
def interned : List (Array UInt16 × Addr) := []
def slotsUsed : Nat := 10
def theMethod : MethodId := ⟨1, 1⟩
def args0 : Array Value := #[.long 3, .long 2, .long 3, .int 2]
def aboutOver (below : List Frame) : State where
  vm := { classes := classes, interned := interned.toArray }
  heap := heap
  slotsUsed := slotsUsed
  threads := #[{ frames := .invoking theMethod args0 :: below }]
def below0 : List Frame := [.native { method := ⟨0, 0⟩, args := #[] }]
def about1 : State := aboutOver below0
def p0 : Program := .bare "" "" ""
def e0 : Env := launch0.env 0 0 0
theorem w_frames : about1.frames = Frame.invoking theMethod args0 :: below0 := rfl
set_option maxRecDepth 65536 in
theorem w_args : argsFit about1.vm theMethod args0 = true := by decide +kernel
set_option maxRecDepth 65536 in
theorem w_heap : heapFits about1 = true := by decide +kernel
set_option maxRecDepth 65536 in
theorem w_runnable : about1.curStatus? = some .runnable := by decide +kernel
set_option maxRecDepth 65536 in
theorem w_alone : about1.alone = true := by decide +kernel
set_option maxRecDepth 65536 in
theorem w_named : about1.methodNamed? x = some theMethod := by decide +kernel
set_option maxRecDepth 65536 in
theorem w_hears : about1.hears theMethod below0 = true := by decide +kernel
set_option maxRecDepth 65536 in
theorem w_ripe : about1.ripe theMethod args0 below0 = true := by decide +kernel
theorem w_running : about1.status = .running := rfl
set_option maxRecDepth 65536 in
theorem w_room : about1.hasRoom e0.platform room_1 = true :=
  launch0.hasRoom_least _ room_1 (by decide +kernel) (by decide +kernel) (by decide +kernel) (by decide +kernel) (by decide +kernel) (by decide +kernel)
theorem allAtoms_all (ts : List Jvm.Cond) (a : Array Jvm.Value) (st : Jvm.State) : (allAtoms ts).before a st = ts.all (fun c => c.before a st) := by
  induction ts with
  | nil => rfl
  | cons c t ih =>
    show (Jvm.Cond.and c (allAtoms t)).before a st = _
    rw [Jvm.Cond.before_and, ih, List.all_cons]
def words1 : List Jvm.Cond := Jvm.Cond.code x code maxLocals ret :: tables_1
/-- a 'code' word, met by the world's own term for the bytes: nothing is compared byte by byte -/
theorem code_word {y : MethodName} {bytes : ByteArray} {mx : Nat} {rt : Option FieldType} {a : Array Value} {s : State} {m : MethodId} {meth : Method} {c : Code} (h1 : s.methodNamed? y = some m) (h2 : s.vm.method? m = some meth) (h3 : meth.code = some c) (h4 : c.code = bytes)
    (h5 : (c.maxLocals == mx && c.exceptionTable.isEmpty && decide (c.maxStack ≤ mostOperands) && decide (meth.sig.returnType = rt) && !meth.locks && decide (parseMethodDescriptor y.desc = some meth.sig)) = true) : (Jvm.Cond.code y bytes mx rt).before a s = true := by
  simp only [Bool.and_eq_true, beq_iff_eq, Bool.not_eq_true', decide_eq_true_eq] at h5
  obtain ⟨⟨⟨⟨⟨g1, g2⟩, g3⟩, g4⟩, g5⟩, g6⟩ := h5
  simp [Cond.before, Cond.holds, Cond.value, h1, h2, h3, h4, g1, g2, g3, g4, g5, g6]
def isCode : Jvm.Cond → Bool
  | .code _ _ _ _ => true
  | _ => false
theorem all_split {L : List Jvm.Cond} {P : Jvm.Cond → Bool} (h1 : L.all (fun c => isCode c || P c) = true) (h2 : ∀ c ∈ L.filter isCode, P c = true) : L.all P = true := by
  refine List.all_eq_true.mpr fun c hc => ?_
  have h := List.all_eq_true.mp h1 c hc
  rcases Bool.eq_false_or_eq_true (isCode c) with hi | hi
  · exact h2 c (List.mem_filter.mpr ⟨hc, hi⟩)
  · simpa [hi] using h
set_option maxRecDepth 65536 in
theorem w_c0 : (Jvm.Cond.code x code maxLocals ret).before args0 about1 = true := code_word (m := ⟨1, 1⟩) (meth := k1m1) (c := k1c1) (by decide +kernel) rfl rfl rfl (by decide +kernel)
set_option maxRecDepth 65536 in
theorem w_c1 : (Jvm.Cond.code ({ cls := "java/lang/String", name := "valueOf", desc := "(C)Ljava/lang/String;" } : Jvm.MethodName) jdk_42_method_139_code (1 : Nat) (Option.some (Jvm.ClassFile.FieldType.object "java/lang/String"))).before args0 about1 = true := code_word (m := ⟨7, 1⟩) (meth := k7m1) (c := k7c1) (by decide +kernel) rfl rfl rfl (by decide +kernel)
set_option maxRecDepth 65536 in
theorem w_c2 : (Jvm.Cond.code ({ cls := "java/lang/StringLatin1", name := "canEncode", desc := "(C)Z" } : Jvm.MethodName) jdk_43_method_3_code (1 : Nat) (Option.some Jvm.ClassFile.FieldType.boolean)).before args0 about1 = true := code_word (m := ⟨8, 1⟩) (meth := k8m1) (c := k8c1) (by decide +kernel) rfl rfl rfl (by decide +kernel)
set_option maxRecDepth 65536 in
theorem w_c3 : (Jvm.Cond.code ({ cls := "java/lang/StringLatin1", name := "toBytes", desc := "(C)[B" } : Jvm.MethodName) jdk_43_method_46_code (1 : Nat) (Option.some (Jvm.ClassFile.FieldType.array Jvm.ClassFile.FieldType.byte))).before args0 about1 = true := code_word (m := ⟨8, 2⟩) (meth := k8m2) (c := k8c2) (by decide +kernel) rfl rfl rfl (by decide +kernel)
set_option maxRecDepth 65536 in
theorem w_c4 : (Jvm.Cond.code ({ cls := "java/lang/String", name := "<init>", desc := "([BB)V" } : Jvm.MethodName) jdk_42_method_151_code (3 : Nat) (Option.none : Option Jvm.ClassFile.FieldType)).before args0 about1 = true := code_word (m := ⟨7, 2⟩) (meth := k7m2) (c := k7c2) (by decide +kernel) rfl rfl rfl (by decide +kernel)
set_option maxRecDepth 65536 in
theorem w_c5 : (Jvm.Cond.code ({ cls := "java/lang/Object", name := "<init>", desc := "()V" } : Jvm.MethodName) object_method_1_code (1 : Nat) (Option.none : Option Jvm.ClassFile.FieldType)).before args0 about1 = true := code_word (m := ⟨0, 0⟩) (meth := k0m0) (c := k0c0) (by decide +kernel) rfl rfl rfl (by decide +kernel)
set_option maxRecDepth 65536 in
theorem w_c6 : (Jvm.Cond.code ({ cls := "com/example/hyra/hyra/LeaseValue", name := "<init>", desc := "(Ljava/lang/String;JJ)V" } : Jvm.MethodName) prog_21_method_1_code (6 : Nat) (Option.none : Option Jvm.ClassFile.FieldType)).before args0 about1 = true := code_word (m := ⟨10, 0⟩) (meth := k10m0) (c := k10c0) (by decide +kernel) rfl rfl rfl (by decide +kernel)
set_option maxRecDepth 65536 in
theorem w_c7 : (Jvm.Cond.code ({ cls := "java/lang/Record", name := "<init>", desc := "()V" } : Jvm.MethodName) jdk_30_method_1_code (1 : Nat) (Option.none : Option Jvm.ClassFile.FieldType)).before args0 about1 = true := code_word (m := ⟨9, 0⟩) (meth := k9m0) (c := k9c0) (by decide +kernel) rfl rfl rfl (by decide +kernel)
set_option maxRecDepth 65536 in
theorem w_c8 : (Jvm.Cond.code ({ cls := "com/example/hyra/hyra/LeaseValue", name := "released", desc := "(Ljava/lang/String;J)Lcom/example/hyra/hyra/LeaseValue;" } : Jvm.MethodName) prog_21_method_2_code (3 : Nat) (Option.some (Jvm.ClassFile.FieldType.object "com/example/hyra/hyra/LeaseValue"))).before args0 about1 = true := code_word (m := ⟨10, 1⟩) (meth := k10m1) (c := k10c1) (by decide +kernel) rfl rfl rfl (by decide +kernel)
set_option maxRecDepth 65536 in
theorem w_c9 : (Jvm.Cond.code ({ cls := "com/example/hyra/hyra/LeaseValue", name := "endedBefore", desc := "(Lcom/example/hyra/hyra/LeaseValue;J)Z" } : Jvm.MethodName) prog_21_method_3_code (3 : Nat) (Option.some Jvm.ClassFile.FieldType.boolean)).before args0 about1 = true := code_word (m := ⟨10, 2⟩) (meth := k10m2) (c := k10c2) (by decide +kernel) rfl rfl rfl (by decide +kernel)
def codes1 : List Jvm.Cond := [Jvm.Cond.code x code maxLocals ret, Jvm.Cond.code ({ cls := "java/lang/String", name := "valueOf", desc := "(C)Ljava/lang/String;" } : Jvm.MethodName) jdk_42_method_139_code (1 : Nat) (Option.some (Jvm.ClassFile.FieldType.object "java/lang/String")), Jvm.Cond.code ({ cls := "java/lang/StringLatin1", name := "canEncode", desc := "(C)Z" } : Jvm.MethodName) jdk_43_method_3_code (1 : Nat) (Option.some Jvm.ClassFile.FieldType.boolean), Jvm.Cond.code ({ cls := "java/lang/StringLatin1", name := "toBytes", desc := "(C)[B" } : Jvm.MethodName) jdk_43_method_46_code (1 : Nat) (Option.some (Jvm.ClassFile.FieldType.array Jvm.ClassFile.FieldType.byte)), Jvm.Cond.code ({ cls := "java/lang/String", name := "<init>", desc := "([BB)V" } : Jvm.MethodName) jdk_42_method_151_code (3 : Nat) (Option.none : Option Jvm.ClassFile.FieldType), Jvm.Cond.code ({ cls := "java/lang/Object", name := "<init>", desc := "()V" } : Jvm.MethodName) object_method_1_code (1 : Nat) (Option.none : Option Jvm.ClassFile.FieldType), Jvm.Cond.code ({ cls := "com/example/hyra/hyra/LeaseValue", name := "<init>", desc := "(Ljava/lang/String;JJ)V" } : Jvm.MethodName) prog_21_method_1_code (6 : Nat) (Option.none : Option Jvm.ClassFile.FieldType), Jvm.Cond.code ({ cls := "java/lang/Record", name := "<init>", desc := "()V" } : Jvm.MethodName) jdk_30_method_1_code (1 : Nat) (Option.none : Option Jvm.ClassFile.FieldType), Jvm.Cond.code ({ cls := "com/example/hyra/hyra/LeaseValue", name := "released", desc := "(Ljava/lang/String;J)Lcom/example/hyra/hyra/LeaseValue;" } : Jvm.MethodName) prog_21_method_2_code (3 : Nat) (Option.some (Jvm.ClassFile.FieldType.object "com/example/hyra/hyra/LeaseValue")), Jvm.Cond.code ({ cls := "com/example/hyra/hyra/LeaseValue", name := "endedBefore", desc := "(Lcom/example/hyra/hyra/LeaseValue;J)Z" } : Jvm.MethodName) prog_21_method_3_code (3 : Nat) (Option.some Jvm.ClassFile.FieldType.boolean)]
set_option maxRecDepth 65536 in
theorem codes_eq : words1.filter isCode = codes1 := rfl
theorem w_codes : ∀ c ∈ words1.filter isCode, c.before args0 about1 = true := by
  rw [codes_eq]
  intro c hc
  simp only [codes1, List.mem_cons, List.not_mem_nil, or_false] at hc
  rcases hc with rfl | rfl | rfl | rfl | rfl | rfl | rfl | rfl | rfl | rfl
  · exact w_c0
  · exact w_c1
  · exact w_c2
  · exact w_c3
  · exact w_c4
  · exact w_c5
  · exact w_c6
  · exact w_c7
  · exact w_c8
  · exact w_c9
set_option maxRecDepth 65536 in
theorem w_t1 : (words1.take 24).all (fun c => isCode c || c.before args0 about1) = true := by decide +kernel
set_option maxRecDepth 65536 in
theorem w_t2 : ((words1.drop 24).take 24).all (fun c => isCode c || c.before args0 about1) = true := by decide +kernel
set_option maxRecDepth 65536 in
theorem w_t3 : ((words1.drop 24).drop 24).all (fun c => isCode c || c.before args0 about1) = true := by decide +kernel
theorem w_tables : (allAtoms (Jvm.Cond.code x code maxLocals ret :: tables_1)).before args0 about1 = true := by
  rw [allAtoms_all]
  show words1.all (fun c => c.before args0 about1) = true
  refine all_split ?_ w_codes
  rw [← List.take_append_drop 24 words1, List.all_append, w_t1, ← List.take_append_drop 24 (words1.drop 24), List.all_append, w_t2, w_t3]
  rfl
set_option maxRecDepth 65536 in
theorem w_rest : rest_1_c.before args0 about1 = true := by decide +kernel
set_option maxRecDepth 65536 in
theorem w_case : (Jvm.Cond.and given_1 narrow_1).before args0 about1 = true := by decide +kernel
theorem w_applies : (headSpec (Jvm.Cond.code x code maxLocals ret :: tables_1) room_1).applies x e0.platform about1 = true :=
  (Spec.applies_iff w_frames).mpr ⟨w_running, w_runnable, w_alone, w_named, w_hears, w_ripe, w_room, w_tables⟩
theorem atStart : AtStart classFile x code maxLocals ret World_1 tables_1 room_1 Calls_1 rest_1 Pre_1 launch0 p0 e0 about1 theMethod args0 below0 :=
  ⟨lists_1, trivial, launch0.admits_env _ _ _, launch0.least_env, fairChoices_fair.cas, fairChoices_fair.clock, w_frames, w_args, w_heap, w_applies, trivial, w_rest, w_case⟩
end start1
theorem witness_1 : WitnessClaimed_1 := ⟨start1.p0, start1.e0, start1.about1, start1.theMethod, start1.args0, start1.below0, start1.atStart⟩
end Jvm.Pilot.@@N@@
