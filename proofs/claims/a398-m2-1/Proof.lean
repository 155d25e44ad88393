import JvmDerived
import JvmDerived.Pilot.@@N@@Statement
import JvmDerived.Pilot.@@N@@Code
set_option linter.unusedVariables false
set_option linter.unusedSimpArgs false
namespace Jvm.Pilot.@@N@@
open Jvm Jvm.ClassFile Sem Op Lib Jvm.Free Jvm.Stand Jvm.LawKit Jvm.RoadKit Bundle Jvm.Pilot.@@N@@.Jvm.D
section Own
variable {p : Program} {l : Launch} {e : Env} {R : Room} {s : State} {m : MethodId} {args : Array Value} {below : List Frame} {meth : Method} {c : Code} {T : State} {locs : List Loc} {cells slots : Nat} {Z : State} {h h' : Heap}
def Run (p : Program) (e : Env) (below : List Frame) (s : State) (C N : Nat) (Q : Option Value → Heap → List Loc → Prop) (S : State) : Prop :=
  ∃ s₂ o, Steps p.tables e below S s₂ ∧ s₂.status = .running ∧ Ended s₂ below o ∧ ∃ v L, o = .returned v ∧ Q v s₂.heap L ∧ FrameEnd s o s₂ L C N
variable {C N : Nat} {Q : Option Value → Heap → List Loc → Prop} {S S' : State}
theorem Run.go (k : ∀ t, Steps p.tables e below S' t → Steps p.tables e below S t) (r : Run p e below s C N Q S') : Run p e below s C N Q S := by
  obtain ⟨s₂, o, h1, r⟩ := r
  exact ⟨s₂, o, k _ h1, r⟩
theorem Run.tr (k : Steps p.tables e below S S') (r : Run p e below s C N Q S') : Run p e below s C N Q S := by
  obtain ⟨s₂, o, h1, r⟩ := r
  exact ⟨s₂, o, k.trans h1, r⟩
theorem Run.retI (X : Stand p l e R s m args below meth c T locs cells slots) (hx : p.tables.exec = Jvm.exec) {pc : Nat} {Ls : Array Slot} {z : Int32} {rest : List Value} (hret : meth.sig.returnType = some .int) (hlk : meth.locks = false) (hd : decode c.code pc = .ok (.ireturn, 1)) (hc : cells ≤ C) (hn : slots ≤ N)
    (hQ : Q (some (.int z)) T.heap locs) : Run p e below s C N Q (T.setTop (mkF m pc Ls (.int z :: rest))) := by
  obtain ⟨fs, hr, hrun, hended, hW, hsame⟩ := X.leave (v := some (.int z)) (fun q => by rw [hret] at q; cases q)
  refine ⟨_, _, ?_, hrun, hended, _, _, rfl, hQ, ⟨_, rfl⟩, hW, hsame.mono hc hn⟩
  have hm' : T.vm.method? m = some meth := X.method'
  have hn : narrow .int (.int z) = .int z := rfl
  show Steps p.tables e below (T.setTop { method := m, pc := pc, locals := Ls, stack := _ :: rest, locked := none }) _
  jvm_step X.here [X.here.top, hx, hd, hm', hret, hn]
  first | (intro acts; rw [hr _ acts rfl rfl rfl]) | rw [hr _ _ rfl rfl rfl]
  exact Steps.refl _
theorem Run.retN (X : Stand p l e R s m args below meth c T locs cells slots) (hx : p.tables.exec = Jvm.exec) {pc : Nat} {Ls : Array Slot} {z y : Int32} {t : FieldType} {rest : List Value} (hret : meth.sig.returnType = some t) (ht : t = .boolean ∨ t = .byte ∨ t = .char ∨ t = .short) (hy : nar t z = y) (hlk : meth.locks = false) (hd : decode c.code pc = .ok (.ireturn, 1)) (hc : cells ≤ C) (hn : slots ≤ N)
    (hQ : Q (some (.int y)) T.heap locs) : Run p e below s C N Q (T.setTop (mkF m pc Ls (.int z :: rest))) := by
  subst hy
  obtain ⟨fs, hr, hrun, hended, hW, hsame⟩ := X.leave (v := some (.int (nar t z))) (fun q => by rw [hret] at q; cases q)
  exact ⟨_, _, Jvm.RoadKit.retN X hx hret ht hd hr, hrun, hended, _, _, rfl, hQ, ⟨_, rfl⟩, hW, hsame.mono hc hn⟩
theorem Run.retJ (X : Stand p l e R s m args below meth c T locs cells slots) (hx : p.tables.exec = Jvm.exec) {pc : Nat} {Ls : Array Slot} {z : Int64} {rest : List Value} (hret : meth.sig.returnType = some .long) (hlk : meth.locks = false) (hd : decode c.code pc = .ok (.lreturn, 1)) (hc : cells ≤ C) (hn : slots ≤ N)
    (hQ : Q (some (.long z)) T.heap locs) : Run p e below s C N Q (T.setTop (mkF m pc Ls (.long z :: rest))) := by
  obtain ⟨fs, hr, hrun, hended, hW, hsame⟩ := X.leave (v := some (.long z)) (fun q => by rw [hret] at q; cases q)
  refine ⟨_, _, ?_, hrun, hended, _, _, rfl, hQ, ⟨_, rfl⟩, hW, hsame.mono hc hn⟩
  have hm' : T.vm.method? m = some meth := X.method'
  show Steps p.tables e below (T.setTop { method := m, pc := pc, locals := Ls, stack := _ :: rest, locked := none }) _
  jvm_step X.here [X.here.top, hx, hd, hm', hret, narrow]
  first | (intro acts; rw [hr _ acts rfl rfl rfl]) | rw [hr _ _ rfl rfl rfl]
  exact Steps.refl _
theorem Run.retA (X : Stand p l e R s m args below meth c T locs cells slots) (hx : p.tables.exec = Jvm.exec) {pc : Nat} {Ls : Array Slot} {w : Value} {t : FieldType} {rest : List Value} (hw : w.isRef = true) (hret : meth.sig.returnType = some t) (ht : t.isReference = true) (hlk : meth.locks = false) (hd : decode c.code pc = .ok (.areturn, 1)) (hc : cells ≤ C) (hn : slots ≤ N)
    (hQ : Q (some w) T.heap locs) : Run p e below s C N Q (T.setTop (mkF m pc Ls (w :: rest))) := by
  obtain ⟨fs, hr, hrun, hended, hW, hsame⟩ := X.leave (v := some w) (fun q => by rw [hret] at q; cases q)
  refine ⟨_, _, ?_, hrun, hended, _, _, rfl, hQ, ⟨_, rfl⟩, hW, hsame.mono hc hn⟩
  have hm' : T.vm.method? m = some meth := X.method'
  show Steps p.tables e below (T.setTop { method := m, pc := pc, locals := Ls, stack := _ :: rest, locked := none }) _
  rcases ref_cases hw with rfl | ⟨a, rfl⟩
  all_goals
    jvm_step X.here [X.here.top, hx, hd, hm', hret, Value.isRef, ht]
    first | (intro acts; rw [hr _ acts rfl rfl rfl]) | rw [hr _ _ rfl rfl rfl]
    exact Steps.refl _
theorem Run.ret0 (X : Stand p l e R s m args below meth c T locs cells slots) (hx : p.tables.exec = Jvm.exec) {pc : Nat} {Ls : Array Slot} (hret : meth.sig.returnType = none) (hlk : meth.locks = false) (hd : decode c.code pc = .ok (.return_, 1)) (hc : cells ≤ C) (hn : slots ≤ N)
    (hQ : Q none T.heap locs) : Run p e below s C N Q (T.setTop (mkF m pc Ls [])) := by
  obtain ⟨fs, hr, hrun, hended, hW, hsame⟩ := X.leave (v := none) (fun _ => rfl)
  exact ⟨_, _, X.returnOut hx hret hd hr, hrun, hended, _, _, rfl, hQ, ⟨_, rfl⟩, hW, hsame.mono hc hn⟩
theorem Sta.keep {C n d : String} {w : Value} {ws : List Addr} (F : Sta Z h C n d w) (K : Keep h h' ws) (q : ∀ x ∈ ws, ∀ c : Cell, h[x]? = some c → c.vm.isStatics = false) : Sta Z h' C n d w := by
  obtain ⟨cf, i, k, f, st, cell, h1, h2, h3, h4, h5, h6, h7⟩ := F
  refine ⟨cf, i, k, f, st, cell, h1, h2, h3, h4, K.2.1 st cell h5 (fun hm => ?_), h6, h7⟩
  rw [q st hm cell h5] at h6; cases h6
theorem Exa.nst {a : Addr} {C : String} (F : Exa Z h a C) : ∀ c : Cell, h[a]? = some c → c.vm.isStatics = false := fun c q => by
  obtain ⟨cell, k, h1, -, -, h4, -⟩ := F
  cases h1.symm.trans q; exact h4
/-- an array of n elements, the i-th is f i -/
def Ary (Z : State) (h : Heap) (a : Addr) (ty : FieldType) (n : Nat) (f : Nat → Value) : Prop := ∃ c : Cell, Arr Z h a c ty ∧ c.slots.size = n ∧ ∀ i, i < n → c.slots[i]? = some (f i)
variable {a b : Addr} {ty : FieldType} {n sl : Nat} {f : Nat → Value} {v : Value} {ws : List Addr}
theorem Ary.lt (F : Ary Z h a ty n f) : a < h.size := by obtain ⟨c, A, -⟩ := F; exact A.lt
theorem Ary.ext (F : Ary Z h a ty n f) (E : Ext h h') : Ary Z h' a ty n f := by obtain ⟨c, A, r⟩ := F; exact ⟨c, A.ext E, r⟩
theorem Ary.other (F : Ary Z h b ty n f) (W : Wr h h' a sl v) (q : b ≠ a) : Ary Z h' b ty n f := by obtain ⟨c, A, r⟩ := F; exact ⟨c, A.other W q, r⟩
theorem Ary.keep (F : Ary Z h a ty n f) (K : Keep h h' ws) (q : a ∉ ws) : Ary Z h' a ty n f := by obtain ⟨c, A, r⟩ := F; exact ⟨c, ⟨K.2.1 a c A.1 q, A.2⟩, r⟩
theorem Ary.ne {C : String} {a0 : Array Value} {k : Nat} (F : Ary Z h a ty n f) (G : Exa Z h b C) (wi : (Jvm.Cond.instantiable C k).before a0 Z = true) : a ≠ b := by
  obtain ⟨c, A, r⟩ := F; exact (ne_arr G wi A).symm
theorem Ary.same (F : Ary Z h a ty n f) (W : Wr h h' a sl v) : Ary Z h' a ty n (fun i => if i = sl then v else f i) := by
  obtain ⟨c, A, hs, hf⟩ := F
  obtain ⟨c1, q1, q2, q3, q4⟩ := W
  obtain rfl := Option.some.inj (q1.symm.trans A.1)
  refine ⟨c1.setSlot sl v, A.same ⟨c1, q1, q2, q3, q4⟩, by simp [Cell.setSlot, hs], fun i hi => ?_⟩
  by_cases e : i = sl
  · subst e; simp [Cell.setSlot, q3]
  · simp only [if_neg e]; rw [← hf i hi]; exact Array.getElem?_setIfInBounds_ne (Ne.symm e)
theorem Ary.nst (F : Ary Z h a ty n f) : ∀ c : Cell, h[a]? = some c → c.vm.isStatics = false := fun c q => by
  obtain ⟨cl, A, -⟩ := F
  cases A.1.symm.trans q; exact A.plain
theorem Ary.congr {g : Nat → Value} (F : Ary Z h a ty n f) (q : ∀ i, i < n → f i = g i) : Ary Z h a ty n g := by
  obtain ⟨c, A, hs, hf⟩ := F; exact ⟨c, A, hs, fun i hi => by rw [hf i hi, q i hi]⟩
theorem Ary.new {k : ClassId} {z : Int32} (A : Arr Z h a (newA k ty z) ty) (q : z.toNatClampNeg = n) : Ary Z h a ty n (fun _ => defaultValue ty) := by
  subst q
  exact ⟨_, A, sz_new _ _ _, fun i hi => by simp [newA, hi]⟩
theorem out_of {j : Int32} {c : Cell} (hs : c.slots.size = n) (h0 : ¬ j < 0) (hj : j.toNatClampNeg < n) : ¬ (j < 0 ∨ c.slots.size ≤ j.toNatClampNeg) := by
  rw [hs]; exact fun q => q.elim h0 (fun q => absurd hj (Nat.not_lt.mpr q))
/-- an array of references: besides, its class is that of arrays over C -/
def ArR (Z : State) (h : Heap) (a : Addr) (C : String) (n : Nat) (f : Nat → Value) : Prop := ∃ c : Cell, Arr Z h a c (.object C) ∧ Ovr Z c.cls C ∧ c.slots.size = n ∧ ∀ i, i < n → c.slots[i]? = some (f i)
variable {K : String}
theorem ArR.lt (F : ArR Z h a K n f) : a < h.size := by obtain ⟨c, A, -⟩ := F; exact A.lt
theorem ArR.ext (F : ArR Z h a K n f) (E : Ext h h') : ArR Z h' a K n f := by obtain ⟨c, A, r⟩ := F; exact ⟨c, A.ext E, r⟩
theorem ArR.other (F : ArR Z h b K n f) (W : Wr h h' a sl v) (q : b ≠ a) : ArR Z h' b K n f := by obtain ⟨c, A, r⟩ := F; exact ⟨c, A.other W q, r⟩
theorem ArR.keep (F : ArR Z h a K n f) (k : Keep h h' ws) (q : a ∉ ws) : ArR Z h' a K n f := by obtain ⟨c, A, r⟩ := F; exact ⟨c, ⟨k.2.1 a c A.1 q, A.2⟩, r⟩
theorem ArR.ary (F : ArR Z h a K n f) : Ary Z h a (.object K) n f := by obtain ⟨c, A, -, r⟩ := F; exact ⟨c, A, r⟩
theorem ArR.same (F : ArR Z h a K n f) (W : Wr h h' a sl v) : ArR Z h' a K n (fun i => if i = sl then v else f i) := by
  obtain ⟨c, A, o, hs, hf⟩ := F
  obtain ⟨c1, q1, q2, q3, q4⟩ := W
  obtain rfl := Option.some.inj (q1.symm.trans A.1)
  refine ⟨c1.setSlot sl v, A.same ⟨c1, q1, q2, q3, q4⟩, o, by simp [Cell.setSlot, hs], fun i hi => ?_⟩
  by_cases e : i = sl
  · subst e; simp [Cell.setSlot, q3]
  · simp only [if_neg e]; rw [← hf i hi]; exact Array.getElem?_setIfInBounds_ne (Ne.symm e)
theorem ArR.new {k : ClassId} {z : Int32} (A : Arr Z h a (newA k (.object K) z) (.object K)) (O : Ovr Z k K) (q : z.toNatClampNeg = n) : ArR Z h a K n (fun _ => .null) := by
  subst q
  exact ⟨_, A, O, sz_new _ _ _, fun i hi => by simp [newA, hi]; rfl⟩
section Arrays
theorem ary_iget (X : Stand p l e R s m args below meth c T locs cells slots) (hx : p.tables.exec = Jvm.exec) (hZ : Z.Warmed39 s.vm) (eT : T.heap = h) (A : Ary Z h a .int n f) {j : Int32} (h0 : ¬ j < 0) (hj : j.toNatClampNeg < n) {g : JFrame} (hg : g.method = m) {rest : List Value} (hs : g.stack = .int j :: .ref a :: rest) (hd : decode c.code g.pc = .ok (.iaload, 1)) {v : Value} (hv : f j.toNatClampNeg = v) (target : State)
    (k : Steps p.tables e below (T.setTop { g with pc := g.pc + 1, stack := v :: rest }) target) : Steps p.tables e below (T.setTop g) target := by
  subst hv; obtain ⟨cl, A, q, F⟩ := A
  exact X.iaload hx (by rw [eT]; exact A.1) (State.isArrayOf_alike hZ.alike A.2.1) A.2.2 (out_of q h0 hj) (F _ hj) hg hs hd target k
theorem ary_lget (X : Stand p l e R s m args below meth c T locs cells slots) (hx : p.tables.exec = Jvm.exec) (hZ : Z.Warmed39 s.vm) (eT : T.heap = h) (A : Ary Z h a .long n f) {j : Int32} (h0 : ¬ j < 0) (hj : j.toNatClampNeg < n) {g : JFrame} (hg : g.method = m) {rest : List Value} (hs : g.stack = .int j :: .ref a :: rest) (hd : decode c.code g.pc = .ok (.laload, 1)) {v : Value} (hv : f j.toNatClampNeg = v) (target : State)
    (k : Steps p.tables e below (T.setTop { g with pc := g.pc + 1, stack := v :: rest }) target) : Steps p.tables e below (T.setTop g) target := by
  subst hv; obtain ⟨cl, A, q, F⟩ := A
  exact X.laload hx (by rw [eT]; exact A.1) (State.isArrayOf_alike hZ.alike A.2.1) A.2.2 (out_of q h0 hj) (F _ hj) hg hs hd target k
theorem ary_bget (X : Stand p l e R s m args below meth c T locs cells slots) (hx : p.tables.exec = Jvm.exec) (hZ : Z.Warmed39 s.vm) (eT : T.heap = h) (A : Ary Z h a .byte n f) {j : Int32} (h0 : ¬ j < 0) (hj : j.toNatClampNeg < n) {g : JFrame} (hg : g.method = m) {rest : List Value} (hs : g.stack = .int j :: .ref a :: rest) (hd : decode c.code g.pc = .ok (.baload, 1)) {v : Value} (hv : f j.toNatClampNeg = v) (target : State)
    (k : Steps p.tables e below (T.setTop { g with pc := g.pc + 1, stack := v :: rest }) target) : Steps p.tables e below (T.setTop g) target := by
  subst hv; obtain ⟨cl, A, q, F⟩ := A
  exact X.baloadBytes hx (by rw [eT]; exact A.1) (State.isArrayOf_alike hZ.alike A.2.1) A.2.2 (out_of q h0 hj) (F _ hj) hg hs hd target k
theorem ary_cget (X : Stand p l e R s m args below meth c T locs cells slots) (hx : p.tables.exec = Jvm.exec) (hZ : Z.Warmed39 s.vm) (eT : T.heap = h) (A : Ary Z h a .char n f) {j : Int32} (h0 : ¬ j < 0) (hj : j.toNatClampNeg < n) {g : JFrame} (hg : g.method = m) {rest : List Value} (hs : g.stack = .int j :: .ref a :: rest) (hd : decode c.code g.pc = .ok (.caload, 1)) {v : Value} (hv : f j.toNatClampNeg = v) (target : State)
    (k : Steps p.tables e below (T.setTop { g with pc := g.pc + 1, stack := v :: rest }) target) : Steps p.tables e below (T.setTop g) target := by
  subst hv; obtain ⟨cl, A, q, F⟩ := A
  exact X.caload hx (by rw [eT]; exact A.1) (State.isArrayOf_alike hZ.alike A.2.1) A.2.2 (out_of q h0 hj) (F _ hj) hg hs hd target k
theorem ary_aget (X : Stand p l e R s m args below meth c T locs cells slots) (hx : p.tables.exec = Jvm.exec) (hZ : Z.Warmed39 s.vm) (eT : T.heap = h) (A : Ary Z h a ty n f) (hr : ty.isReference = true) {j : Int32} (h0 : ¬ j < 0) (hj : j.toNatClampNeg < n) {g : JFrame} (hg : g.method = m) {rest : List Value} (hs : g.stack = .int j :: .ref a :: rest) (hd : decode c.code g.pc = .ok (.aaload, 1)) {v : Value} (hv : f j.toNatClampNeg = v) (target : State)
    (k : Steps p.tables e below (T.setTop { g with pc := g.pc + 1, stack := v :: rest }) target) : Steps p.tables e below (T.setTop g) target := by
  subst hv; obtain ⟨cl, A, q, F⟩ := A
  exact X.aaload hx (by rw [eT]; exact A.1) (State.isArrayOf_alike hZ.alike A.2.1) hr A.2.2 (out_of q h0 hj) (F _ hj) hg hs hd target k
theorem ary_len (X : Stand p l e R s m args below meth c T locs cells slots) (hx : p.tables.exec = Jvm.exec) (hZ : Z.Warmed39 s.vm) (eT : T.heap = h) (A : Ary Z h a ty n f) {g : JFrame} (hg : g.method = m) {rest : List Value} (hs : g.stack = .ref a :: rest) (hd : decode c.code g.pc = .ok (.arraylength, 1)) {z : Int32} (hv : n.toInt32 = z) (target : State)
    (k : Steps p.tables e below (T.setTop { g with pc := g.pc + 1, stack := .int z :: rest }) target) : Steps p.tables e below (T.setTop g) target := by
  subst hv; obtain ⟨cl, A, q, F⟩ := A
  subst q
  exact X.arraylength hx (by rw [eT]; exact A.1) (State.isArrayOf_alike hZ.alike A.2.1) hg hs hd target k
theorem ary_iset (X : Stand p l e R s m args below meth c T locs cells slots) (hx : p.tables.exec = Jvm.exec) (hZ : Z.Warmed39 s.vm) (eT : T.heap = h) (A : Ary Z h a .int n f) {j x : Int32} (h0 : ¬ j < 0) (hj : j.toNatClampNeg < n) {g : JFrame} (hg : g.method = m) {rest : List Value} (hs : g.stack = .int x :: .int j :: .ref a :: rest) (hd : decode c.code g.pc = .ok (.iastore, 1)) :
    ∃ T' h', Stand p l e R s m args below meth c T' (locs ++ [⟨a, j.toNatClampNeg⟩]) cells slots ∧ T'.heap = h' ∧ Wr h h' a j.toNatClampNeg (.int x) ∧ ∀ target, Steps p.tables e below (T'.setTop { g with pc := g.pc + 1, stack := rest }) target → Steps p.tables e below (T.setTop g) target := by
  obtain ⟨cl, A, q, F⟩ := A
  exact stI X hx hZ eT A (out_of q h0 hj) hg hs hd
theorem ary_lset (X : Stand p l e R s m args below meth c T locs cells slots) (hx : p.tables.exec = Jvm.exec) (hZ : Z.Warmed39 s.vm) (eT : T.heap = h) (A : Ary Z h a .long n f) {j : Int32} {x : Int64} (h0 : ¬ j < 0) (hj : j.toNatClampNeg < n) {g : JFrame} (hg : g.method = m) {rest : List Value} (hs : g.stack = .long x :: .int j :: .ref a :: rest) (hd : decode c.code g.pc = .ok (.lastore, 1)) :
    ∃ T' h', Stand p l e R s m args below meth c T' (locs ++ [⟨a, j.toNatClampNeg⟩]) cells slots ∧ T'.heap = h' ∧ Wr h h' a j.toNatClampNeg (.long x) ∧ ∀ target, Steps p.tables e below (T'.setTop { g with pc := g.pc + 1, stack := rest }) target → Steps p.tables e below (T.setTop g) target := by
  obtain ⟨cl, A, q, F⟩ := A
  exact stJ X hx hZ eT A (out_of q h0 hj) hg hs hd
theorem ary_bset (X : Stand p l e R s m args below meth c T locs cells slots) (hx : p.tables.exec = Jvm.exec) (hZ : Z.Warmed39 s.vm) (eT : T.heap = h) (A : Ary Z h a .byte n f) {j x y : Int32} (h0 : ¬ j < 0) (hj : j.toNatClampNeg < n) {g : JFrame} (hg : g.method = m) {rest : List Value} (hs : g.stack = .int x :: .int j :: .ref a :: rest) (hd : decode c.code g.pc = .ok (.bastore, 1)) (hy : x.toInt8.toInt32 = y) :
    ∃ T' h', Stand p l e R s m args below meth c T' (locs ++ [⟨a, j.toNatClampNeg⟩]) cells slots ∧ T'.heap = h' ∧ Wr h h' a j.toNatClampNeg (.int y) ∧ ∀ target, Steps p.tables e below (T'.setTop { g with pc := g.pc + 1, stack := rest }) target → Steps p.tables e below (T.setTop g) target := by
  subst hy; obtain ⟨cl, A, q, F⟩ := A
  exact stB X hx hZ eT A (out_of q h0 hj) hg hs hd
theorem ary_cset (X : Stand p l e R s m args below meth c T locs cells slots) (hx : p.tables.exec = Jvm.exec) (hZ : Z.Warmed39 s.vm) (eT : T.heap = h) (A : Ary Z h a .char n f) {j x y : Int32} (h0 : ¬ j < 0) (hj : j.toNatClampNeg < n) {g : JFrame} (hg : g.method = m) {rest : List Value} (hs : g.stack = .int x :: .int j :: .ref a :: rest) (hd : decode c.code g.pc = .ok (.castore, 1)) (hy : nar .char x = y) :
    ∃ T' h', Stand p l e R s m args below meth c T' (locs ++ [⟨a, j.toNatClampNeg⟩]) cells slots ∧ T'.heap = h' ∧ Wr h h' a j.toNatClampNeg (.int y) ∧ ∀ target, Steps p.tables e below (T'.setTop { g with pc := g.pc + 1, stack := rest }) target → Steps p.tables e below (T.setTop g) target := by
  subst hy; obtain ⟨cl, A, q, F⟩ := A
  exact stC X hx hZ eT A (out_of q h0 hj) hg hs hd
theorem arr_set (X : Stand p l e R s m args below meth c T locs cells slots) (hx : p.tables.exec = Jvm.exec) (hZ : Z.Warmed39 s.vm) (eT : T.heap = h) (A : ArR Z h a K n f) {j : Int32} {y : Addr} (I : Ins Z h y K true) (h0 : ¬ j < 0) (hj : j.toNatClampNeg < n) {g : JFrame} (hg : g.method = m) {rest : List Value} (hs : g.stack = .ref y :: .int j :: .ref a :: rest) (hd : decode c.code g.pc = .ok (.aastore, 1)) :
    ∃ T' h', Stand p l e R s m args below meth c T' (locs ++ [⟨a, j.toNatClampNeg⟩]) cells slots ∧ T'.heap = h' ∧ Wr h h' a j.toNatClampNeg (.ref y) ∧ ∀ target, Steps p.tables e below (T'.setTop { g with pc := g.pc + 1, stack := rest }) target → Steps p.tables e below (T.setTop g) target := by
  obtain ⟨cl, A, O, q, F⟩ := A
  exact stR X hx hZ eT A (out_of q h0 hj) rfl (Sto.of A O I) hg hs hd
end Arrays
theorem nar_ite (P : Prop) [Decidable P] : nar .boolean (if P then (1 : Int32) else 0) = if P then 1 else 0 := by by_cases q : P <;> simp [q] <;> rfl
theorem b_idem (x : Int32) : x.toInt8.toInt32.toInt8.toInt32 = x.toInt8.toInt32 := by rw [Int8.toInt8_toInt32]
theorem isI_c (x : Int32) : ∀ n : Nat, ∃ y, (fun _ => Value.int x) n = Value.int y := fun _ => ⟨x, rfl⟩
theorem isI_s {f : Nat → Value} (q : ∀ n, ∃ y, f n = Value.int y) (k : Nat) (x : Int32) : ∀ n, ∃ y, (fun i => if i = k then Value.int x else f i) n = Value.int y := fun n => by
  by_cases e : n = k
  · exact ⟨x, if_pos e⟩
  · obtain ⟨y, hy⟩ := q n
    exact ⟨y, (if_neg e).trans hy⟩
end Own
theorem d2_0 : decode jdk_30_method_1_code 0 = .ok (.aload_n 0, 1) := by decide +kernel
theorem d2_1 : decode jdk_30_method_1_code 1 = .ok (.invokespecial 1, 3) := by decide +kernel
theorem d2_4 : decode jdk_30_method_1_code 4 = .ok (.return_, 1) := by decide +kernel
def Q_rm2 (Z : State) (a1 : Addr) (h0 : Heap) (n0 : Nat) (v : Option Value) (h : Heap) (L : List Loc) : Prop := v = none ∧ Fr n0 L ∧ h = h0
theorem ef_rm2 (m : MethodId) (x0 : Addr) : entryFrame m #[(.ref x0)] 1 = mkF m 0 #[.val (.ref x0)] [] := by first | (simp [entryFrame, mkF, argsToLocals, Value.category]; done) | rfl
theorem pn_0 : plainName "java/lang/Record" = true := by first | (simp [plainName, overriddenIn]; done) | decide +kernel
set_option maxRecDepth 65536 in
set_option maxHeartbeats 40000000 in
theorem rm2 (l : Launch) (Z : State) (a0 : Array Value) (hw : ∀ d ∈ tables_1, d.before a0 Z = true) (ws : List Jvm.Cond) (a1 : Addr) (h0 : Heap) (n0 : Nat) (Z0 : n0 ≤ h0.size)  :
    MetFree l (⟨"java/lang/Record", "<init>", "()V"⟩ : MethodName) (head1 (Jvm.Cond.code (⟨"java/lang/Record", "<init>", "()V"⟩ : MethodName) jdk_30_method_1_code 1 none :: ws) ({ frames := 1, cells := 0, slots := 0, locals := 12 } : Room)) (fun a U => a = #[(.ref a1)] ∧ Z.Warmed39 U.vm ∧ U.heap = h0) (fun _ _ _ _ _ => True) (fun _ U o U' => ∃ v L, o = .returned v ∧ Q_rm2 Z a1 h0 n0 v U'.heap L ∧ FrameEnd U o U' L ({ frames := 1, cells := 0, slots := 0, locals := 12 } : Room).cells ({ frames := 1, cells := 0, slots := 0, locals := 12 } : Room).slots) := by
  refine MetFree.of_bodySF (plainFor_of_name pn_0) hisR ?_
  intro p e s m args below meth c s₁ Bd hml0 hP hK
  obtain ⟨rfl, hZ, hh⟩ := hP
  have hx := Bd.exec
  have hby := Bd.bytes
  have hml : c.maxLocals = 1 := hml0
  have hown : s.vm.findClass "java/lang/Record" = some m.cls := findClass_of_methodNamed Bd.named
  have hnm := (name_of_methodNamed Bd.named Bd.method).1
  have X0 : Stand p l e ({ frames := 1, cells := 0, slots := 0, locals := 12 } : Room) s m #[(.ref a1)] below meth c s₁ [] 0 0 := Stand.of_body Bd
  have e0 : s₁.heap = h0 := by rw [← hh, Bd.state]; rfl
  have N0 := Fr.nil n0
  show Run p e below s 0 0 (Q_rm2 Z a1 h0 n0) (s₁.setTop (entryFrame m #[(.ref a1)] 1))
  refine Run.go (fun _ k => castTop (ef_rm2 m a1) k) ?_
  show Run p e below s 0 0 (Q_rm2 Z a1 h0 n0) (s₁.setTop (mkF m 0 #[.val (.ref a1)] []))
  refine Run.go (fun _ k => XS.aloadN X0.here hx rfl (hb hby d2_0) rfl rfl k) ?_
  show Run p e below s 0 0 (Q_rm2 Z a1 h0 n0) (s₁.setTop (mkF m 1 #[.val (.ref a1)] [(.ref a1)]))
  obtain ⟨T2, X2, e2, st2⟩ := initO X0 hx hZ hown (hw _ (List.mem_of_getElem? (i := 12) rfl)) (hw _ (List.mem_of_getElem? (i := 13) rfl)) (hw _ (List.mem_of_getElem? (i := 14) rfl)) e0 (g := (mkF m 1 #[.val (.ref a1)] [(.ref a1)])) rfl (by rw [hml]; rfl) rfl (hb hby d2_1) (by decide) (W := 0) (by show 2 * 0 + _ ≤ _; exact Nat.le_of_eq rfl) (by decide)
  refine Run.go st2 ?_
  show Run p e below s 0 0 (Q_rm2 Z a1 h0 n0) (T2.setTop (mkF m 4 #[.val (.ref a1)] []))
  refine Run.ret0 X2 hx Bd.returns Bd.notSynchronized (hb hby d2_4) (by decide) (by decide) ?_
  show Q_rm2 Z a1 h0 n0 _ T2.heap _
  exact ⟨rfl, N0, e2⟩
theorem d1_0 : decode prog_19_method_1_code 0 = .ok (.aload_n 0, 1) := by decide +kernel
theorem d1_1 : decode prog_19_method_1_code 1 = .ok (.invokespecial 1, 3) := by decide +kernel
theorem pd_0 : parseMethodDescriptor "()V" = some ⟨[], none⟩ := by decide +kernel
theorem d1_4 : decode prog_19_method_1_code 4 = .ok (.aload_n 0, 1) := by decide +kernel
theorem d1_5 : decode prog_19_method_1_code 5 = .ok (.lload_n 1, 1) := by decide +kernel
theorem d1_6 : decode prog_19_method_1_code 6 = .ok (.putfield 7, 3) := by decide +kernel
theorem d1_9 : decode prog_19_method_1_code 9 = .ok (.aload_n 0, 1) := by decide +kernel
theorem d1_10 : decode prog_19_method_1_code 10 = .ok (.lload_n 3, 1) := by decide +kernel
theorem d1_11 : decode prog_19_method_1_code 11 = .ok (.putfield 13, 3) := by decide +kernel
theorem d1_14 : decode prog_19_method_1_code 14 = .ok (.return_, 1) := by decide +kernel
def Q_rm1 (Z : State) (a1 : Addr) (q2 : Int64) (q3 : Int64) (u_monotonicNanos_a1 : Value) (u_wallNanos_a1 : Value) (h0 : Heap) (n0 : Nat) (v : Option Value) (h : Heap) (L : List Loc) : Prop := v = none ∧ Fr n0 L ∧ Keep h0 h [a1] ∧ Exa Z h a1 "com/example/hyra/hyra/Instants" ∧ Fld Z h a1 "com/example/hyra/hyra/Instants" "monotonicNanos" "J" (.long q2) ∧ Fld Z h a1 "com/example/hyra/hyra/Instants" "wallNanos" "J" (.long q3)
theorem ef_rm1 (m : MethodId) (x0 : Addr) (x1 : Int64) (x2 : Int64) : entryFrame m #[(.ref x0), (.long x1), (.long x2)] 5 = mkF m 0 #[.val (.ref x0), .val (.long x1), .second, .val (.long x2), .second] [] := by first | (simp [entryFrame, mkF, argsToLocals, Value.category]; done) | rfl
theorem pn_1 : plainName "com/example/hyra/hyra/Instants" = true := by first | (simp [plainName, overriddenIn]; done) | decide +kernel
set_option maxRecDepth 65536 in
set_option maxHeartbeats 40000000 in
theorem rm1 (l : Launch) (Z : State) (a0 : Array Value) (hw : ∀ d ∈ tables_1, d.before a0 Z = true) (ws : List Jvm.Cond) (a1 : Addr) (q2 : Int64) (q3 : Int64) (u_monotonicNanos_a1 : Value) (u_wallNanos_a1 : Value) (h0 : Heap) (n0 : Nat) (Z0 : n0 ≤ h0.size) (E_a1 : Exa Z h0 a1 "com/example/hyra/hyra/Instants") (F_monotonicNanos_a1 : Fld Z h0 a1 "com/example/hyra/hyra/Instants" "monotonicNanos" "J" u_monotonicNanos_a1) (g_a1 : n0 ≤ a1) (F_wallNanos_a1 : Fld Z h0 a1 "com/example/hyra/hyra/Instants" "wallNanos" "J" u_wallNanos_a1) :
    MetFree l (⟨"com/example/hyra/hyra/Instants", "<init>", "(JJ)V"⟩ : MethodName) (head1 (Jvm.Cond.code (⟨"com/example/hyra/hyra/Instants", "<init>", "(JJ)V"⟩ : MethodName) prog_19_method_1_code 5 none :: ws) ({ frames := 2, cells := 0, slots := 0, locals := 24 } : Room)) (fun a U => a = #[(.ref a1), (.long q2), (.long q3)] ∧ Z.Warmed39 U.vm ∧ U.heap = h0) (fun _ _ _ _ _ => True) (fun _ U o U' => ∃ v L, o = .returned v ∧ Q_rm1 Z a1 q2 q3 u_monotonicNanos_a1 u_wallNanos_a1 h0 n0 v U'.heap L ∧ FrameEnd U o U' L ({ frames := 2, cells := 0, slots := 0, locals := 24 } : Room).cells ({ frames := 2, cells := 0, slots := 0, locals := 24 } : Room).slots) := by
  refine MetFree.of_bodySF (plainFor_of_name pn_1) hisR ?_
  intro p e s m args below meth c s₁ Bd hml0 hP hK
  obtain ⟨rfl, hZ, hh⟩ := hP
  have hx := Bd.exec
  have hby := Bd.bytes
  have hml : c.maxLocals = 5 := hml0
  have hown : s.vm.findClass "com/example/hyra/hyra/Instants" = some m.cls := findClass_of_methodNamed Bd.named
  have hnm := (name_of_methodNamed Bd.named Bd.method).1
  have X0 : Stand p l e ({ frames := 2, cells := 0, slots := 0, locals := 24 } : Room) s m #[(.ref a1), (.long q2), (.long q3)] below meth c s₁ [] 0 0 := Stand.of_body Bd
  have e0 : s₁.heap = h0 := by rw [← hh, Bd.state]; rfl
  have N0 := Fr.nil n0
  show Run p e below s 0 0 (Q_rm1 Z a1 q2 q3 u_monotonicNanos_a1 u_wallNanos_a1 h0 n0) (s₁.setTop (entryFrame m #[(.ref a1), (.long q2), (.long q3)] 5))
  refine Run.go (fun _ k => castTop (ef_rm1 m a1 q2 q3) k) ?_
  show Run p e below s 0 0 (Q_rm1 Z a1 q2 q3 u_monotonicNanos_a1 u_wallNanos_a1 h0 n0) (s₁.setTop (mkF m 0 #[.val (.ref a1), .val (.long q2), .second, .val (.long q3), .second] []))
  refine Run.go (fun _ k => XS.aloadN X0.here hx rfl (hb hby d1_0) rfl rfl k) ?_
  show Run p e below s 0 0 (Q_rm1 Z a1 q2 q3 u_monotonicNanos_a1 u_wallNanos_a1 h0 n0) (s₁.setTop (mkF m 1 #[.val (.ref a1), .val (.long q2), .second, .val (.long q3), .second] [(.ref a1)]))
  obtain ⟨_, _, ⟨T4, L4, k4, n4⟩, -, X4, ⟨Lc4, hQ4, l4, y4, z4⟩, st4⟩ := X0.specialBack hx (y := (⟨"java/lang/Record", "<init>", "()V"⟩ : MethodName)) rfl hown (mvT hZ (hw _ (List.mem_of_getElem? (i := 7) rfl))) (mvT hZ (hw _ (List.mem_of_getElem? (i := 8) rfl))) (mvT hZ (hw _ (List.mem_of_getElem? (i := 11) rfl))) (by decide) (backOf (W := 0) (rm2 l Z a0 hw [] a1 h0 n0 Z0 ) hZ (hw _ (List.mem_of_getElem? (i := 11) rfl)) (hw _ (List.mem_of_getElem? (i := 10) rfl)) (by decide) (by decide)) (g := (mkF m 1 #[.val (.ref a1), .val (.long q2), .second, .val (.long q3), .second] [(.ref a1)])) rfl (by rw [hml]; rfl) (Steps.refl _) (a := a1) (argsL := []) (rest := []) (lenOf pd_0 rfl) rfl (by show 2 * 0 + _ ≤ _; exact Nat.le_of_eq rfl) (hb hby d1_1) (fun _ _ => ⟨rfl, e0, (by decide : 0 + 0 ≤ _), (by decide : 0 + 0 ≤ _)⟩)
  dsimp only [Pt.U, Pt.locs, Pt.cells, Pt.slots] at X4 l4 y4 z4 st4 hQ4
  subst l4 y4 z4
  obtain ⟨rfl, N4q, e4q⟩ := hQ4
  have N4 := Fr.app N0 N4q
  refine Run.tr st4 ?_
  show Run p e below s 0 0 (Q_rm1 Z a1 q2 q3 u_monotonicNanos_a1 u_wallNanos_a1 h0 n0) (T4.setTop (mkF m 4 #[.val (.ref a1), .val (.long q2), .second, .val (.long q3), .second] []))
  refine Run.go (fun _ k => XS.aloadN X4.here hx rfl (hb hby d1_4) rfl rfl k) ?_
  show Run p e below s 0 0 (Q_rm1 Z a1 q2 q3 u_monotonicNanos_a1 u_wallNanos_a1 h0 n0) (T4.setTop (mkF m 5 #[.val (.ref a1), .val (.long q2), .second, .val (.long q3), .second] [(.ref a1)]))
  refine Run.go (fun _ k => XS.lloadN X4.here hx rfl (hb hby d1_5) rfl  k) ?_
  show Run p e below s 0 0 (Q_rm1 Z a1 q2 q3 u_monotonicNanos_a1 u_wallNanos_a1 h0 n0) (T4.setTop (mkF m 6 #[.val (.ref a1), .val (.long q2), .second, .val (.long q3), .second] [(.long q2), (.ref a1)]))
  obtain ⟨T5, h5, X5, e5, W5, st5⟩ := putF X4 hx hZ hown (host := "") (Or.inl (hw _ (List.mem_of_getElem? (i := 15) rfl))) Via.refl e4q F_monotonicNanos_a1 E_a1 (Or.inr ⟨(hw _ (List.mem_of_getElem? (i := 16) rfl)), rfl, hnm⟩) (hw _ (List.mem_of_getElem? (i := 2) rfl)) (ty := .long) (by decide) rfl rfl (g := (mkF m 6 #[.val (.ref a1), .val (.long q2), .second, .val (.long q3), .second] [(.long q2), (.ref a1)])) rfl rfl (hb hby d1_6)
  have N5 := Fr.snoc X5 N4 g_a1
  have Z5 : n0 ≤ h5.size := Nat.le_trans Z0 (Keep.of_wr W5).1
  have K5 : Keep h0 h5 [a1] := (Keep.refl h0 [a1]).wr W5 (Or.inl (List.mem_of_getElem? (i := 0) rfl))
  have fx6 := F_monotonicNanos_a1.same W5
  refine Run.go st5 ?_
  show Run p e below s 0 0 (Q_rm1 Z a1 q2 q3 u_monotonicNanos_a1 u_wallNanos_a1 h0 n0) (T5.setTop (mkF m 9 #[.val (.ref a1), .val (.long q2), .second, .val (.long q3), .second] []))
  refine Run.go (fun _ k => XS.aloadN X5.here hx rfl (hb hby d1_9) rfl rfl k) ?_
  show Run p e below s 0 0 (Q_rm1 Z a1 q2 q3 u_monotonicNanos_a1 u_wallNanos_a1 h0 n0) (T5.setTop (mkF m 10 #[.val (.ref a1), .val (.long q2), .second, .val (.long q3), .second] [(.ref a1)]))
  refine Run.go (fun _ k => XS.lloadN X5.here hx rfl (hb hby d1_10) rfl  k) ?_
  show Run p e below s 0 0 (Q_rm1 Z a1 q2 q3 u_monotonicNanos_a1 u_wallNanos_a1 h0 n0) (T5.setTop (mkF m 11 #[.val (.ref a1), .val (.long q2), .second, .val (.long q3), .second] [(.long q3), (.ref a1)]))
  have fx7 := (E_a1.wr W5)
  have fx8 := (F_wallNanos_a1.other W5 (Or.inr (slot_ne (Or.inr (hw _ (List.mem_of_getElem? (i := 18) rfl))) (Or.inr (hw _ (List.mem_of_getElem? (i := 16) rfl))) (by decide) (t := .long) (t' := .long) (by decide) (by decide))))
  obtain ⟨T9, h9, X9, e9, W9, st9⟩ := putF X5 hx hZ hown (host := "") (Or.inl (hw _ (List.mem_of_getElem? (i := 17) rfl))) Via.refl e5 fx8 fx7 (Or.inr ⟨(hw _ (List.mem_of_getElem? (i := 18) rfl)), rfl, hnm⟩) (hw _ (List.mem_of_getElem? (i := 2) rfl)) (ty := .long) (by decide) rfl rfl (g := (mkF m 11 #[.val (.ref a1), .val (.long q2), .second, .val (.long q3), .second] [(.long q3), (.ref a1)])) rfl rfl (hb hby d1_11)
  have N9 := Fr.snoc X9 N5 g_a1
  have Z9 : n0 ≤ h9.size := Nat.le_trans Z5 (Keep.of_wr W9).1
  have K9 : Keep h0 h9 [a1] := K5.wr W9 (Or.inl (List.mem_of_getElem? (i := 0) rfl))
  have fx10 := fx8.same W9
  refine Run.go st9 ?_
  show Run p e below s 0 0 (Q_rm1 Z a1 q2 q3 u_monotonicNanos_a1 u_wallNanos_a1 h0 n0) (T9.setTop (mkF m 14 #[.val (.ref a1), .val (.long q2), .second, .val (.long q3), .second] []))
  refine Run.ret0 X9 hx Bd.returns Bd.notSynchronized (hb hby d1_14) (by decide) (by decide) ?_
  show Q_rm1 Z a1 q2 q3 u_monotonicNanos_a1 u_wallNanos_a1 h0 n0 _ T9.heap _
  have fx11 := (fx7.wr W9)
  have fx12 := (fx6.other W9 (Or.inr (slot_ne (Or.inr (hw _ (List.mem_of_getElem? (i := 16) rfl))) (Or.inr (hw _ (List.mem_of_getElem? (i := 18) rfl))) (by decide) (t := .long) (t' := .long) (by decide) (by decide))))
  rw [e9]
  exact ⟨rfl, N9, K9, fx11, fx12, fx10⟩
theorem d4_0 : decode prog_19_method_5_code 0 = .ok (.aload_n 0, 1) := by decide +kernel
theorem d4_1 : decode prog_19_method_5_code 1 = .ok (.getfield 7, 3) := by decide +kernel
theorem d4_4 : decode prog_19_method_5_code 4 = .ok (.lload_n 1, 1) := by decide +kernel
theorem d4_5 : decode prog_19_method_5_code 5 = .ok (.ldc2_w 47, 3) := by decide +kernel
theorem d4_8 : decode prog_19_method_5_code 8 = .ok (.lmul, 1) := by decide +kernel
theorem d4_9 : decode prog_19_method_5_code 9 = .ok (.aload_n 0, 1) := by decide +kernel
theorem d4_10 : decode prog_19_method_5_code 10 = .ok (.getfield 13, 3) := by decide +kernel
theorem d4_13 : decode prog_19_method_5_code 13 = .ok (.lsub, 1) := by decide +kernel
theorem d4_14 : decode prog_19_method_5_code 14 = .ok (.ladd, 1) := by decide +kernel
theorem d4_15 : decode prog_19_method_5_code 15 = .ok (.lreturn, 1) := by decide +kernel
def Q_rm4 (Z : State) (a1 : Addr) (q2 : Int64) (w3 : Int64) (w5 : Int64) (h0 : Heap) (n0 : Nat) (v : Option Value) (h : Heap) (L : List Loc) : Prop := v = some (.long (w3 + ((q2 * (1000000 : Int64)) - w5))) ∧ Fr n0 L ∧ h = h0
theorem ef_rm4 (m : MethodId) (x0 : Addr) (x1 : Int64) : entryFrame m #[(.ref x0), (.long x1)] 3 = mkF m 0 #[.val (.ref x0), .val (.long x1), .second] [] := by first | (simp [entryFrame, mkF, argsToLocals, Value.category]; done) | rfl
set_option maxRecDepth 65536 in
set_option maxHeartbeats 40000000 in
theorem rm4 (l : Launch) (Z : State) (a0 : Array Value) (hw : ∀ d ∈ tables_1, d.before a0 Z = true) (ws : List Jvm.Cond) (a1 : Addr) (q2 : Int64) (w3 : Int64) (w5 : Int64) (h0 : Heap) (n0 : Nat) (Z0 : n0 ≤ h0.size) (F_monotonicNanos_a1 : Fld Z h0 a1 "com/example/hyra/hyra/Instants" "monotonicNanos" "J" (.long w3)) (F_wallNanos_a1 : Fld Z h0 a1 "com/example/hyra/hyra/Instants" "wallNanos" "J" (.long w5)) :
    MetFree l (⟨"com/example/hyra/hyra/Instants", "nanosAt", "(J)J"⟩ : MethodName) (head1 (Jvm.Cond.code (⟨"com/example/hyra/hyra/Instants", "nanosAt", "(J)J"⟩ : MethodName) prog_19_method_5_code 3 (some .long) :: ws) ({ frames := 0, cells := 0, slots := 0, locals := 0 } : Room)) (fun a U => a = #[(.ref a1), (.long q2)] ∧ Z.Warmed39 U.vm ∧ U.heap = h0) (fun _ _ _ _ _ => True) (fun _ U o U' => ∃ v L, o = .returned v ∧ Q_rm4 Z a1 q2 w3 w5 h0 n0 v U'.heap L ∧ FrameEnd U o U' L ({ frames := 0, cells := 0, slots := 0, locals := 0 } : Room).cells ({ frames := 0, cells := 0, slots := 0, locals := 0 } : Room).slots) := by
  refine MetFree.of_bodySF (plainFor_of_name pn_1) hisR ?_
  intro p e s m args below meth c s₁ Bd hml0 hP hK
  obtain ⟨rfl, hZ, hh⟩ := hP
  have hx := Bd.exec
  have hby := Bd.bytes
  have hml : c.maxLocals = 3 := hml0
  have hown : s.vm.findClass "com/example/hyra/hyra/Instants" = some m.cls := findClass_of_methodNamed Bd.named
  have hnm := (name_of_methodNamed Bd.named Bd.method).1
  have X0 : Stand p l e ({ frames := 0, cells := 0, slots := 0, locals := 0 } : Room) s m #[(.ref a1), (.long q2)] below meth c s₁ [] 0 0 := Stand.of_body Bd
  have e0 : s₁.heap = h0 := by rw [← hh, Bd.state]; rfl
  have N0 := Fr.nil n0
  show Run p e below s 0 0 (Q_rm4 Z a1 q2 w3 w5 h0 n0) (s₁.setTop (entryFrame m #[(.ref a1), (.long q2)] 3))
  refine Run.go (fun _ k => castTop (ef_rm4 m a1 q2) k) ?_
  show Run p e below s 0 0 (Q_rm4 Z a1 q2 w3 w5 h0 n0) (s₁.setTop (mkF m 0 #[.val (.ref a1), .val (.long q2), .second] []))
  refine Run.go (fun _ k => XS.aloadN X0.here hx rfl (hb hby d4_0) rfl rfl k) ?_
  show Run p e below s 0 0 (Q_rm4 Z a1 q2 w3 w5 h0 n0) (s₁.setTop (mkF m 1 #[.val (.ref a1), .val (.long q2), .second] [(.ref a1)]))
  obtain ⟨T4, X4, e4, st4⟩ := getF X0 hx hZ hown (host := "") (Or.inl (hw _ (List.mem_of_getElem? (i := 15) rfl))) Via.refl e0 F_monotonicNanos_a1 (g := (mkF m 1 #[.val (.ref a1), .val (.long q2), .second] [(.ref a1)])) rfl rfl (hb hby d4_1)
  refine Run.go st4 ?_
  show Run p e below s 0 0 (Q_rm4 Z a1 q2 w3 w5 h0 n0) (T4.setTop (mkF m 4 #[.val (.ref a1), .val (.long q2), .second] [(.long w3)]))
  refine Run.go (fun _ k => XS.lloadN X4.here hx rfl (hb hby d4_4) rfl  k) ?_
  show Run p e below s 0 0 (Q_rm4 Z a1 q2 w3 w5 h0 n0) (T4.setTop (mkF m 5 #[.val (.ref a1), .val (.long q2), .second] [(.long q2), (.long w3)]))
  refine Run.go (fun _ k => X4.ldc2Long hx hown (mvT hZ (hw _ (List.mem_of_getElem? (i := 24) rfl))) (g := (mkF m 5 #[.val (.ref a1), .val (.long q2), .second] [(.long q2), (.long w3)])) rfl (hb hby d4_5) _ k) ?_
  show Run p e below s 0 0 (Q_rm4 Z a1 q2 w3 w5 h0 n0) (T4.setTop (mkF m 8 #[.val (.ref a1), .val (.long q2), .second] [(.long (1000000 : Int64)), (.long q2), (.long w3)]))
  refine Run.go (fun _ k => XS.lmul X4.here hx rfl (hb hby d4_8) rfl k) ?_
  show Run p e below s 0 0 (Q_rm4 Z a1 q2 w3 w5 h0 n0) (T4.setTop (mkF m 9 #[.val (.ref a1), .val (.long q2), .second] [(.long (q2 * (1000000 : Int64))), (.long w3)]))
  refine Run.go (fun _ k => XS.aloadN X4.here hx rfl (hb hby d4_9) rfl rfl k) ?_
  show Run p e below s 0 0 (Q_rm4 Z a1 q2 w3 w5 h0 n0) (T4.setTop (mkF m 10 #[.val (.ref a1), .val (.long q2), .second] [(.ref a1), (.long (q2 * (1000000 : Int64))), (.long w3)]))
  obtain ⟨T6, X6, e6, st6⟩ := getF X4 hx hZ hown (host := "") (Or.inl (hw _ (List.mem_of_getElem? (i := 17) rfl))) Via.refl e4 F_wallNanos_a1 (g := (mkF m 10 #[.val (.ref a1), .val (.long q2), .second] [(.ref a1), (.long (q2 * (1000000 : Int64))), (.long w3)])) rfl rfl (hb hby d4_10)
  refine Run.go st6 ?_
  show Run p e below s 0 0 (Q_rm4 Z a1 q2 w3 w5 h0 n0) (T6.setTop (mkF m 13 #[.val (.ref a1), .val (.long q2), .second] [(.long w5), (.long (q2 * (1000000 : Int64))), (.long w3)]))
  refine Run.go (fun _ k => XS.lsub X6.here hx rfl (hb hby d4_13) rfl k) ?_
  show Run p e below s 0 0 (Q_rm4 Z a1 q2 w3 w5 h0 n0) (T6.setTop (mkF m 14 #[.val (.ref a1), .val (.long q2), .second] [(.long ((q2 * (1000000 : Int64)) - w5)), (.long w3)]))
  refine Run.go (fun _ k => XS.ladd X6.here hx rfl (hb hby d4_14) rfl k) ?_
  show Run p e below s 0 0 (Q_rm4 Z a1 q2 w3 w5 h0 n0) (T6.setTop (mkF m 15 #[.val (.ref a1), .val (.long q2), .second] [(.long (w3 + ((q2 * (1000000 : Int64)) - w5)))]))
  refine Run.retJ X6 hx Bd.returns Bd.notSynchronized (hb hby d4_15) (by decide) (by decide) ?_
  show Q_rm4 Z a1 q2 w3 w5 h0 n0 _ T6.heap _
  exact ⟨rfl, N0, e6⟩
theorem own_ring (a b c d e f g : Int) (M : Int) : True := trivial
theorem own_bv (x y : Int64) (h : (x.toInt - y.toInt) % 18446744073709551616 = 0) : x = y := by
  apply Int64.toInt_inj.mp
  have := rng64 x
  have := rng64 y
  omega
theorem own_1 (mo w : Int64) (r : Int64) : mo + (w * (1000000 : Int64) - (w * (1000000 : Int64) + r)) = mo - r := by
  apply own_bv
  have h1 := c_ladd mo (w * (1000000 : Int64) - (w * (1000000 : Int64) + r))
  have h2 := c_lsub (w * (1000000 : Int64)) (w * (1000000 : Int64) + r)
  have h3 := c_ladd (w * (1000000 : Int64)) r
  have h4 := c_lsub mo r
  omega
theorem own_2 (mo w d : Int64) (r : Int64) : mo + ((w + d) * (1000000 : Int64) - (w * (1000000 : Int64) + r)) = mo - r + d * (1000000 : Int64) := by
  rw [Int64.add_mul]
  apply own_bv
  have h1 := c_ladd mo ((w * (1000000 : Int64) + d * (1000000 : Int64)) - (w * (1000000 : Int64) + r))
  have h2 := c_lsub (w * (1000000 : Int64) + d * (1000000 : Int64)) (w * (1000000 : Int64) + r)
  have h3 := c_ladd (w * (1000000 : Int64)) r
  have h4 := c_lsub mo r
  have h5 := c_ladd (w * (1000000 : Int64)) (d * (1000000 : Int64))
  have h6 := c_ladd (mo - r) (d * (1000000 : Int64))
  omega
theorem own_3 (mo u k x : Int64) : (mo + k) + (u - (x + k)) = mo + (u - x) := by
  apply own_bv
  have h1 := c_ladd (mo + k) (u - (x + k))
  have h2 := c_ladd mo k
  have h3 := c_lsub u (x + k)
  have h4 := c_ladd x k
  have h5 := c_ladd mo (u - x)
  have h6 := c_lsub u x
  omega
theorem pd_1 : parseMethodDescriptor "(JJ)V" = some ⟨[.long, .long], none⟩ := by decide +kernel
theorem pd_2 : parseMethodDescriptor "(J)J" = some ⟨[.long], some .long⟩ := by decide +kernel
def Q_rm0 (Z : State) (q1 : Int64) (q2 : Int64) (q3 : Int64) (q4 : Int64) (p5 : Int32) (h0 : Heap) (n0 : Nat) (v : Option Value) (h : Heap) (L : List Loc) : Prop := v = some (.int 1) ∧ Fr n0 L
theorem ef_rm0 (m : MethodId) (x0 : Int64) (x1 : Int64) (x2 : Int64) (x3 : Int64) (x4 : Int32) : entryFrame m #[(.long x0), (.long x1), (.long x2), (.long x3), (.int x4)] maxLocals = mkF m 0 #[.val (.long x0), .second, .val (.long x1), .second, .val (.long x2), .second, .val (.long x3), .second, .val (.int x4), .unset, .unset, .unset, .unset, .unset, .unset, .unset, .unset, .unset, .unset] [] := by first | (simp [entryFrame, mkF, argsToLocals, Value.category, maxLocals]; done) | rfl
theorem pn_2 : plainName "com/example/hyra/hyra/InstantsNanosAtPinLaw" = true := by first | (simp [plainName, overriddenIn]; done) | decide +kernel
set_option maxRecDepth 65536 in
set_option maxHeartbeats 40000000 in
theorem rm0 (l : Launch) (Z : State) (a0 : Array Value) (hw : ∀ d ∈ tables_1, d.before a0 Z = true) (ws : List Jvm.Cond) (q1 : Int64) (q2 : Int64) (q3 : Int64) (q4 : Int64) (p5 : Int32) (h0 : Heap) (n0 : Nat) (Z0 : n0 ≤ h0.size)  :
    MetFree l x (head1 (Jvm.Cond.code x code maxLocals ret :: ws) room_1) (fun a U => a = #[(.long q1), (.long q2), (.long q3), (.long q4), (.int p5)] ∧ Z.Warmed39 U.vm ∧ U.heap = h0) (fun _ _ _ _ _ => True) (fun _ U o U' => ∃ v L, o = .returned v ∧ Q_rm0 Z q1 q2 q3 q4 p5 h0 n0 v U'.heap L ∧ FrameEnd U o U' L 2 4) := by
  refine MetFree.of_bodySF (plainFor_of_name pn_2) hisR ?_
  intro p e s m args below meth c s₁ Bd hml0 hP hK
  obtain ⟨rfl, hZ, hh⟩ := hP
  have hx := Bd.exec
  have hby := Bd.bytes
  have hml : c.maxLocals = 19 := hml0
  have hown : s.vm.findClass "com/example/hyra/hyra/InstantsNanosAtPinLaw" = some m.cls := findClass_of_methodNamed Bd.named
  have hnm := (name_of_methodNamed Bd.named Bd.method).1
  have X0 : Stand p l e room_1 s m #[(.long q1), (.long q2), (.long q3), (.long q4), (.int p5)] below meth c s₁ [] 0 0 := Stand.of_body Bd
  have e0 : s₁.heap = h0 := by rw [← hh, Bd.state]; rfl
  have N0 := Fr.nil n0
  show Run p e below s 2 4 (Q_rm0 Z q1 q2 q3 q4 p5 h0 n0) (s₁.setTop (entryFrame m #[(.long q1), (.long q2), (.long q3), (.long q4), (.int p5)] maxLocals))
  refine Run.go (fun _ k => castTop (ef_rm0 m q1 q2 q3 q4 p5) k) ?_
  show Run p e below s 2 4 (Q_rm0 Z q1 q2 q3 q4 p5 h0 n0) (s₁.setTop (mkF m 0 #[.val (.long q1), .second, .val (.long q2), .second, .val (.long q3), .second, .val (.long q4), .second, .val (.int p5), .unset, .unset, .unset, .unset, .unset, .unset, .unset, .unset, .unset, .unset] []))
  refine Run.go (fun _ k => XS.lloadN X0.here hx rfl (hb hby at_0) rfl  k) ?_
  show Run p e below s 2 4 (Q_rm0 Z q1 q2 q3 q4 p5 h0 n0) (s₁.setTop (mkF m 1 #[.val (.long q1), .second, .val (.long q2), .second, .val (.long q3), .second, .val (.long q4), .second, .val (.int p5), .unset, .unset, .unset, .unset, .unset, .unset, .unset, .unset, .unset, .unset] [(.long q2)]))
  refine Run.go (fun _ k => X0.ldc2Long hx hown (mvT hZ (hw _ (List.mem_of_getElem? (i := 0) rfl))) (g := (mkF m 1 #[.val (.long q1), .second, .val (.long q2), .second, .val (.long q3), .second, .val (.long q4), .second, .val (.int p5), .unset, .unset, .unset, .unset, .unset, .unset, .unset, .unset, .unset, .unset] [(.long q2)])) rfl (hb hby at_1) _ k) ?_
  show Run p e below s 2 4 (Q_rm0 Z q1 q2 q3 q4 p5 h0 n0) (s₁.setTop (mkF m 4 #[.val (.long q1), .second, .val (.long q2), .second, .val (.long q3), .second, .val (.long q4), .second, .val (.int p5), .unset, .unset, .unset, .unset, .unset, .unset, .unset, .unset, .unset, .unset] [(.long (1000000 : Int64)), (.long q2)]))
  refine Run.go (fun _ k => XS.lmul X0.here hx rfl (hb hby at_4) rfl k) ?_
  show Run p e below s 2 4 (Q_rm0 Z q1 q2 q3 q4 p5 h0 n0) (s₁.setTop (mkF m 5 #[.val (.long q1), .second, .val (.long q2), .second, .val (.long q3), .second, .val (.long q4), .second, .val (.int p5), .unset, .unset, .unset, .unset, .unset, .unset, .unset, .unset, .unset, .unset] [(.long (q2 * (1000000 : Int64)))]))
  refine Run.go (fun _ k => XS.iload X0.here hx rfl (hb hby at_5) rfl  k) ?_
  show Run p e below s 2 4 (Q_rm0 Z q1 q2 q3 q4 p5 h0 n0) (s₁.setTop (mkF m 7 #[.val (.long q1), .second, .val (.long q2), .second, .val (.long q3), .second, .val (.long q4), .second, .val (.int p5), .unset, .unset, .unset, .unset, .unset, .unset, .unset, .unset, .unset, .unset] [(.int p5), (.long (q2 * (1000000 : Int64)))]))
  refine Run.go (fun _ k => XS.i2l X0.here hx rfl (hb hby at_7) rfl k) ?_
  show Run p e below s 2 4 (Q_rm0 Z q1 q2 q3 q4 p5 h0 n0) (s₁.setTop (mkF m 8 #[.val (.long q1), .second, .val (.long q2), .second, .val (.long q3), .second, .val (.long q4), .second, .val (.int p5), .unset, .unset, .unset, .unset, .unset, .unset, .unset, .unset, .unset, .unset] [(.long (p5.toInt64)), (.long (q2 * (1000000 : Int64)))]))
  refine Run.go (fun _ k => XS.ladd X0.here hx rfl (hb hby at_8) rfl k) ?_
  show Run p e below s 2 4 (Q_rm0 Z q1 q2 q3 q4 p5 h0 n0) (s₁.setTop (mkF m 9 #[.val (.long q1), .second, .val (.long q2), .second, .val (.long q3), .second, .val (.long q4), .second, .val (.int p5), .unset, .unset, .unset, .unset, .unset, .unset, .unset, .unset, .unset, .unset] [(.long ((q2 * (1000000 : Int64)) + (p5.toInt64)))]))
  refine Run.go (fun _ k => XS.lstore X0.here hx rfl (hb hby at_9) rfl (l' := #[.val (.long q1), .second, .val (.long q2), .second, .val (.long q3), .second, .val (.long q4), .second, .val (.int p5), .val (.long ((q2 * (1000000 : Int64)) + (p5.toInt64))), .second, .unset, .unset, .unset, .unset, .unset, .unset, .unset, .unset]) rfl k) ?_
  show Run p e below s 2 4 (Q_rm0 Z q1 q2 q3 q4 p5 h0 n0) (s₁.setTop (mkF m 11 #[.val (.long q1), .second, .val (.long q2), .second, .val (.long q3), .second, .val (.long q4), .second, .val (.int p5), .val (.long ((q2 * (1000000 : Int64)) + (p5.toInt64))), .second, .unset, .unset, .unset, .unset, .unset, .unset, .unset, .unset] []))
  obtain ⟨T6, h6, X6, e6, E6, A6, D6, -, st6⟩ := newO X0 hx hZ hown (hw _ (List.mem_of_getElem? (i := 1) rfl)) (hw _ (List.mem_of_getElem? (i := 2) rfl)) (hw _ (List.mem_of_getElem? (i := 3) rfl)) e0 (g := (mkF m 11 #[.val (.long q1), .second, .val (.long q2), .second, .val (.long q3), .second, .val (.long q4), .second, .val (.int p5), .val (.long ((q2 * (1000000 : Int64)) + (p5.toInt64))), .second, .unset, .unset, .unset, .unset, .unset, .unset, .unset, .unset] [])) rfl (hb hby at_11) (by decide) (by decide)
  obtain ⟨b6, g6⟩ : ∃ z, z = h0.size := ⟨_, rfl⟩
  rw [← g6] at A6 D6 st6
  have g_b6 : n0 ≤ b6 := Nat.le_trans Z0 (Nat.le_of_eq g6.symm)
  have Z6 : n0 ≤ h6.size := Nat.le_trans Z0 E6.1
  have fx7 : Fld Z h6 b6 "com/example/hyra/hyra/Instants" "monotonicNanos" "J" (.long (0 : Int64)) := D6 (Or.inr (hw _ (List.mem_of_getElem? (i := 16) rfl))) (ty := .long) (by decide)
  have fx8 : Fld Z h6 b6 "com/example/hyra/hyra/Instants" "wallNanos" "J" (.long (0 : Int64)) := D6 (Or.inr (hw _ (List.mem_of_getElem? (i := 18) rfl))) (ty := .long) (by decide)
  refine Run.go st6 ?_
  show Run p e below s 2 4 (Q_rm0 Z q1 q2 q3 q4 p5 h0 n0) (T6.setTop (mkF m 14 #[.val (.long q1), .second, .val (.long q2), .second, .val (.long q3), .second, .val (.long q4), .second, .val (.int p5), .val (.long ((q2 * (1000000 : Int64)) + (p5.toInt64))), .second, .unset, .unset, .unset, .unset, .unset, .unset, .unset, .unset] [(.ref b6)]))
  refine Run.go (fun _ k => XS.dup X6.here hx rfl (hb hby at_14) rfl rfl k) ?_
  show Run p e below s 2 4 (Q_rm0 Z q1 q2 q3 q4 p5 h0 n0) (T6.setTop (mkF m 15 #[.val (.long q1), .second, .val (.long q2), .second, .val (.long q3), .second, .val (.long q4), .second, .val (.int p5), .val (.long ((q2 * (1000000 : Int64)) + (p5.toInt64))), .second, .unset, .unset, .unset, .unset, .unset, .unset, .unset, .unset] [(.ref b6), (.ref b6)]))
  refine Run.go (fun _ k => XS.lloadN X6.here hx rfl (hb hby at_15) rfl  k) ?_
  show Run p e below s 2 4 (Q_rm0 Z q1 q2 q3 q4 p5 h0 n0) (T6.setTop (mkF m 16 #[.val (.long q1), .second, .val (.long q2), .second, .val (.long q3), .second, .val (.long q4), .second, .val (.int p5), .val (.long ((q2 * (1000000 : Int64)) + (p5.toInt64))), .second, .unset, .unset, .unset, .unset, .unset, .unset, .unset, .unset] [(.long q1), (.ref b6), (.ref b6)]))
  refine Run.go (fun _ k => XS.lload X6.here hx rfl (hb hby at_16) rfl  k) ?_
  show Run p e below s 2 4 (Q_rm0 Z q1 q2 q3 q4 p5 h0 n0) (T6.setTop (mkF m 18 #[.val (.long q1), .second, .val (.long q2), .second, .val (.long q3), .second, .val (.long q4), .second, .val (.int p5), .val (.long ((q2 * (1000000 : Int64)) + (p5.toInt64))), .second, .unset, .unset, .unset, .unset, .unset, .unset, .unset, .unset] [(.long ((q2 * (1000000 : Int64)) + (p5.toInt64))), (.long q1), (.ref b6), (.ref b6)]))
  obtain ⟨_, _, ⟨T9, L9, k9, n9⟩, -, X9, ⟨Lc9, hQ9, l9, y9, z9⟩, st9⟩ := X6.specialBack hx (y := (⟨"com/example/hyra/hyra/Instants", "<init>", "(JJ)V"⟩ : MethodName)) rfl hown (mvT hZ (hw _ (List.mem_of_getElem? (i := 4) rfl))) (mvT hZ (hw _ (List.mem_of_getElem? (i := 5) rfl))) (mvT hZ (hw _ (List.mem_of_getElem? (i := 6) rfl))) (by decide) (backOf (W := 1) (rm1 l Z a0 hw [] b6 q1 ((q2 * (1000000 : Int64)) + (p5.toInt64)) (.long (0 : Int64)) (.long (0 : Int64)) h6 n0 Z6 A6 fx7 g_b6 fx8) hZ (hw _ (List.mem_of_getElem? (i := 6) rfl)) (hw _ (List.mem_of_getElem? (i := 3) rfl)) (by decide) (by decide)) (g := (mkF m 18 #[.val (.long q1), .second, .val (.long q2), .second, .val (.long q3), .second, .val (.long q4), .second, .val (.int p5), .val (.long ((q2 * (1000000 : Int64)) + (p5.toInt64))), .second, .unset, .unset, .unset, .unset, .unset, .unset, .unset, .unset] [(.long ((q2 * (1000000 : Int64)) + (p5.toInt64))), (.long q1), (.ref b6), (.ref b6)])) rfl (by rw [hml]; rfl) (Steps.refl _) (a := b6) (argsL := [(.long q1), (.long ((q2 * (1000000 : Int64)) + (p5.toInt64)))]) (rest := [(.ref b6)]) (lenOf pd_1 rfl) rfl (by show 2 * 0 + _ ≤ _; exact Nat.le_of_eq rfl) (hb hby at_18) (fun _ _ => ⟨rfl, e6, (by decide : 1 + 0 ≤ _), (by decide : 2 + 0 ≤ _)⟩)
  dsimp only [Pt.U, Pt.locs, Pt.cells, Pt.slots] at X9 l9 y9 z9 st9 hQ9
  subst l9 y9 z9
  obtain ⟨rfl, N9q, K9q, fq9_0, fq9_1, fq9_2⟩ := hQ9
  have N9 := Fr.app N0 N9q
  have Z9 : n0 ≤ T9.heap.size := Nat.le_trans Z6 K9q.1
  refine Run.tr st9 ?_
  show Run p e below s 2 4 (Q_rm0 Z q1 q2 q3 q4 p5 h0 n0) (T9.setTop (mkF m 21 #[.val (.long q1), .second, .val (.long q2), .second, .val (.long q3), .second, .val (.long q4), .second, .val (.int p5), .val (.long ((q2 * (1000000 : Int64)) + (p5.toInt64))), .second, .unset, .unset, .unset, .unset, .unset, .unset, .unset, .unset] [(.ref b6)]))
  refine Run.go (fun _ k => XS.astore X9.here hx rfl (hb hby at_21) rfl rfl (l' := #[.val (.long q1), .second, .val (.long q2), .second, .val (.long q3), .second, .val (.long q4), .second, .val (.int p5), .val (.long ((q2 * (1000000 : Int64)) + (p5.toInt64))), .second, .val (.ref b6), .unset, .unset, .unset, .unset, .unset, .unset, .unset]) rfl k) ?_
  show Run p e below s 2 4 (Q_rm0 Z q1 q2 q3 q4 p5 h0 n0) (T9.setTop (mkF m 23 #[.val (.long q1), .second, .val (.long q2), .second, .val (.long q3), .second, .val (.long q4), .second, .val (.int p5), .val (.long ((q2 * (1000000 : Int64)) + (p5.toInt64))), .second, .val (.ref b6), .unset, .unset, .unset, .unset, .unset, .unset, .unset] []))
  obtain ⟨T10, h10, X10, e10, E10, A10, D10, -, st10⟩ := newO X9 hx hZ hown (hw _ (List.mem_of_getElem? (i := 1) rfl)) (hw _ (List.mem_of_getElem? (i := 2) rfl)) (hw _ (List.mem_of_getElem? (i := 3) rfl)) rfl (g := (mkF m 23 #[.val (.long q1), .second, .val (.long q2), .second, .val (.long q3), .second, .val (.long q4), .second, .val (.int p5), .val (.long ((q2 * (1000000 : Int64)) + (p5.toInt64))), .second, .val (.ref b6), .unset, .unset, .unset, .unset, .unset, .unset, .unset] [])) rfl (hb hby at_23) (by decide) (by decide)
  obtain ⟨b10, g10⟩ : ∃ z, z = T9.heap.size := ⟨_, rfl⟩
  rw [← g10] at A10 D10 st10
  have g_b10 : n0 ≤ b10 := Nat.le_trans Z9 (Nat.le_of_eq g10.symm)
  have Z10 : n0 ≤ h10.size := Nat.le_trans Z9 E10.1
  have ne_b6_b10 : b6 ≠ b10 := Nat.ne_of_lt (Nat.lt_of_lt_of_le fq9_0.lt (Nat.le_of_eq g10.symm))
  have fx11 : Fld Z h10 b10 "com/example/hyra/hyra/Instants" "monotonicNanos" "J" (.long (0 : Int64)) := D10 (Or.inr (hw _ (List.mem_of_getElem? (i := 16) rfl))) (ty := .long) (by decide)
  have fx12 : Fld Z h10 b10 "com/example/hyra/hyra/Instants" "wallNanos" "J" (.long (0 : Int64)) := D10 (Or.inr (hw _ (List.mem_of_getElem? (i := 18) rfl))) (ty := .long) (by decide)
  refine Run.go st10 ?_
  show Run p e below s 2 4 (Q_rm0 Z q1 q2 q3 q4 p5 h0 n0) (T10.setTop (mkF m 26 #[.val (.long q1), .second, .val (.long q2), .second, .val (.long q3), .second, .val (.long q4), .second, .val (.int p5), .val (.long ((q2 * (1000000 : Int64)) + (p5.toInt64))), .second, .val (.ref b6), .unset, .unset, .unset, .unset, .unset, .unset, .unset] [(.ref b10)]))
  refine Run.go (fun _ k => XS.dup X10.here hx rfl (hb hby at_26) rfl rfl k) ?_
  show Run p e below s 2 4 (Q_rm0 Z q1 q2 q3 q4 p5 h0 n0) (T10.setTop (mkF m 27 #[.val (.long q1), .second, .val (.long q2), .second, .val (.long q3), .second, .val (.long q4), .second, .val (.int p5), .val (.long ((q2 * (1000000 : Int64)) + (p5.toInt64))), .second, .val (.ref b6), .unset, .unset, .unset, .unset, .unset, .unset, .unset] [(.ref b10), (.ref b10)]))
  refine Run.go (fun _ k => XS.lloadN X10.here hx rfl (hb hby at_27) rfl  k) ?_
  show Run p e below s 2 4 (Q_rm0 Z q1 q2 q3 q4 p5 h0 n0) (T10.setTop (mkF m 28 #[.val (.long q1), .second, .val (.long q2), .second, .val (.long q3), .second, .val (.long q4), .second, .val (.int p5), .val (.long ((q2 * (1000000 : Int64)) + (p5.toInt64))), .second, .val (.ref b6), .unset, .unset, .unset, .unset, .unset, .unset, .unset] [(.long q1), (.ref b10), (.ref b10)]))
  refine Run.go (fun _ k => XS.lload X10.here hx rfl (hb hby at_28) rfl  k) ?_
  show Run p e below s 2 4 (Q_rm0 Z q1 q2 q3 q4 p5 h0 n0) (T10.setTop (mkF m 30 #[.val (.long q1), .second, .val (.long q2), .second, .val (.long q3), .second, .val (.long q4), .second, .val (.int p5), .val (.long ((q2 * (1000000 : Int64)) + (p5.toInt64))), .second, .val (.ref b6), .unset, .unset, .unset, .unset, .unset, .unset, .unset] [(.long q4), (.long q1), (.ref b10), (.ref b10)]))
  refine Run.go (fun _ k => XS.ladd X10.here hx rfl (hb hby at_30) rfl k) ?_
  show Run p e below s 2 4 (Q_rm0 Z q1 q2 q3 q4 p5 h0 n0) (T10.setTop (mkF m 31 #[.val (.long q1), .second, .val (.long q2), .second, .val (.long q3), .second, .val (.long q4), .second, .val (.int p5), .val (.long ((q2 * (1000000 : Int64)) + (p5.toInt64))), .second, .val (.ref b6), .unset, .unset, .unset, .unset, .unset, .unset, .unset] [(.long (q1 + q4)), (.ref b10), (.ref b10)]))
  refine Run.go (fun _ k => XS.lload X10.here hx rfl (hb hby at_31) rfl  k) ?_
  show Run p e below s 2 4 (Q_rm0 Z q1 q2 q3 q4 p5 h0 n0) (T10.setTop (mkF m 33 #[.val (.long q1), .second, .val (.long q2), .second, .val (.long q3), .second, .val (.long q4), .second, .val (.int p5), .val (.long ((q2 * (1000000 : Int64)) + (p5.toInt64))), .second, .val (.ref b6), .unset, .unset, .unset, .unset, .unset, .unset, .unset] [(.long ((q2 * (1000000 : Int64)) + (p5.toInt64))), (.long (q1 + q4)), (.ref b10), (.ref b10)]))
  refine Run.go (fun _ k => XS.lload X10.here hx rfl (hb hby at_33) rfl  k) ?_
  show Run p e below s 2 4 (Q_rm0 Z q1 q2 q3 q4 p5 h0 n0) (T10.setTop (mkF m 35 #[.val (.long q1), .second, .val (.long q2), .second, .val (.long q3), .second, .val (.long q4), .second, .val (.int p5), .val (.long ((q2 * (1000000 : Int64)) + (p5.toInt64))), .second, .val (.ref b6), .unset, .unset, .unset, .unset, .unset, .unset, .unset] [(.long q4), (.long ((q2 * (1000000 : Int64)) + (p5.toInt64))), (.long (q1 + q4)), (.ref b10), (.ref b10)]))
  refine Run.go (fun _ k => XS.ladd X10.here hx rfl (hb hby at_35) rfl k) ?_
  show Run p e below s 2 4 (Q_rm0 Z q1 q2 q3 q4 p5 h0 n0) (T10.setTop (mkF m 36 #[.val (.long q1), .second, .val (.long q2), .second, .val (.long q3), .second, .val (.long q4), .second, .val (.int p5), .val (.long ((q2 * (1000000 : Int64)) + (p5.toInt64))), .second, .val (.ref b6), .unset, .unset, .unset, .unset, .unset, .unset, .unset] [(.long (((q2 * (1000000 : Int64)) + (p5.toInt64)) + q4)), (.long (q1 + q4)), (.ref b10), (.ref b10)]))
  obtain ⟨_, _, ⟨T13, L13, k13, n13⟩, -, X13, ⟨Lc13, hQ13, l13, y13, z13⟩, st13⟩ := X10.specialBack hx (y := (⟨"com/example/hyra/hyra/Instants", "<init>", "(JJ)V"⟩ : MethodName)) rfl hown (mvT hZ (hw _ (List.mem_of_getElem? (i := 4) rfl))) (mvT hZ (hw _ (List.mem_of_getElem? (i := 5) rfl))) (mvT hZ (hw _ (List.mem_of_getElem? (i := 6) rfl))) (by decide) (backOf (W := 1) (rm1 l Z a0 hw [] b10 (q1 + q4) (((q2 * (1000000 : Int64)) + (p5.toInt64)) + q4) (.long (0 : Int64)) (.long (0 : Int64)) h10 n0 Z10 A10 fx11 g_b10 fx12) hZ (hw _ (List.mem_of_getElem? (i := 6) rfl)) (hw _ (List.mem_of_getElem? (i := 3) rfl)) (by decide) (by decide)) (g := (mkF m 36 #[.val (.long q1), .second, .val (.long q2), .second, .val (.long q3), .second, .val (.long q4), .second, .val (.int p5), .val (.long ((q2 * (1000000 : Int64)) + (p5.toInt64))), .second, .val (.ref b6), .unset, .unset, .unset, .unset, .unset, .unset, .unset] [(.long (((q2 * (1000000 : Int64)) + (p5.toInt64)) + q4)), (.long (q1 + q4)), (.ref b10), (.ref b10)])) rfl (by rw [hml]; rfl) (Steps.refl _) (a := b10) (argsL := [(.long (q1 + q4)), (.long (((q2 * (1000000 : Int64)) + (p5.toInt64)) + q4))]) (rest := [(.ref b10)]) (lenOf pd_1 rfl) rfl (by show 2 * 0 + _ ≤ _; exact Nat.le_of_eq rfl) (hb hby at_36) (fun _ _ => ⟨rfl, e10, (by decide : 2 + 0 ≤ _), (by decide : 4 + 0 ≤ _)⟩)
  dsimp only [Pt.U, Pt.locs, Pt.cells, Pt.slots] at X13 l13 y13 z13 st13 hQ13
  subst l13 y13 z13
  obtain ⟨rfl, N13q, K13q, fq13_0, fq13_1, fq13_2⟩ := hQ13
  have N13 := Fr.app N9 N13q
  have Z13 : n0 ≤ T13.heap.size := Nat.le_trans Z10 K13q.1
  refine Run.tr st13 ?_
  show Run p e below s 2 4 (Q_rm0 Z q1 q2 q3 q4 p5 h0 n0) (T13.setTop (mkF m 39 #[.val (.long q1), .second, .val (.long q2), .second, .val (.long q3), .second, .val (.long q4), .second, .val (.int p5), .val (.long ((q2 * (1000000 : Int64)) + (p5.toInt64))), .second, .val (.ref b6), .unset, .unset, .unset, .unset, .unset, .unset, .unset] [(.ref b10)]))
  refine Run.go (fun _ k => XS.astore X13.here hx rfl (hb hby at_39) rfl rfl (l' := #[.val (.long q1), .second, .val (.long q2), .second, .val (.long q3), .second, .val (.long q4), .second, .val (.int p5), .val (.long ((q2 * (1000000 : Int64)) + (p5.toInt64))), .second, .val (.ref b6), .val (.ref b10), .unset, .unset, .unset, .unset, .unset, .unset]) rfl k) ?_
  show Run p e below s 2 4 (Q_rm0 Z q1 q2 q3 q4 p5 h0 n0) (T13.setTop (mkF m 41 #[.val (.long q1), .second, .val (.long q2), .second, .val (.long q3), .second, .val (.long q4), .second, .val (.int p5), .val (.long ((q2 * (1000000 : Int64)) + (p5.toInt64))), .second, .val (.ref b6), .val (.ref b10), .unset, .unset, .unset, .unset, .unset, .unset] []))
  refine Run.go (fun _ k => XS.aload X13.here hx rfl (hb hby at_41) rfl rfl k) ?_
  show Run p e below s 2 4 (Q_rm0 Z q1 q2 q3 q4 p5 h0 n0) (T13.setTop (mkF m 43 #[.val (.long q1), .second, .val (.long q2), .second, .val (.long q3), .second, .val (.long q4), .second, .val (.int p5), .val (.long ((q2 * (1000000 : Int64)) + (p5.toInt64))), .second, .val (.ref b6), .val (.ref b10), .unset, .unset, .unset, .unset, .unset, .unset] [(.ref b6)]))
  refine Run.go (fun _ k => XS.lloadN X13.here hx rfl (hb hby at_43) rfl  k) ?_
  show Run p e below s 2 4 (Q_rm0 Z q1 q2 q3 q4 p5 h0 n0) (T13.setTop (mkF m 44 #[.val (.long q1), .second, .val (.long q2), .second, .val (.long q3), .second, .val (.long q4), .second, .val (.int p5), .val (.long ((q2 * (1000000 : Int64)) + (p5.toInt64))), .second, .val (.ref b6), .val (.ref b10), .unset, .unset, .unset, .unset, .unset, .unset] [(.long q2), (.ref b6)]))
  have fx15 := ((fq9_1.ext E10).keep K13q (ninS ne_b6_b10 nin0))
  have fx16 := ((fq9_2.ext E10).keep K13q (ninS ne_b6_b10 nin0))
  have fx17 := ((fq9_0.ext E10).keep K13q)
  obtain ⟨cq14, kq14, q14a, q14b, q14c⟩ := isOf hZ rfl fx17
  obtain ⟨_, _, ⟨T14, L14, k14, n14⟩, -, X14, ⟨Lc14, hQ14, l14, y14, z14⟩, st14⟩ := X13.virtualBack hx (y := (⟨"com/example/hyra/hyra/Instants", "nanosAt", "(J)J"⟩ : MethodName)) (z := (⟨"com/example/hyra/hyra/Instants", "nanosAt", "(J)J"⟩ : MethodName)) hown (mvT hZ (hw _ (List.mem_of_getElem? (i := 19) rfl))) (mvT hZ (hw _ (List.mem_of_getElem? (i := 20) rfl))) (notFace_of_selects (args := #[]) (mvT hZ (hw _ (List.mem_of_getElem? (i := 22) rfl)))) (mvT hZ (hw _ (List.mem_of_getElem? (i := 22) rfl))) (mvT hZ (hw _ (List.mem_of_getElem? (i := 21) rfl))) (by decide) (backOf (W := 0) (rm4 l Z a0 hw [] b6 q2 q1 ((q2 * (1000000 : Int64)) + (p5.toInt64)) T13.heap n0 Z13 fx15 fx16) hZ (hw _ (List.mem_of_getElem? (i := 23) rfl)) (hw _ (List.mem_of_getElem? (i := 3) rfl)) (by decide) (by decide)) q14a q14c (g := (mkF m 44 #[.val (.long q1), .second, .val (.long q2), .second, .val (.long q3), .second, .val (.long q4), .second, .val (.int p5), .val (.long ((q2 * (1000000 : Int64)) + (p5.toInt64))), .second, .val (.ref b6), .val (.ref b10), .unset, .unset, .unset, .unset, .unset, .unset] [(.long q2), (.ref b6)])) rfl (by rw [hml]; rfl) (Steps.refl _) (argsL := [(.long q2)]) (rest := []) (lenOf pd_2 rfl) rfl (by show 2 * 0 + _ ≤ _; exact Nat.le_of_eq rfl) (hb hby at_44) (fun _ _ => ⟨rfl, rfl, (by decide : 2 + 0 ≤ _), (by decide : 4 + 0 ≤ _)⟩)
  dsimp only [Pt.U, Pt.locs, Pt.cells, Pt.slots] at X14 l14 y14 z14 st14 hQ14
  subst l14 y14 z14
  obtain ⟨rfl, N14q, e14q⟩ := hQ14
  have N14 := Fr.app N13 N14q
  refine Run.tr st14 ?_
  show Run p e below s 2 4 (Q_rm0 Z q1 q2 q3 q4 p5 h0 n0) (T14.setTop (mkF m 47 #[.val (.long q1), .second, .val (.long q2), .second, .val (.long q3), .second, .val (.long q4), .second, .val (.int p5), .val (.long ((q2 * (1000000 : Int64)) + (p5.toInt64))), .second, .val (.ref b6), .val (.ref b10), .unset, .unset, .unset, .unset, .unset, .unset] [(.long (q1 + ((q2 * (1000000 : Int64)) - ((q2 * (1000000 : Int64)) + (p5.toInt64)))))]))
  refine Run.go (fun _ k => XS.lstore X14.here hx rfl (hb hby at_47) rfl (l' := #[.val (.long q1), .second, .val (.long q2), .second, .val (.long q3), .second, .val (.long q4), .second, .val (.int p5), .val (.long ((q2 * (1000000 : Int64)) + (p5.toInt64))), .second, .val (.ref b6), .val (.ref b10), .val (.long (q1 + ((q2 * (1000000 : Int64)) - ((q2 * (1000000 : Int64)) + (p5.toInt64))))), .second, .unset, .unset, .unset, .unset]) rfl k) ?_
  show Run p e below s 2 4 (Q_rm0 Z q1 q2 q3 q4 p5 h0 n0) (T14.setTop (mkF m 49 #[.val (.long q1), .second, .val (.long q2), .second, .val (.long q3), .second, .val (.long q4), .second, .val (.int p5), .val (.long ((q2 * (1000000 : Int64)) + (p5.toInt64))), .second, .val (.ref b6), .val (.ref b10), .val (.long (q1 + ((q2 * (1000000 : Int64)) - ((q2 * (1000000 : Int64)) + (p5.toInt64))))), .second, .unset, .unset, .unset, .unset] []))
  refine Run.go (fun _ k => XS.aload X14.here hx rfl (hb hby at_49) rfl rfl k) ?_
  show Run p e below s 2 4 (Q_rm0 Z q1 q2 q3 q4 p5 h0 n0) (T14.setTop (mkF m 51 #[.val (.long q1), .second, .val (.long q2), .second, .val (.long q3), .second, .val (.long q4), .second, .val (.int p5), .val (.long ((q2 * (1000000 : Int64)) + (p5.toInt64))), .second, .val (.ref b6), .val (.ref b10), .val (.long (q1 + ((q2 * (1000000 : Int64)) - ((q2 * (1000000 : Int64)) + (p5.toInt64))))), .second, .unset, .unset, .unset, .unset] [(.ref b6)]))
  refine Run.go (fun _ k => XS.lloadN X14.here hx rfl (hb hby at_51) rfl  k) ?_
  show Run p e below s 2 4 (Q_rm0 Z q1 q2 q3 q4 p5 h0 n0) (T14.setTop (mkF m 52 #[.val (.long q1), .second, .val (.long q2), .second, .val (.long q3), .second, .val (.long q4), .second, .val (.int p5), .val (.long ((q2 * (1000000 : Int64)) + (p5.toInt64))), .second, .val (.ref b6), .val (.ref b10), .val (.long (q1 + ((q2 * (1000000 : Int64)) - ((q2 * (1000000 : Int64)) + (p5.toInt64))))), .second, .unset, .unset, .unset, .unset] [(.long q2), (.ref b6)]))
  refine Run.go (fun _ k => XS.lload X14.here hx rfl (hb hby at_52) rfl  k) ?_
  show Run p e below s 2 4 (Q_rm0 Z q1 q2 q3 q4 p5 h0 n0) (T14.setTop (mkF m 54 #[.val (.long q1), .second, .val (.long q2), .second, .val (.long q3), .second, .val (.long q4), .second, .val (.int p5), .val (.long ((q2 * (1000000 : Int64)) + (p5.toInt64))), .second, .val (.ref b6), .val (.ref b10), .val (.long (q1 + ((q2 * (1000000 : Int64)) - ((q2 * (1000000 : Int64)) + (p5.toInt64))))), .second, .unset, .unset, .unset, .unset] [(.long q3), (.long q2), (.ref b6)]))
  refine Run.go (fun _ k => XS.ladd X14.here hx rfl (hb hby at_54) rfl k) ?_
  show Run p e below s 2 4 (Q_rm0 Z q1 q2 q3 q4 p5 h0 n0) (T14.setTop (mkF m 55 #[.val (.long q1), .second, .val (.long q2), .second, .val (.long q3), .second, .val (.long q4), .second, .val (.int p5), .val (.long ((q2 * (1000000 : Int64)) + (p5.toInt64))), .second, .val (.ref b6), .val (.ref b10), .val (.long (q1 + ((q2 * (1000000 : Int64)) - ((q2 * (1000000 : Int64)) + (p5.toInt64))))), .second, .unset, .unset, .unset, .unset] [(.long (q2 + q3)), (.ref b6)]))
  obtain ⟨cq18, kq18, q18a, q18b, q18c⟩ := isOf hZ e14q fx17
  obtain ⟨_, _, ⟨T18, L18, k18, n18⟩, -, X18, ⟨Lc18, hQ18, l18, y18, z18⟩, st18⟩ := X14.virtualBack hx (y := (⟨"com/example/hyra/hyra/Instants", "nanosAt", "(J)J"⟩ : MethodName)) (z := (⟨"com/example/hyra/hyra/Instants", "nanosAt", "(J)J"⟩ : MethodName)) hown (mvT hZ (hw _ (List.mem_of_getElem? (i := 19) rfl))) (mvT hZ (hw _ (List.mem_of_getElem? (i := 20) rfl))) (notFace_of_selects (args := #[]) (mvT hZ (hw _ (List.mem_of_getElem? (i := 22) rfl)))) (mvT hZ (hw _ (List.mem_of_getElem? (i := 22) rfl))) (mvT hZ (hw _ (List.mem_of_getElem? (i := 21) rfl))) (by decide) (backOf (W := 0) (rm4 l Z a0 hw [] b6 (q2 + q3) q1 ((q2 * (1000000 : Int64)) + (p5.toInt64)) T13.heap n0 Z13 fx15 fx16) hZ (hw _ (List.mem_of_getElem? (i := 23) rfl)) (hw _ (List.mem_of_getElem? (i := 3) rfl)) (by decide) (by decide)) q18a q18c (g := (mkF m 55 #[.val (.long q1), .second, .val (.long q2), .second, .val (.long q3), .second, .val (.long q4), .second, .val (.int p5), .val (.long ((q2 * (1000000 : Int64)) + (p5.toInt64))), .second, .val (.ref b6), .val (.ref b10), .val (.long (q1 + ((q2 * (1000000 : Int64)) - ((q2 * (1000000 : Int64)) + (p5.toInt64))))), .second, .unset, .unset, .unset, .unset] [(.long (q2 + q3)), (.ref b6)])) rfl (by rw [hml]; rfl) (Steps.refl _) (argsL := [(.long (q2 + q3))]) (rest := []) (lenOf pd_2 rfl) rfl (by show 2 * 0 + _ ≤ _; exact Nat.le_of_eq rfl) (hb hby at_55) (fun _ _ => ⟨rfl, e14q, (by decide : 2 + 0 ≤ _), (by decide : 4 + 0 ≤ _)⟩)
  dsimp only [Pt.U, Pt.locs, Pt.cells, Pt.slots] at X18 l18 y18 z18 st18 hQ18
  subst l18 y18 z18
  obtain ⟨rfl, N18q, e18q⟩ := hQ18
  have N18 := Fr.app N14 N18q
  refine Run.tr st18 ?_
  show Run p e below s 2 4 (Q_rm0 Z q1 q2 q3 q4 p5 h0 n0) (T18.setTop (mkF m 58 #[.val (.long q1), .second, .val (.long q2), .second, .val (.long q3), .second, .val (.long q4), .second, .val (.int p5), .val (.long ((q2 * (1000000 : Int64)) + (p5.toInt64))), .second, .val (.ref b6), .val (.ref b10), .val (.long (q1 + ((q2 * (1000000 : Int64)) - ((q2 * (1000000 : Int64)) + (p5.toInt64))))), .second, .unset, .unset, .unset, .unset] [(.long (q1 + (((q2 + q3) * (1000000 : Int64)) - ((q2 * (1000000 : Int64)) + (p5.toInt64)))))]))
  refine Run.go (fun _ k => XS.lstore X18.here hx rfl (hb hby at_58) rfl (l' := #[.val (.long q1), .second, .val (.long q2), .second, .val (.long q3), .second, .val (.long q4), .second, .val (.int p5), .val (.long ((q2 * (1000000 : Int64)) + (p5.toInt64))), .second, .val (.ref b6), .val (.ref b10), .val (.long (q1 + ((q2 * (1000000 : Int64)) - ((q2 * (1000000 : Int64)) + (p5.toInt64))))), .second, .val (.long (q1 + (((q2 + q3) * (1000000 : Int64)) - ((q2 * (1000000 : Int64)) + (p5.toInt64))))), .second, .unset, .unset]) rfl k) ?_
  show Run p e below s 2 4 (Q_rm0 Z q1 q2 q3 q4 p5 h0 n0) (T18.setTop (mkF m 60 #[.val (.long q1), .second, .val (.long q2), .second, .val (.long q3), .second, .val (.long q4), .second, .val (.int p5), .val (.long ((q2 * (1000000 : Int64)) + (p5.toInt64))), .second, .val (.ref b6), .val (.ref b10), .val (.long (q1 + ((q2 * (1000000 : Int64)) - ((q2 * (1000000 : Int64)) + (p5.toInt64))))), .second, .val (.long (q1 + (((q2 + q3) * (1000000 : Int64)) - ((q2 * (1000000 : Int64)) + (p5.toInt64))))), .second, .unset, .unset] []))
  refine Run.go (fun _ k => XS.aload X18.here hx rfl (hb hby at_60) rfl rfl k) ?_
  show Run p e below s 2 4 (Q_rm0 Z q1 q2 q3 q4 p5 h0 n0) (T18.setTop (mkF m 62 #[.val (.long q1), .second, .val (.long q2), .second, .val (.long q3), .second, .val (.long q4), .second, .val (.int p5), .val (.long ((q2 * (1000000 : Int64)) + (p5.toInt64))), .second, .val (.ref b6), .val (.ref b10), .val (.long (q1 + ((q2 * (1000000 : Int64)) - ((q2 * (1000000 : Int64)) + (p5.toInt64))))), .second, .val (.long (q1 + (((q2 + q3) * (1000000 : Int64)) - ((q2 * (1000000 : Int64)) + (p5.toInt64))))), .second, .unset, .unset] [(.ref b10)]))
  refine Run.go (fun _ k => XS.lloadN X18.here hx rfl (hb hby at_62) rfl  k) ?_
  show Run p e below s 2 4 (Q_rm0 Z q1 q2 q3 q4 p5 h0 n0) (T18.setTop (mkF m 63 #[.val (.long q1), .second, .val (.long q2), .second, .val (.long q3), .second, .val (.long q4), .second, .val (.int p5), .val (.long ((q2 * (1000000 : Int64)) + (p5.toInt64))), .second, .val (.ref b6), .val (.ref b10), .val (.long (q1 + ((q2 * (1000000 : Int64)) - ((q2 * (1000000 : Int64)) + (p5.toInt64))))), .second, .val (.long (q1 + (((q2 + q3) * (1000000 : Int64)) - ((q2 * (1000000 : Int64)) + (p5.toInt64))))), .second, .unset, .unset] [(.long q2), (.ref b10)]))
  refine Run.go (fun _ k => XS.lload X18.here hx rfl (hb hby at_63) rfl  k) ?_
  show Run p e below s 2 4 (Q_rm0 Z q1 q2 q3 q4 p5 h0 n0) (T18.setTop (mkF m 65 #[.val (.long q1), .second, .val (.long q2), .second, .val (.long q3), .second, .val (.long q4), .second, .val (.int p5), .val (.long ((q2 * (1000000 : Int64)) + (p5.toInt64))), .second, .val (.ref b6), .val (.ref b10), .val (.long (q1 + ((q2 * (1000000 : Int64)) - ((q2 * (1000000 : Int64)) + (p5.toInt64))))), .second, .val (.long (q1 + (((q2 + q3) * (1000000 : Int64)) - ((q2 * (1000000 : Int64)) + (p5.toInt64))))), .second, .unset, .unset] [(.long q3), (.long q2), (.ref b10)]))
  refine Run.go (fun _ k => XS.ladd X18.here hx rfl (hb hby at_65) rfl k) ?_
  show Run p e below s 2 4 (Q_rm0 Z q1 q2 q3 q4 p5 h0 n0) (T18.setTop (mkF m 66 #[.val (.long q1), .second, .val (.long q2), .second, .val (.long q3), .second, .val (.long q4), .second, .val (.int p5), .val (.long ((q2 * (1000000 : Int64)) + (p5.toInt64))), .second, .val (.ref b6), .val (.ref b10), .val (.long (q1 + ((q2 * (1000000 : Int64)) - ((q2 * (1000000 : Int64)) + (p5.toInt64))))), .second, .val (.long (q1 + (((q2 + q3) * (1000000 : Int64)) - ((q2 * (1000000 : Int64)) + (p5.toInt64))))), .second, .unset, .unset] [(.long (q2 + q3)), (.ref b10)]))
  obtain ⟨cq19, kq19, q19a, q19b, q19c⟩ := isOf hZ e18q fq13_0
  obtain ⟨_, _, ⟨T19, L19, k19, n19⟩, -, X19, ⟨Lc19, hQ19, l19, y19, z19⟩, st19⟩ := X18.virtualBack hx (y := (⟨"com/example/hyra/hyra/Instants", "nanosAt", "(J)J"⟩ : MethodName)) (z := (⟨"com/example/hyra/hyra/Instants", "nanosAt", "(J)J"⟩ : MethodName)) hown (mvT hZ (hw _ (List.mem_of_getElem? (i := 19) rfl))) (mvT hZ (hw _ (List.mem_of_getElem? (i := 20) rfl))) (notFace_of_selects (args := #[]) (mvT hZ (hw _ (List.mem_of_getElem? (i := 22) rfl)))) (mvT hZ (hw _ (List.mem_of_getElem? (i := 22) rfl))) (mvT hZ (hw _ (List.mem_of_getElem? (i := 21) rfl))) (by decide) (backOf (W := 0) (rm4 l Z a0 hw [] b10 (q2 + q3) (q1 + q4) (((q2 * (1000000 : Int64)) + (p5.toInt64)) + q4) T13.heap n0 Z13 fq13_1 fq13_2) hZ (hw _ (List.mem_of_getElem? (i := 23) rfl)) (hw _ (List.mem_of_getElem? (i := 3) rfl)) (by decide) (by decide)) q19a q19c (g := (mkF m 66 #[.val (.long q1), .second, .val (.long q2), .second, .val (.long q3), .second, .val (.long q4), .second, .val (.int p5), .val (.long ((q2 * (1000000 : Int64)) + (p5.toInt64))), .second, .val (.ref b6), .val (.ref b10), .val (.long (q1 + ((q2 * (1000000 : Int64)) - ((q2 * (1000000 : Int64)) + (p5.toInt64))))), .second, .val (.long (q1 + (((q2 + q3) * (1000000 : Int64)) - ((q2 * (1000000 : Int64)) + (p5.toInt64))))), .second, .unset, .unset] [(.long (q2 + q3)), (.ref b10)])) rfl (by rw [hml]; rfl) (Steps.refl _) (argsL := [(.long (q2 + q3))]) (rest := []) (lenOf pd_2 rfl) rfl (by show 2 * 0 + _ ≤ _; exact Nat.le_of_eq rfl) (hb hby at_66) (fun _ _ => ⟨rfl, e18q, (by decide : 2 + 0 ≤ _), (by decide : 4 + 0 ≤ _)⟩)
  dsimp only [Pt.U, Pt.locs, Pt.cells, Pt.slots] at X19 l19 y19 z19 st19 hQ19
  subst l19 y19 z19
  obtain ⟨rfl, N19q, e19q⟩ := hQ19
  have N19 := Fr.app N18 N19q
  refine Run.tr st19 ?_
  show Run p e below s 2 4 (Q_rm0 Z q1 q2 q3 q4 p5 h0 n0) (T19.setTop (mkF m 69 #[.val (.long q1), .second, .val (.long q2), .second, .val (.long q3), .second, .val (.long q4), .second, .val (.int p5), .val (.long ((q2 * (1000000 : Int64)) + (p5.toInt64))), .second, .val (.ref b6), .val (.ref b10), .val (.long (q1 + ((q2 * (1000000 : Int64)) - ((q2 * (1000000 : Int64)) + (p5.toInt64))))), .second, .val (.long (q1 + (((q2 + q3) * (1000000 : Int64)) - ((q2 * (1000000 : Int64)) + (p5.toInt64))))), .second, .unset, .unset] [(.long ((q1 + q4) + (((q2 + q3) * (1000000 : Int64)) - (((q2 * (1000000 : Int64)) + (p5.toInt64)) + q4))))]))
  refine Run.go (fun _ k => XS.lstore X19.here hx rfl (hb hby at_69) rfl (l' := #[.val (.long q1), .second, .val (.long q2), .second, .val (.long q3), .second, .val (.long q4), .second, .val (.int p5), .val (.long ((q2 * (1000000 : Int64)) + (p5.toInt64))), .second, .val (.ref b6), .val (.ref b10), .val (.long (q1 + ((q2 * (1000000 : Int64)) - ((q2 * (1000000 : Int64)) + (p5.toInt64))))), .second, .val (.long (q1 + (((q2 + q3) * (1000000 : Int64)) - ((q2 * (1000000 : Int64)) + (p5.toInt64))))), .second, .val (.long ((q1 + q4) + (((q2 + q3) * (1000000 : Int64)) - (((q2 * (1000000 : Int64)) + (p5.toInt64)) + q4)))), .second]) rfl k) ?_
  show Run p e below s 2 4 (Q_rm0 Z q1 q2 q3 q4 p5 h0 n0) (T19.setTop (mkF m 71 #[.val (.long q1), .second, .val (.long q2), .second, .val (.long q3), .second, .val (.long q4), .second, .val (.int p5), .val (.long ((q2 * (1000000 : Int64)) + (p5.toInt64))), .second, .val (.ref b6), .val (.ref b10), .val (.long (q1 + ((q2 * (1000000 : Int64)) - ((q2 * (1000000 : Int64)) + (p5.toInt64))))), .second, .val (.long (q1 + (((q2 + q3) * (1000000 : Int64)) - ((q2 * (1000000 : Int64)) + (p5.toInt64))))), .second, .val (.long ((q1 + q4) + (((q2 + q3) * (1000000 : Int64)) - (((q2 * (1000000 : Int64)) + (p5.toInt64)) + q4)))), .second] []))
  refine Run.go (fun _ k => XS.lload X19.here hx rfl (hb hby at_71) rfl  k) ?_
  show Run p e below s 2 4 (Q_rm0 Z q1 q2 q3 q4 p5 h0 n0) (T19.setTop (mkF m 73 #[.val (.long q1), .second, .val (.long q2), .second, .val (.long q3), .second, .val (.long q4), .second, .val (.int p5), .val (.long ((q2 * (1000000 : Int64)) + (p5.toInt64))), .second, .val (.ref b6), .val (.ref b10), .val (.long (q1 + ((q2 * (1000000 : Int64)) - ((q2 * (1000000 : Int64)) + (p5.toInt64))))), .second, .val (.long (q1 + (((q2 + q3) * (1000000 : Int64)) - ((q2 * (1000000 : Int64)) + (p5.toInt64))))), .second, .val (.long ((q1 + q4) + (((q2 + q3) * (1000000 : Int64)) - (((q2 * (1000000 : Int64)) + (p5.toInt64)) + q4)))), .second] [(.long (q1 + ((q2 * (1000000 : Int64)) - ((q2 * (1000000 : Int64)) + (p5.toInt64)))))]))
  refine Run.go (fun _ k => XS.lloadN X19.here hx rfl (hb hby at_73) rfl  k) ?_
  show Run p e below s 2 4 (Q_rm0 Z q1 q2 q3 q4 p5 h0 n0) (T19.setTop (mkF m 74 #[.val (.long q1), .second, .val (.long q2), .second, .val (.long q3), .second, .val (.long q4), .second, .val (.int p5), .val (.long ((q2 * (1000000 : Int64)) + (p5.toInt64))), .second, .val (.ref b6), .val (.ref b10), .val (.long (q1 + ((q2 * (1000000 : Int64)) - ((q2 * (1000000 : Int64)) + (p5.toInt64))))), .second, .val (.long (q1 + (((q2 + q3) * (1000000 : Int64)) - ((q2 * (1000000 : Int64)) + (p5.toInt64))))), .second, .val (.long ((q1 + q4) + (((q2 + q3) * (1000000 : Int64)) - (((q2 * (1000000 : Int64)) + (p5.toInt64)) + q4)))), .second] [(.long q1), (.long (q1 + ((q2 * (1000000 : Int64)) - ((q2 * (1000000 : Int64)) + (p5.toInt64)))))]))
  refine Run.go (fun _ k => XS.iload X19.here hx rfl (hb hby at_74) rfl  k) ?_
  show Run p e below s 2 4 (Q_rm0 Z q1 q2 q3 q4 p5 h0 n0) (T19.setTop (mkF m 76 #[.val (.long q1), .second, .val (.long q2), .second, .val (.long q3), .second, .val (.long q4), .second, .val (.int p5), .val (.long ((q2 * (1000000 : Int64)) + (p5.toInt64))), .second, .val (.ref b6), .val (.ref b10), .val (.long (q1 + ((q2 * (1000000 : Int64)) - ((q2 * (1000000 : Int64)) + (p5.toInt64))))), .second, .val (.long (q1 + (((q2 + q3) * (1000000 : Int64)) - ((q2 * (1000000 : Int64)) + (p5.toInt64))))), .second, .val (.long ((q1 + q4) + (((q2 + q3) * (1000000 : Int64)) - (((q2 * (1000000 : Int64)) + (p5.toInt64)) + q4)))), .second] [(.int p5), (.long q1), (.long (q1 + ((q2 * (1000000 : Int64)) - ((q2 * (1000000 : Int64)) + (p5.toInt64)))))]))
  refine Run.go (fun _ k => XS.i2l X19.here hx rfl (hb hby at_76) rfl k) ?_
  show Run p e below s 2 4 (Q_rm0 Z q1 q2 q3 q4 p5 h0 n0) (T19.setTop (mkF m 77 #[.val (.long q1), .second, .val (.long q2), .second, .val (.long q3), .second, .val (.long q4), .second, .val (.int p5), .val (.long ((q2 * (1000000 : Int64)) + (p5.toInt64))), .second, .val (.ref b6), .val (.ref b10), .val (.long (q1 + ((q2 * (1000000 : Int64)) - ((q2 * (1000000 : Int64)) + (p5.toInt64))))), .second, .val (.long (q1 + (((q2 + q3) * (1000000 : Int64)) - ((q2 * (1000000 : Int64)) + (p5.toInt64))))), .second, .val (.long ((q1 + q4) + (((q2 + q3) * (1000000 : Int64)) - (((q2 * (1000000 : Int64)) + (p5.toInt64)) + q4)))), .second] [(.long (p5.toInt64)), (.long q1), (.long (q1 + ((q2 * (1000000 : Int64)) - ((q2 * (1000000 : Int64)) + (p5.toInt64)))))]))
  refine Run.go (fun _ k => XS.lsub X19.here hx rfl (hb hby at_77) rfl k) ?_
  show Run p e below s 2 4 (Q_rm0 Z q1 q2 q3 q4 p5 h0 n0) (T19.setTop (mkF m 78 #[.val (.long q1), .second, .val (.long q2), .second, .val (.long q3), .second, .val (.long q4), .second, .val (.int p5), .val (.long ((q2 * (1000000 : Int64)) + (p5.toInt64))), .second, .val (.ref b6), .val (.ref b10), .val (.long (q1 + ((q2 * (1000000 : Int64)) - ((q2 * (1000000 : Int64)) + (p5.toInt64))))), .second, .val (.long (q1 + (((q2 + q3) * (1000000 : Int64)) - ((q2 * (1000000 : Int64)) + (p5.toInt64))))), .second, .val (.long ((q1 + q4) + (((q2 + q3) * (1000000 : Int64)) - (((q2 * (1000000 : Int64)) + (p5.toInt64)) + q4)))), .second] [(.long (q1 - (p5.toInt64))), (.long (q1 + ((q2 * (1000000 : Int64)) - ((q2 * (1000000 : Int64)) + (p5.toInt64)))))]))
  refine Run.go (fun _ k => XS.lcmp X19.here hx rfl (hb hby at_78) rfl k) ?_
  show Run p e below s 2 4 (Q_rm0 Z q1 q2 q3 q4 p5 h0 n0) (T19.setTop (mkF m 79 #[.val (.long q1), .second, .val (.long q2), .second, .val (.long q3), .second, .val (.long q4), .second, .val (.int p5), .val (.long ((q2 * (1000000 : Int64)) + (p5.toInt64))), .second, .val (.ref b6), .val (.ref b10), .val (.long (q1 + ((q2 * (1000000 : Int64)) - ((q2 * (1000000 : Int64)) + (p5.toInt64))))), .second, .val (.long (q1 + (((q2 + q3) * (1000000 : Int64)) - ((q2 * (1000000 : Int64)) + (p5.toInt64))))), .second, .val (.long ((q1 + q4) + (((q2 + q3) * (1000000 : Int64)) - (((q2 * (1000000 : Int64)) + (p5.toInt64)) + q4)))), .second] [(.int (lcmpW (q1 + ((q2 * (1000000 : Int64)) - ((q2 * (1000000 : Int64)) + (p5.toInt64)))) (q1 - (p5.toInt64))))]))
  refine Run.go (fun _ k => XS.ifNo X19.here hx rfl (hb hby at_79) rfl ((if0 _ _).trans (teq ((lw_eq (q1 + ((q2 * (1000000 : Int64)) - ((q2 * (1000000 : Int64)) + (p5.toInt64)))) (q1 - (p5.toInt64))).mpr (own_1 _ _ _))).2) k) ?_
  show Run p e below s 2 4 (Q_rm0 Z q1 q2 q3 q4 p5 h0 n0) (T19.setTop (mkF m 82 #[.val (.long q1), .second, .val (.long q2), .second, .val (.long q3), .second, .val (.long q4), .second, .val (.int p5), .val (.long ((q2 * (1000000 : Int64)) + (p5.toInt64))), .second, .val (.ref b6), .val (.ref b10), .val (.long (q1 + ((q2 * (1000000 : Int64)) - ((q2 * (1000000 : Int64)) + (p5.toInt64))))), .second, .val (.long (q1 + (((q2 + q3) * (1000000 : Int64)) - ((q2 * (1000000 : Int64)) + (p5.toInt64))))), .second, .val (.long ((q1 + q4) + (((q2 + q3) * (1000000 : Int64)) - (((q2 * (1000000 : Int64)) + (p5.toInt64)) + q4)))), .second] []))
  refine Run.go (fun _ k => XS.lload X19.here hx rfl (hb hby at_82) rfl  k) ?_
  show Run p e below s 2 4 (Q_rm0 Z q1 q2 q3 q4 p5 h0 n0) (T19.setTop (mkF m 84 #[.val (.long q1), .second, .val (.long q2), .second, .val (.long q3), .second, .val (.long q4), .second, .val (.int p5), .val (.long ((q2 * (1000000 : Int64)) + (p5.toInt64))), .second, .val (.ref b6), .val (.ref b10), .val (.long (q1 + ((q2 * (1000000 : Int64)) - ((q2 * (1000000 : Int64)) + (p5.toInt64))))), .second, .val (.long (q1 + (((q2 + q3) * (1000000 : Int64)) - ((q2 * (1000000 : Int64)) + (p5.toInt64))))), .second, .val (.long ((q1 + q4) + (((q2 + q3) * (1000000 : Int64)) - (((q2 * (1000000 : Int64)) + (p5.toInt64)) + q4)))), .second] [(.long (q1 + (((q2 + q3) * (1000000 : Int64)) - ((q2 * (1000000 : Int64)) + (p5.toInt64)))))]))
  refine Run.go (fun _ k => XS.lloadN X19.here hx rfl (hb hby at_84) rfl  k) ?_
  show Run p e below s 2 4 (Q_rm0 Z q1 q2 q3 q4 p5 h0 n0) (T19.setTop (mkF m 85 #[.val (.long q1), .second, .val (.long q2), .second, .val (.long q3), .second, .val (.long q4), .second, .val (.int p5), .val (.long ((q2 * (1000000 : Int64)) + (p5.toInt64))), .second, .val (.ref b6), .val (.ref b10), .val (.long (q1 + ((q2 * (1000000 : Int64)) - ((q2 * (1000000 : Int64)) + (p5.toInt64))))), .second, .val (.long (q1 + (((q2 + q3) * (1000000 : Int64)) - ((q2 * (1000000 : Int64)) + (p5.toInt64))))), .second, .val (.long ((q1 + q4) + (((q2 + q3) * (1000000 : Int64)) - (((q2 * (1000000 : Int64)) + (p5.toInt64)) + q4)))), .second] [(.long q1), (.long (q1 + (((q2 + q3) * (1000000 : Int64)) - ((q2 * (1000000 : Int64)) + (p5.toInt64)))))]))
  refine Run.go (fun _ k => XS.iload X19.here hx rfl (hb hby at_85) rfl  k) ?_
  show Run p e below s 2 4 (Q_rm0 Z q1 q2 q3 q4 p5 h0 n0) (T19.setTop (mkF m 87 #[.val (.long q1), .second, .val (.long q2), .second, .val (.long q3), .second, .val (.long q4), .second, .val (.int p5), .val (.long ((q2 * (1000000 : Int64)) + (p5.toInt64))), .second, .val (.ref b6), .val (.ref b10), .val (.long (q1 + ((q2 * (1000000 : Int64)) - ((q2 * (1000000 : Int64)) + (p5.toInt64))))), .second, .val (.long (q1 + (((q2 + q3) * (1000000 : Int64)) - ((q2 * (1000000 : Int64)) + (p5.toInt64))))), .second, .val (.long ((q1 + q4) + (((q2 + q3) * (1000000 : Int64)) - (((q2 * (1000000 : Int64)) + (p5.toInt64)) + q4)))), .second] [(.int p5), (.long q1), (.long (q1 + (((q2 + q3) * (1000000 : Int64)) - ((q2 * (1000000 : Int64)) + (p5.toInt64)))))]))
  refine Run.go (fun _ k => XS.i2l X19.here hx rfl (hb hby at_87) rfl k) ?_
  show Run p e below s 2 4 (Q_rm0 Z q1 q2 q3 q4 p5 h0 n0) (T19.setTop (mkF m 88 #[.val (.long q1), .second, .val (.long q2), .second, .val (.long q3), .second, .val (.long q4), .second, .val (.int p5), .val (.long ((q2 * (1000000 : Int64)) + (p5.toInt64))), .second, .val (.ref b6), .val (.ref b10), .val (.long (q1 + ((q2 * (1000000 : Int64)) - ((q2 * (1000000 : Int64)) + (p5.toInt64))))), .second, .val (.long (q1 + (((q2 + q3) * (1000000 : Int64)) - ((q2 * (1000000 : Int64)) + (p5.toInt64))))), .second, .val (.long ((q1 + q4) + (((q2 + q3) * (1000000 : Int64)) - (((q2 * (1000000 : Int64)) + (p5.toInt64)) + q4)))), .second] [(.long (p5.toInt64)), (.long q1), (.long (q1 + (((q2 + q3) * (1000000 : Int64)) - ((q2 * (1000000 : Int64)) + (p5.toInt64)))))]))
  refine Run.go (fun _ k => XS.lsub X19.here hx rfl (hb hby at_88) rfl k) ?_
  show Run p e below s 2 4 (Q_rm0 Z q1 q2 q3 q4 p5 h0 n0) (T19.setTop (mkF m 89 #[.val (.long q1), .second, .val (.long q2), .second, .val (.long q3), .second, .val (.long q4), .second, .val (.int p5), .val (.long ((q2 * (1000000 : Int64)) + (p5.toInt64))), .second, .val (.ref b6), .val (.ref b10), .val (.long (q1 + ((q2 * (1000000 : Int64)) - ((q2 * (1000000 : Int64)) + (p5.toInt64))))), .second, .val (.long (q1 + (((q2 + q3) * (1000000 : Int64)) - ((q2 * (1000000 : Int64)) + (p5.toInt64))))), .second, .val (.long ((q1 + q4) + (((q2 + q3) * (1000000 : Int64)) - (((q2 * (1000000 : Int64)) + (p5.toInt64)) + q4)))), .second] [(.long (q1 - (p5.toInt64))), (.long (q1 + (((q2 + q3) * (1000000 : Int64)) - ((q2 * (1000000 : Int64)) + (p5.toInt64)))))]))
  refine Run.go (fun _ k => XS.lload X19.here hx rfl (hb hby at_89) rfl  k) ?_
  show Run p e below s 2 4 (Q_rm0 Z q1 q2 q3 q4 p5 h0 n0) (T19.setTop (mkF m 91 #[.val (.long q1), .second, .val (.long q2), .second, .val (.long q3), .second, .val (.long q4), .second, .val (.int p5), .val (.long ((q2 * (1000000 : Int64)) + (p5.toInt64))), .second, .val (.ref b6), .val (.ref b10), .val (.long (q1 + ((q2 * (1000000 : Int64)) - ((q2 * (1000000 : Int64)) + (p5.toInt64))))), .second, .val (.long (q1 + (((q2 + q3) * (1000000 : Int64)) - ((q2 * (1000000 : Int64)) + (p5.toInt64))))), .second, .val (.long ((q1 + q4) + (((q2 + q3) * (1000000 : Int64)) - (((q2 * (1000000 : Int64)) + (p5.toInt64)) + q4)))), .second] [(.long q3), (.long (q1 - (p5.toInt64))), (.long (q1 + (((q2 + q3) * (1000000 : Int64)) - ((q2 * (1000000 : Int64)) + (p5.toInt64)))))]))
  refine Run.go (fun _ k => X19.ldc2Long hx hown (mvT hZ (hw _ (List.mem_of_getElem? (i := 0) rfl))) (g := (mkF m 91 #[.val (.long q1), .second, .val (.long q2), .second, .val (.long q3), .second, .val (.long q4), .second, .val (.int p5), .val (.long ((q2 * (1000000 : Int64)) + (p5.toInt64))), .second, .val (.ref b6), .val (.ref b10), .val (.long (q1 + ((q2 * (1000000 : Int64)) - ((q2 * (1000000 : Int64)) + (p5.toInt64))))), .second, .val (.long (q1 + (((q2 + q3) * (1000000 : Int64)) - ((q2 * (1000000 : Int64)) + (p5.toInt64))))), .second, .val (.long ((q1 + q4) + (((q2 + q3) * (1000000 : Int64)) - (((q2 * (1000000 : Int64)) + (p5.toInt64)) + q4)))), .second] [(.long q3), (.long (q1 - (p5.toInt64))), (.long (q1 + (((q2 + q3) * (1000000 : Int64)) - ((q2 * (1000000 : Int64)) + (p5.toInt64)))))])) rfl (hb hby at_91) _ k) ?_
  show Run p e below s 2 4 (Q_rm0 Z q1 q2 q3 q4 p5 h0 n0) (T19.setTop (mkF m 94 #[.val (.long q1), .second, .val (.long q2), .second, .val (.long q3), .second, .val (.long q4), .second, .val (.int p5), .val (.long ((q2 * (1000000 : Int64)) + (p5.toInt64))), .second, .val (.ref b6), .val (.ref b10), .val (.long (q1 + ((q2 * (1000000 : Int64)) - ((q2 * (1000000 : Int64)) + (p5.toInt64))))), .second, .val (.long (q1 + (((q2 + q3) * (1000000 : Int64)) - ((q2 * (1000000 : Int64)) + (p5.toInt64))))), .second, .val (.long ((q1 + q4) + (((q2 + q3) * (1000000 : Int64)) - (((q2 * (1000000 : Int64)) + (p5.toInt64)) + q4)))), .second] [(.long (1000000 : Int64)), (.long q3), (.long (q1 - (p5.toInt64))), (.long (q1 + (((q2 + q3) * (1000000 : Int64)) - ((q2 * (1000000 : Int64)) + (p5.toInt64)))))]))
  refine Run.go (fun _ k => XS.lmul X19.here hx rfl (hb hby at_94) rfl k) ?_
  show Run p e below s 2 4 (Q_rm0 Z q1 q2 q3 q4 p5 h0 n0) (T19.setTop (mkF m 95 #[.val (.long q1), .second, .val (.long q2), .second, .val (.long q3), .second, .val (.long q4), .second, .val (.int p5), .val (.long ((q2 * (1000000 : Int64)) + (p5.toInt64))), .second, .val (.ref b6), .val (.ref b10), .val (.long (q1 + ((q2 * (1000000 : Int64)) - ((q2 * (1000000 : Int64)) + (p5.toInt64))))), .second, .val (.long (q1 + (((q2 + q3) * (1000000 : Int64)) - ((q2 * (1000000 : Int64)) + (p5.toInt64))))), .second, .val (.long ((q1 + q4) + (((q2 + q3) * (1000000 : Int64)) - (((q2 * (1000000 : Int64)) + (p5.toInt64)) + q4)))), .second] [(.long (q3 * (1000000 : Int64))), (.long (q1 - (p5.toInt64))), (.long (q1 + (((q2 + q3) * (1000000 : Int64)) - ((q2 * (1000000 : Int64)) + (p5.toInt64)))))]))
  refine Run.go (fun _ k => XS.ladd X19.here hx rfl (hb hby at_95) rfl k) ?_
  show Run p e below s 2 4 (Q_rm0 Z q1 q2 q3 q4 p5 h0 n0) (T19.setTop (mkF m 96 #[.val (.long q1), .second, .val (.long q2), .second, .val (.long q3), .second, .val (.long q4), .second, .val (.int p5), .val (.long ((q2 * (1000000 : Int64)) + (p5.toInt64))), .second, .val (.ref b6), .val (.ref b10), .val (.long (q1 + ((q2 * (1000000 : Int64)) - ((q2 * (1000000 : Int64)) + (p5.toInt64))))), .second, .val (.long (q1 + (((q2 + q3) * (1000000 : Int64)) - ((q2 * (1000000 : Int64)) + (p5.toInt64))))), .second, .val (.long ((q1 + q4) + (((q2 + q3) * (1000000 : Int64)) - (((q2 * (1000000 : Int64)) + (p5.toInt64)) + q4)))), .second] [(.long ((q1 - (p5.toInt64)) + (q3 * (1000000 : Int64)))), (.long (q1 + (((q2 + q3) * (1000000 : Int64)) - ((q2 * (1000000 : Int64)) + (p5.toInt64)))))]))
  refine Run.go (fun _ k => XS.lcmp X19.here hx rfl (hb hby at_96) rfl k) ?_
  show Run p e below s 2 4 (Q_rm0 Z q1 q2 q3 q4 p5 h0 n0) (T19.setTop (mkF m 97 #[.val (.long q1), .second, .val (.long q2), .second, .val (.long q3), .second, .val (.long q4), .second, .val (.int p5), .val (.long ((q2 * (1000000 : Int64)) + (p5.toInt64))), .second, .val (.ref b6), .val (.ref b10), .val (.long (q1 + ((q2 * (1000000 : Int64)) - ((q2 * (1000000 : Int64)) + (p5.toInt64))))), .second, .val (.long (q1 + (((q2 + q3) * (1000000 : Int64)) - ((q2 * (1000000 : Int64)) + (p5.toInt64))))), .second, .val (.long ((q1 + q4) + (((q2 + q3) * (1000000 : Int64)) - (((q2 * (1000000 : Int64)) + (p5.toInt64)) + q4)))), .second] [(.int (lcmpW (q1 + (((q2 + q3) * (1000000 : Int64)) - ((q2 * (1000000 : Int64)) + (p5.toInt64)))) ((q1 - (p5.toInt64)) + (q3 * (1000000 : Int64)))))]))
  refine Run.go (fun _ k => XS.ifNo X19.here hx rfl (hb hby at_97) rfl ((if0 _ _).trans (teq ((lw_eq (q1 + (((q2 + q3) * (1000000 : Int64)) - ((q2 * (1000000 : Int64)) + (p5.toInt64)))) ((q1 - (p5.toInt64)) + (q3 * (1000000 : Int64)))).mpr (own_2 _ _ _ _))).2) k) ?_
  show Run p e below s 2 4 (Q_rm0 Z q1 q2 q3 q4 p5 h0 n0) (T19.setTop (mkF m 100 #[.val (.long q1), .second, .val (.long q2), .second, .val (.long q3), .second, .val (.long q4), .second, .val (.int p5), .val (.long ((q2 * (1000000 : Int64)) + (p5.toInt64))), .second, .val (.ref b6), .val (.ref b10), .val (.long (q1 + ((q2 * (1000000 : Int64)) - ((q2 * (1000000 : Int64)) + (p5.toInt64))))), .second, .val (.long (q1 + (((q2 + q3) * (1000000 : Int64)) - ((q2 * (1000000 : Int64)) + (p5.toInt64))))), .second, .val (.long ((q1 + q4) + (((q2 + q3) * (1000000 : Int64)) - (((q2 * (1000000 : Int64)) + (p5.toInt64)) + q4)))), .second] []))
  refine Run.go (fun _ k => XS.lload X19.here hx rfl (hb hby at_100) rfl  k) ?_
  show Run p e below s 2 4 (Q_rm0 Z q1 q2 q3 q4 p5 h0 n0) (T19.setTop (mkF m 102 #[.val (.long q1), .second, .val (.long q2), .second, .val (.long q3), .second, .val (.long q4), .second, .val (.int p5), .val (.long ((q2 * (1000000 : Int64)) + (p5.toInt64))), .second, .val (.ref b6), .val (.ref b10), .val (.long (q1 + ((q2 * (1000000 : Int64)) - ((q2 * (1000000 : Int64)) + (p5.toInt64))))), .second, .val (.long (q1 + (((q2 + q3) * (1000000 : Int64)) - ((q2 * (1000000 : Int64)) + (p5.toInt64))))), .second, .val (.long ((q1 + q4) + (((q2 + q3) * (1000000 : Int64)) - (((q2 * (1000000 : Int64)) + (p5.toInt64)) + q4)))), .second] [(.long ((q1 + q4) + (((q2 + q3) * (1000000 : Int64)) - (((q2 * (1000000 : Int64)) + (p5.toInt64)) + q4))))]))
  refine Run.go (fun _ k => XS.lload X19.here hx rfl (hb hby at_102) rfl  k) ?_
  show Run p e below s 2 4 (Q_rm0 Z q1 q2 q3 q4 p5 h0 n0) (T19.setTop (mkF m 104 #[.val (.long q1), .second, .val (.long q2), .second, .val (.long q3), .second, .val (.long q4), .second, .val (.int p5), .val (.long ((q2 * (1000000 : Int64)) + (p5.toInt64))), .second, .val (.ref b6), .val (.ref b10), .val (.long (q1 + ((q2 * (1000000 : Int64)) - ((q2 * (1000000 : Int64)) + (p5.toInt64))))), .second, .val (.long (q1 + (((q2 + q3) * (1000000 : Int64)) - ((q2 * (1000000 : Int64)) + (p5.toInt64))))), .second, .val (.long ((q1 + q4) + (((q2 + q3) * (1000000 : Int64)) - (((q2 * (1000000 : Int64)) + (p5.toInt64)) + q4)))), .second] [(.long (q1 + (((q2 + q3) * (1000000 : Int64)) - ((q2 * (1000000 : Int64)) + (p5.toInt64))))), (.long ((q1 + q4) + (((q2 + q3) * (1000000 : Int64)) - (((q2 * (1000000 : Int64)) + (p5.toInt64)) + q4))))]))
  refine Run.go (fun _ k => XS.lcmp X19.here hx rfl (hb hby at_104) rfl k) ?_
  show Run p e below s 2 4 (Q_rm0 Z q1 q2 q3 q4 p5 h0 n0) (T19.setTop (mkF m 105 #[.val (.long q1), .second, .val (.long q2), .second, .val (.long q3), .second, .val (.long q4), .second, .val (.int p5), .val (.long ((q2 * (1000000 : Int64)) + (p5.toInt64))), .second, .val (.ref b6), .val (.ref b10), .val (.long (q1 + ((q2 * (1000000 : Int64)) - ((q2 * (1000000 : Int64)) + (p5.toInt64))))), .second, .val (.long (q1 + (((q2 + q3) * (1000000 : Int64)) - ((q2 * (1000000 : Int64)) + (p5.toInt64))))), .second, .val (.long ((q1 + q4) + (((q2 + q3) * (1000000 : Int64)) - (((q2 * (1000000 : Int64)) + (p5.toInt64)) + q4)))), .second] [(.int (lcmpW ((q1 + q4) + (((q2 + q3) * (1000000 : Int64)) - (((q2 * (1000000 : Int64)) + (p5.toInt64)) + q4))) (q1 + (((q2 + q3) * (1000000 : Int64)) - ((q2 * (1000000 : Int64)) + (p5.toInt64))))))]))
  refine Run.go (fun _ k => XS.ifNo X19.here hx rfl (hb hby at_105) rfl ((if0 _ _).trans (teq ((lw_eq ((q1 + q4) + (((q2 + q3) * (1000000 : Int64)) - (((q2 * (1000000 : Int64)) + (p5.toInt64)) + q4))) (q1 + (((q2 + q3) * (1000000 : Int64)) - ((q2 * (1000000 : Int64)) + (p5.toInt64))))).mpr (own_3 _ _ _ _))).2) k) ?_
  show Run p e below s 2 4 (Q_rm0 Z q1 q2 q3 q4 p5 h0 n0) (T19.setTop (mkF m 108 #[.val (.long q1), .second, .val (.long q2), .second, .val (.long q3), .second, .val (.long q4), .second, .val (.int p5), .val (.long ((q2 * (1000000 : Int64)) + (p5.toInt64))), .second, .val (.ref b6), .val (.ref b10), .val (.long (q1 + ((q2 * (1000000 : Int64)) - ((q2 * (1000000 : Int64)) + (p5.toInt64))))), .second, .val (.long (q1 + (((q2 + q3) * (1000000 : Int64)) - ((q2 * (1000000 : Int64)) + (p5.toInt64))))), .second, .val (.long ((q1 + q4) + (((q2 + q3) * (1000000 : Int64)) - (((q2 * (1000000 : Int64)) + (p5.toInt64)) + q4)))), .second] []))
  refine Run.go (fun _ k => XS.iconst X19.here hx rfl (hb hby at_108) k) ?_
  show Run p e below s 2 4 (Q_rm0 Z q1 q2 q3 q4 p5 h0 n0) (T19.setTop (mkF m 109 #[.val (.long q1), .second, .val (.long q2), .second, .val (.long q3), .second, .val (.long q4), .second, .val (.int p5), .val (.long ((q2 * (1000000 : Int64)) + (p5.toInt64))), .second, .val (.ref b6), .val (.ref b10), .val (.long (q1 + ((q2 * (1000000 : Int64)) - ((q2 * (1000000 : Int64)) + (p5.toInt64))))), .second, .val (.long (q1 + (((q2 + q3) * (1000000 : Int64)) - ((q2 * (1000000 : Int64)) + (p5.toInt64))))), .second, .val (.long ((q1 + q4) + (((q2 + q3) * (1000000 : Int64)) - (((q2 * (1000000 : Int64)) + (p5.toInt64)) + q4)))), .second] [(.int (1 : Int32))]))
  refine Run.go (fun _ k => XS.goto X19.here hx rfl (pc0 := 109) (pc' := 113) rfl (hb hby at_109) (by decide) (by decide) k) ?_
  show Run p e below s 2 4 (Q_rm0 Z q1 q2 q3 q4 p5 h0 n0) (T19.setTop (mkF m 113 #[.val (.long q1), .second, .val (.long q2), .second, .val (.long q3), .second, .val (.long q4), .second, .val (.int p5), .val (.long ((q2 * (1000000 : Int64)) + (p5.toInt64))), .second, .val (.ref b6), .val (.ref b10), .val (.long (q1 + ((q2 * (1000000 : Int64)) - ((q2 * (1000000 : Int64)) + (p5.toInt64))))), .second, .val (.long (q1 + (((q2 + q3) * (1000000 : Int64)) - ((q2 * (1000000 : Int64)) + (p5.toInt64))))), .second, .val (.long ((q1 + q4) + (((q2 + q3) * (1000000 : Int64)) - (((q2 * (1000000 : Int64)) + (p5.toInt64)) + q4)))), .second] [(.int (1 : Int32))]))
  exact Run.retN (y := 1) X19 hx (t := .boolean) Bd.returns (by simp) rfl Bd.notSynchronized (hb hby at_113) (by decide) (by decide) ⟨rfl, N19⟩
set_option maxRecDepth 65536 in
set_option maxHeartbeats 40000000 in
theorem comes_1 {Post : Tables → Env → Array Value → State → Outcome → State → Prop} (hpost : ∀ tb e args s v u, (limb_1_1.after args s (.returned v) u = true ∧ limb_1_2.after args s (.returned v) u = true ∧ True) → FrameEnd s (.returned v) u (Jvm.fieldLocs frame_1_writes args s ++ Jvm.arrayLocs frame_1_arrays args s ++ Jvm.staticLocs frame_1_statics s) 16 128 → Post tb e args s (.returned v) u) :
    ArmFor flags0 classFile x code maxLocals ret World_1 tables_1 room_1 Calls_1 rest_1 Pre_1 Post := by
  intro l hfl _ _ p e ha hc hk s m args below hf hA hF happ hP
  obtain ⟨hcalls, hrest, hpre⟩ := hP
  obtain ⟨-, -, -, hnamed, -, -, -, hat⟩ := (Spec.applies_iff hf).mp happ
  obtain ⟨hg, hn⟩ := and_e (Cond.before_iff.mp (show (Jvm.Cond.and given_1 narrow_1).before args s = true from hpre))
  obtain ⟨g1, g2⟩ := and_e hg
  obtain ⟨g3, g4⟩ := and_e g2
  obtain ⟨g5, g6⟩ := and_e g4
  obtain ⟨g7, g8⟩ := and_e g6
  obtain ⟨g9, g10⟩ := and_e g8
  obtain ⟨w0, w1, w2, w3, w4, rfl⟩ : ∃ w0 w1 w2 w3 w4 : Value, args = #[w0, w1, w2, w3, w4] := by
    have hs : args.size = 5 := by simpa [Cond.value, given_1] using g1
    obtain ⟨L⟩ := args
    match L, hs with
    | [w0, w1, w2, w3, w4], _ => exact ⟨w0, w1, w2, w3, w4, rfl⟩
  have hw := fun d (hd : d ∈ tables_1) => atoms_spec (ws := Jvm.Cond.code x code maxLocals ret :: tables_1) hat d (List.mem_cons_of_mem _ hd)
  have hfit : Fit s := fun {y c} hc i hi => by
    obtain ⟨ha, rfl⟩ := Array.getElem?_eq_some_iff.mp hc
    have q := List.all_eq_true.mp ((Array.all_eq_true_iff_forall_mem.mp hF) _ (Array.getElem_mem ha)) i (List.mem_range.mpr hi)
    simpa [Array.getElem?_eq_getElem hi] using q
  obtain ⟨i0, ei0⟩ := isL_v g3
  obtain rfl : w0 = (.long i0) := Option.some.inj ei0
  obtain ⟨i1, ei1⟩ := isL_v g5
  obtain rfl : w1 = (.long i1) := Option.some.inj ei1
  obtain ⟨i2, ei2⟩ := isL_v g7
  obtain rfl : w2 = (.long i2) := Option.some.inj ei2
  obtain ⟨i3, ei3⟩ := isL_v g9
  obtain rfl : w3 = (.long i3) := Option.some.inj ei3
  obtain ⟨i4, ei4⟩ := is_v g10
  obtain rfl : w4 = (.int i4) := Option.some.inj ei4
  obtain ⟨n, o, h1, h2, h3, _, L, rfl, ⟨rfl, N⟩, hq⟩ := rm0 l s _ hw tables_1 i0 i1 i2 i3 i4 s.heap s.heap.size (Nat.le_refl _)  p e ha hc hk s m _ below hf ((Spec.applies_iff_loose hf).mp happ).1 ⟨rfl, State.Warmed39.refl s, rfl⟩ trivial
  refine ⟨n, _, h1, h2, h3, hpost _ _ _ _ _ _ ⟨Cond.after_iff.mpr rfl, Cond.after_iff.mpr (eq_i res_at (Term.int_eval (1)) rfl), trivial⟩ ⟨hq.1, hq.2.1, (hq.2.2.sift fun y hy => Or.inr (N y hy)).mono (by decide) (by decide)⟩⟩
theorem main_1_1 : Claimed_1_1 := comes_1 fun _ _ _ _ _ _ h hF => ⟨h.1, hF⟩
theorem main_1_2 : Claimed_1_2 := comes_1 fun _ _ _ _ _ _ h hF => ⟨h.2.1, hF⟩
end Jvm.Pilot.@@N@@
namespace Jvm.Pilot.@@N@@
open Jvm Jvm.ClassFile Sem Op Lib Jvm.Free Jvm.Stand Jvm.Pilot.@@N@@.Jvm.D
/-! MADE BY PROGRAM (witnessworld.py) out of the Statement's table words and the real class files: 10 classes; the members and pool entries that the words name. The judged class is class 1, her method 1. -/
namespace start1
open Jvm.ClassFile
def u (s : String) : CpInfo := .utf8 (stringToUtf16 s)
/-- a pool by its gaps: so many unusable entries, then the entry; so many at the end -/
def gap : Nat → List CpInfo → List CpInfo
  | 0, r => r
  | n + 1, r => .unusable :: gap n r
def poolList (es : List (Nat × CpInfo)) (last : Nat) : List CpInfo := es.foldr (fun e r => gap e.1 (e.2 :: r)) (gap last [])
def pool (es : List (Nat × CpInfo)) (last : Nat) : Array CpInfo := ⟨poolList es last⟩
def fileOf (pool : Array CpInfo) (this : Nat) (attrs : Array Attribute := #[]) (ms : Array MethodInfo := #[]) (fl : Nat := 33) (sup : Nat := 0) (ifs : Array Nat := #[]) (fds : Array FieldInfo := #[]) : ClassFile where
  minorVersion := 0
  majorVersion := 65
  constantPool := pool
  accessFlags := fl
  thisClass := this
  superClass := sup
  interfaces := ifs
  fields := fds
  methods := ms
  attributes := attrs
def plain (name : String) (sup : Option ClassId) : Class where
  name := name
  kind := .ordinary
  loader := none
  accessFlags := 33
  super := sup
  interfaces := #[]
  cf := none
  fields := #[]
  methods := #[]
  instanceTypes := #[]
  staticTypes := #[]
  resolved := #[]
  callSites := []
  init := .initialized
  statics := none
  mirror := none

def pool0 : Array CpInfo := pool [(5, u "<init>"), (0, u "()V"), (1, .class_ 10), (1, u "java/lang/Object")] 113

def k0c0 : Code := { maxStack := 0, maxLocals := 1, code := object_method_1_code, exceptionTable := #[], attributes := #[] }
def k0m0 : Method := { name := "<init>", desc := "()V", sig := { parameters := [], returnType := none }, accessFlags := 1, code := some k0c0 }
/-- java/lang/Object -/
def k0 : Class := { plain "java/lang/Object" none with
  accessFlags := 33
  interfaces := #[]
  cf := some (fileOf pool0 8 #[] #[{ accessFlags := 1, nameIndex := 5, descriptorIndex := 6, attributes := #[] }] 33 0 #[] #[])
  fields := #[]
  methods := #[k0m0]
  instanceTypes := #[]
  staticTypes := #[]
  resolved := Array.replicate 124 none
  statics := none }

def pool1 : Array CpInfo := pool [(2, .class_ 4), (1, u "java/lang/Object"), (0, u "<init>"), (0, u "()V"), (0, .long 1000000), (1, .class_ 10), (0, u "com/example/hyra/hyra/Instants"), (0, .methodref 9 12), (0, .nameAndType 5 13), (0, u "(JJ)V"), (0, .methodref 9 15), (0, .nameAndType 16 17), (0, u "nanosAt"), (0, u "(J)J"), (0, .class_ 19), (0, u "com/example/hyra/hyra/InstantsNanosAtPinLaw"), (2, u "law"), (0, u "(JJJJI)Z")] 3

def k1m0 : Method := { name := "<init>", desc := "()V", sig := { parameters := [], returnType := none }, accessFlags := 1, code := none }
def k1c1 : Code := { maxStack := 8, maxLocals := 19, code := code, exceptionTable := #[], attributes := #[] }
def k1m1 : Method := { name := "law", desc := "(JJJJI)Z", sig := { parameters := [.long, .long, .long, .long, .int], returnType := some .boolean }, accessFlags := 9, code := some k1c1 }
/-- com/example/hyra/hyra/InstantsNanosAtPinLaw -/
def k1 : Class := { plain "com/example/hyra/hyra/InstantsNanosAtPinLaw" (some 0) with
  accessFlags := 49
  interfaces := #[]
  cf := some (fileOf pool1 18 #[] #[{ accessFlags := 1, nameIndex := 5, descriptorIndex := 6, attributes := #[] }, { accessFlags := 9, nameIndex := 22, descriptorIndex := 23, attributes := #[] }] 49 2 #[] #[])
  fields := #[]
  methods := #[k1m0, k1m1]
  instanceTypes := #[]
  staticTypes := #[]
  resolved := Array.replicate 27 none
  statics := none }

def pool2 : Array CpInfo := pool [(1, .methodref 2 3), (0, .class_ 4), (0, .nameAndType 5 6), (0, u "java/lang/Object"), (0, u "<init>"), (0, u "()V"), (0, .class_ 8), (0, u "java/lang/Record")] 13

def k2c0 : Code := { maxStack := 1, maxLocals := 1, code := jdk_30_method_1_code, exceptionTable := #[], attributes := #[] }
def k2m0 : Method := { name := "<init>", desc := "()V", sig := { parameters := [], returnType := none }, accessFlags := 4, code := some k2c0 }
/-- java/lang/Record -/
def k2 : Class := { plain "java/lang/Record" (some 0) with
  accessFlags := 1057
  interfaces := #[]
  cf := some (fileOf pool2 7 #[] #[{ accessFlags := 4, nameIndex := 5, descriptorIndex := 6, attributes := #[] }] 1057 2 #[] #[])
  fields := #[]
  methods := #[k2m0]
  instanceTypes := #[]
  staticTypes := #[]
  resolved := Array.replicate 22 none
  statics := none }

def pool3 : Array CpInfo := pool [(1, .methodref 2 3), (0, .class_ 4), (0, .nameAndType 5 6), (0, u "java/lang/Record"), (0, u "<init>"), (0, u "()V"), (0, .fieldref 8 9), (0, .class_ 10), (0, .nameAndType 11 12), (0, u "com/example/hyra/hyra/Instants"), (0, u "monotonicNanos"), (0, u "J"), (0, .fieldref 8 14), (0, .nameAndType 15 12), (0, u "wallNanos"), (23, u "(JJ)V"), (7, .long 1000000), (19, u "nanosAt"), (0, u "(J)J")] 23

def k3c0 : Code := { maxStack := 3, maxLocals := 5, code := prog_19_method_1_code, exceptionTable := #[], attributes := #[] }
def k3m0 : Method := { name := "<init>", desc := "(JJ)V", sig := { parameters := [.long, .long], returnType := none }, accessFlags := 0, code := some k3c0 }
def k3c1 : Code := { maxStack := 6, maxLocals := 3, code := prog_19_method_5_code, exceptionTable := #[], attributes := #[] }
def k3m1 : Method := { name := "nanosAt", desc := "(J)J", sig := { parameters := [.long], returnType := some .long }, accessFlags := 0, code := some k3c1 }
/-- com/example/hyra/hyra/Instants -/
def k3 : Class := { plain "com/example/hyra/hyra/Instants" (some 2) with
  accessFlags := 48
  interfaces := #[]
  cf := some (fileOf pool3 8 #[] #[{ accessFlags := 0, nameIndex := 5, descriptorIndex := 39, attributes := #[] }, { accessFlags := 0, nameIndex := 67, descriptorIndex := 68, attributes := #[] }] 48 2 #[] #[{ accessFlags := 18, nameIndex := 11, descriptorIndex := 12, attributes := #[] }, { accessFlags := 18, nameIndex := 15, descriptorIndex := 12, attributes := #[] }])
  fields := #[{ name := "monotonicNanos", type := .long, accessFlags := 18, slot := 0, constantValue := 0 }, { name := "wallNanos", type := .long, accessFlags := 18, slot := 1, constantValue := 0 }]
  methods := #[k3m0, k3m1]
  instanceTypes := #[.long, .long]
  staticTypes := #[]
  resolved := Array.replicate 92 none
  statics := none }

def pool4 : Array CpInfo := pool [(1, u "java/lang/Cloneable"), (0, .class_ 1), (0, u "java/lang/Object"), (0, .class_ 3)] 3

/-- java/lang/Cloneable -/
def k4 : Class := { plain "java/lang/Cloneable" (some 0) with
  accessFlags := 1537
  interfaces := #[]
  cf := some (fileOf pool4 2 #[] #[] 1537 4 #[] #[])
  fields := #[]
  methods := #[]
  instanceTypes := #[]
  staticTypes := #[]
  resolved := Array.replicate 8 none
  statics := none }

def pool5 : Array CpInfo := pool [(1, u "java/io/Serializable"), (0, .class_ 1), (0, u "java/lang/Object"), (0, .class_ 3)] 3

/-- java/io/Serializable -/
def k5 : Class := { plain "java/io/Serializable" (some 0) with
  accessFlags := 1537
  interfaces := #[]
  cf := some (fileOf pool5 2 #[] #[] 1537 4 #[] #[])
  fields := #[]
  methods := #[]
  instanceTypes := #[]
  staticTypes := #[]
  resolved := Array.replicate 8 none
  statics := none }

/-- the primitive byte -/
def k6 : Class := { plain "byte" none with kind := .primitive 'B', accessFlags := 0x411 }
/-- [B -/
def k7 : Class := { plain "[B" (some 0) with kind := .array 6 .byte, interfaces := #[4, 5], accessFlags := 1041 }

/-- the primitive int -/
def k8 : Class := { plain "int" none with kind := .primitive 'I', accessFlags := 0x411 }
/-- [I -/
def k9 : Class := { plain "[I" (some 0) with kind := .array 8 .int, interfaces := #[4, 5], accessFlags := 1041 }

def heap : Heap := #[]
def classes : Array Class := #[k0, k1, k2, k3, k4, k5, k6, k7, k8, k9]
def interned : List (Array UInt16 × Addr) := []
def slotsUsed : Nat := 0
def theMethod : MethodId := ⟨1, 1⟩
def args0 : Array Value := #[.long 5, .long 3, .long 2, .long 1, .int 4]
def aboutOver (below : List Frame) : State where
  vm := { classes := classes, interned := interned.toArray }
  heap := heap
  slotsUsed := slotsUsed
  threads := #[{ frames := .invoking theMethod args0 :: below }]
def below0 : List Frame := [.native { method := ⟨0, 0⟩, args := #[] }]
def about1 : State := aboutOver below0
def p0 : Program := .bare "" "" ""
def e0 : Env := launch0.env 0 0 0
theorem w_frames : about1.frames = Frame.invoking theMethod args0 :: below0 := rfl
set_option maxRecDepth 65536 in
theorem w_args : argsFit about1.vm theMethod args0 = true := by decide +kernel
set_option maxRecDepth 65536 in
theorem w_heap : heapFits about1 = true := by decide +kernel
set_option maxRecDepth 65536 in
theorem w_runnable : about1.curStatus? = some .runnable := by decide +kernel
set_option maxRecDepth 65536 in
theorem w_alone : about1.alone = true := by decide +kernel
set_option maxRecDepth 65536 in
theorem w_named : about1.methodNamed? x = some theMethod := by decide +kernel
set_option maxRecDepth 65536 in
theorem w_hears : about1.hears theMethod below0 = true := by decide +kernel
set_option maxRecDepth 65536 in
theorem w_ripe : about1.ripe theMethod args0 below0 = true := by decide +kernel
theorem w_running : about1.status = .running := rfl
set_option maxRecDepth 65536 in
theorem w_room : about1.hasRoom e0.platform room_1 = true :=
  launch0.hasRoom_least _ room_1 (by decide +kernel) (by decide +kernel) (by decide +kernel) (by decide +kernel) (by decide +kernel) (by decide +kernel)
theorem allAtoms_all (ts : List Jvm.Cond) (a : Array Jvm.Value) (st : Jvm.State) : (allAtoms ts).before a st = ts.all (fun c => c.before a st) := by
  induction ts with
  | nil => rfl
  | cons c t ih =>
    show (Jvm.Cond.and c (allAtoms t)).before a st = _
    rw [Jvm.Cond.before_and, ih, List.all_cons]
def words1 : List Jvm.Cond := Jvm.Cond.code x code maxLocals ret :: tables_1
/-- a 'code' word, met by the world's own term for the bytes: nothing is compared byte by byte -/
theorem code_word {y : MethodName} {bytes : ByteArray} {mx : Nat} {rt : Option FieldType} {a : Array Value} {s : State} {m : MethodId} {meth : Method} {c : Code} (h1 : s.methodNamed? y = some m) (h2 : s.vm.method? m = some meth) (h3 : meth.code = some c) (h4 : c.code = bytes)
    (h5 : (c.maxLocals == mx && c.exceptionTable.isEmpty && decide (c.maxStack ≤ mostOperands) && decide (meth.sig.returnType = rt) && !meth.locks && decide (parseMethodDescriptor y.desc = some meth.sig)) = true) : (Jvm.Cond.code y bytes mx rt).before a s = true := by
  simp only [Bool.and_eq_true, beq_iff_eq, Bool.not_eq_true', decide_eq_true_eq] at h5
  obtain ⟨⟨⟨⟨⟨g1, g2⟩, g3⟩, g4⟩, g5⟩, g6⟩ := h5
  simp [Cond.before, Cond.holds, Cond.value, h1, h2, h3, h4, g1, g2, g3, g4, g5, g6]
def isCode : Jvm.Cond → Bool
  | .code _ _ _ _ => true
  | _ => false
theorem all_split {L : List Jvm.Cond} {P : Jvm.Cond → Bool} (h1 : L.all (fun c => isCode c || P c) = true) (h2 : ∀ c ∈ L.filter isCode, P c = true) : L.all P = true := by
  refine List.all_eq_true.mpr fun c hc => ?_
  have h := List.all_eq_true.mp h1 c hc
  rcases Bool.eq_false_or_eq_true (isCode c) with hi | hi
  · exact h2 c (List.mem_filter.mpr ⟨hc, hi⟩)
  · simpa [hi] using h
set_option maxRecDepth 65536 in
theorem w_c0 : (Jvm.Cond.code x code maxLocals ret).before args0 about1 = true := code_word (m := ⟨1, 1⟩) (meth := k1m1) (c := k1c1) (by decide +kernel) rfl rfl rfl (by decide +kernel)
set_option maxRecDepth 65536 in
theorem w_c1 : (Jvm.Cond.code ({ cls := "com/example/hyra/hyra/Instants", name := "<init>", desc := "(JJ)V" } : Jvm.MethodName) prog_19_method_1_code (5 : Nat) (Option.none : Option Jvm.ClassFile.FieldType)).before args0 about1 = true := code_word (m := ⟨3, 0⟩) (meth := k3m0) (c := k3c0) (by decide +kernel) rfl rfl rfl (by decide +kernel)
set_option maxRecDepth 65536 in
theorem w_c2 : (Jvm.Cond.code ({ cls := "java/lang/Record", name := "<init>", desc := "()V" } : Jvm.MethodName) jdk_30_method_1_code (1 : Nat) (Option.none : Option Jvm.ClassFile.FieldType)).before args0 about1 = true := code_word (m := ⟨2, 0⟩) (meth := k2m0) (c := k2c0) (by decide +kernel) rfl rfl rfl (by decide +kernel)
set_option maxRecDepth 65536 in
theorem w_c3 : (Jvm.Cond.code ({ cls := "java/lang/Object", name := "<init>", desc := "()V" } : Jvm.MethodName) object_method_1_code (1 : Nat) (Option.none : Option Jvm.ClassFile.FieldType)).before args0 about1 = true := code_word (m := ⟨0, 0⟩) (meth := k0m0) (c := k0c0) (by decide +kernel) rfl rfl rfl (by decide +kernel)
set_option maxRecDepth 65536 in
theorem w_c4 : (Jvm.Cond.code ({ cls := "com/example/hyra/hyra/Instants", name := "nanosAt", desc := "(J)J" } : Jvm.MethodName) prog_19_method_5_code (3 : Nat) (Option.some Jvm.ClassFile.FieldType.long)).before args0 about1 = true := code_word (m := ⟨3, 1⟩) (meth := k3m1) (c := k3c1) (by decide +kernel) rfl rfl rfl (by decide +kernel)
def codes1 : List Jvm.Cond := [Jvm.Cond.code x code maxLocals ret, Jvm.Cond.code ({ cls := "com/example/hyra/hyra/Instants", name := "<init>", desc := "(JJ)V" } : Jvm.MethodName) prog_19_method_1_code (5 : Nat) (Option.none : Option Jvm.ClassFile.FieldType), Jvm.Cond.code ({ cls := "java/lang/Record", name := "<init>", desc := "()V" } : Jvm.MethodName) jdk_30_method_1_code (1 : Nat) (Option.none : Option Jvm.ClassFile.FieldType), Jvm.Cond.code ({ cls := "java/lang/Object", name := "<init>", desc := "()V" } : Jvm.MethodName) object_method_1_code (1 : Nat) (Option.none : Option Jvm.ClassFile.FieldType), Jvm.Cond.code ({ cls := "com/example/hyra/hyra/Instants", name := "nanosAt", desc := "(J)J" } : Jvm.MethodName) prog_19_method_5_code (3 : Nat) (Option.some Jvm.ClassFile.FieldType.long)]
set_option maxRecDepth 65536 in
theorem codes_eq : words1.filter isCode = codes1 := rfl
theorem w_codes : ∀ c ∈ words1.filter isCode, c.before args0 about1 = true := by
  rw [codes_eq]
  intro c hc
  simp only [codes1, List.mem_cons, List.not_mem_nil, or_false] at hc
  rcases hc with rfl | rfl | rfl | rfl | rfl
  · exact w_c0
  · exact w_c1
  · exact w_c2
  · exact w_c3
  · exact w_c4
set_option maxRecDepth 65536 in
theorem w_t1 : (words1.take 24).all (fun c => isCode c || c.before args0 about1) = true := by decide +kernel
set_option maxRecDepth 65536 in
theorem w_t2 : (words1.drop 24).all (fun c => isCode c || c.before args0 about1) = true := by decide +kernel
theorem w_tables : (allAtoms (Jvm.Cond.code x code maxLocals ret :: tables_1)).before args0 about1 = true := by
  rw [allAtoms_all]
  show words1.all (fun c => c.before args0 about1) = true
  refine all_split ?_ w_codes
  rw [← List.take_append_drop 24 words1, List.all_append, w_t1, w_t2]
  rfl
set_option maxRecDepth 65536 in
theorem w_case : (Jvm.Cond.and given_1 narrow_1).before args0 about1 = true := by decide +kernel
theorem w_applies : (headSpec (Jvm.Cond.code x code maxLocals ret :: tables_1) room_1).applies x e0.platform about1 = true :=
  (Spec.applies_iff w_frames).mpr ⟨w_running, w_runnable, w_alone, w_named, w_hears, w_ripe, w_room, w_tables⟩
theorem atStart : AtStart classFile x code maxLocals ret World_1 tables_1 room_1 Calls_1 rest_1 Pre_1 launch0 p0 e0 about1 theMethod args0 below0 :=
  ⟨lists_1, trivial, launch0.admits_env _ _ _, launch0.least_env, fairChoices_fair.cas, fairChoices_fair.clock, w_frames, w_args, w_heap, w_applies, trivial, trivial, w_case⟩
end start1
theorem witness_1 : WitnessClaimed_1 := ⟨start1.p0, start1.e0, start1.about1, start1.theMethod, start1.args0, start1.below0, start1.atStart⟩
end Jvm.Pilot.@@N@@
