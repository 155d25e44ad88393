import JvmDerived
import JvmDerived.Pilot.@@N@@Statement
import JvmDerived.Pilot.@@N@@Code
set_option linter.unusedVariables false
set_option linter.unusedSimpArgs false
namespace Jvm.Pilot.@@N@@
open Jvm Jvm.ClassFile Sem Op Lib Jvm.Free Jvm.Stand Jvm.LawKit Jvm.RoadKit Bundle Jvm.Pilot.@@N@@.Jvm.D
section Own
variable {p : Program} {l : Launch} {e : Env} {R : Room} {s : State} {m : MethodId} {args : Array Value} {below : List Frame} {meth : Method} {c : Code} {T : State} {locs : List Loc} {cells slots : Nat} {Z : State} {h h' : Heap}
def Run (p : Program) (e : Env) (below : List Frame) (s : State) (C N : Nat) (Q : Option Value → Heap → List Loc → Prop) (S : State) : Prop :=
  ∃ s₂ o, Steps p.tables e below S s₂ ∧ s₂.status = .running ∧ Ended s₂ below o ∧ ∃ v L, o = .returned v ∧ Q v s₂.heap L ∧ FrameEnd s o s₂ L C N
variable {C N : Nat} {Q : Option Value → Heap → List Loc → Prop} {S S' : State}
theorem Run.go (k : ∀ t, Steps p.tables e below S' t → Steps p.tables e below S t) (r : Run p e below s C N Q S') : Run p e below s C N Q S := by
  obtain ⟨s₂, o, h1, r⟩ := r
  exact ⟨s₂, o, k _ h1, r⟩
theorem Run.tr (k : Steps p.tables e below S S') (r : Run p e below s C N Q S') : Run p e below s C N Q S := by
  obtain ⟨s₂, o, h1, r⟩ := r
  exact ⟨s₂, o, k.trans h1, r⟩
theorem Run.retI (X : Stand p l e R s m args below meth c T locs cells slots) (hx : p.tables.exec = Jvm.exec) {pc : Nat} {Ls : Array Slot} {z : Int32} {rest : List Value} (hret : meth.sig.returnType = some .int) (hlk : meth.locks = false) (hd : decode c.code pc = .ok (.ireturn, 1)) (hc : cells ≤ C) (hn : slots ≤ N)
    (hQ : Q (some (.int z)) T.heap locs) : Run p e below s C N Q (T.setTop (mkF m pc Ls (.int z :: rest))) := by
  obtain ⟨fs, hr, hrun, hended, hW, hsame⟩ := X.leave (v := some (.int z)) (fun q => by rw [hret] at q; cases q)
  refine ⟨_, _, ?_, hrun, hended, _, _, rfl, hQ, ⟨_, rfl⟩, hW, hsame.mono hc hn⟩
  have hm' : T.vm.method? m = some meth := X.method'
  have hn : narrow .int (.int z) = .int z := rfl
  show Steps p.tables e below (T.setTop { method := m, pc := pc, locals := Ls, stack := _ :: rest, locked := none }) _
  jvm_step X.here [X.here.top, hx, hd, hm', hret, hn]
  first | (intro acts; rw [hr _ acts rfl rfl rfl]) | rw [hr _ _ rfl rfl rfl]
  exact Steps.refl _
theorem Run.retN (X : Stand p l e R s m args below meth c T locs cells slots) (hx : p.tables.exec = Jvm.exec) {pc : Nat} {Ls : Array Slot} {z y : Int32} {t : FieldType} {rest : List Value} (hret : meth.sig.returnType = some t) (ht : t = .boolean ∨ t = .byte ∨ t = .char ∨ t = .short) (hy : nar t z = y) (hlk : meth.locks = false) (hd : decode c.code pc = .ok (.ireturn, 1)) (hc : cells ≤ C) (hn : slots ≤ N)
    (hQ : Q (some (.int y)) T.heap locs) : Run p e below s C N Q (T.setTop (mkF m pc Ls (.int z :: rest))) := by
  subst hy
  obtain ⟨fs, hr, hrun, hended, hW, hsame⟩ := X.leave (v := some (.int (nar t z))) (fun q => by rw [hret] at q; cases q)
  exact ⟨_, _, Jvm.RoadKit.retN X hx hret ht hd hr, hrun, hended, _, _, rfl, hQ, ⟨_, rfl⟩, hW, hsame.mono hc hn⟩
theorem Run.retJ (X : Stand p l e R s m args below meth c T locs cells slots) (hx : p.tables.exec = Jvm.exec) {pc : Nat} {Ls : Array Slot} {z : Int64} {rest : List Value} (hret : meth.sig.returnType = some .long) (hlk : meth.locks = false) (hd : decode c.code pc = .ok (.lreturn, 1)) (hc : cells ≤ C) (hn : slots ≤ N)
    (hQ : Q (some (.long z)) T.heap locs) : Run p e below s C N Q (T.setTop (mkF m pc Ls (.long z :: rest))) := by
  obtain ⟨fs, hr, hrun, hended, hW, hsame⟩ := X.leave (v := some (.long z)) (fun q => by rw [hret] at q; cases q)
  refine ⟨_, _, ?_, hrun, hended, _, _, rfl, hQ, ⟨_, rfl⟩, hW, hsame.mono hc hn⟩
  have hm' : T.vm.method? m = some meth := X.method'
  show Steps p.tables e below (T.setTop { method := m, pc := pc, locals := Ls, stack := _ :: rest, locked := none }) _
  jvm_step X.here [X.here.top, hx, hd, hm', hret, narrow]
  first | (intro acts; rw [hr _ acts rfl rfl rfl]) | rw [hr _ _ rfl rfl rfl]
  exact Steps.refl _
theorem Run.retA (X : Stand p l e R s m args below meth c T locs cells slots) (hx : p.tables.exec = Jvm.exec) {pc : Nat} {Ls : Array Slot} {w : Value} {t : FieldType} {rest : List Value} (hw : w.isRef = true) (hret : meth.sig.returnType = some t) (ht : t.isReference = true) (hlk : meth.locks = false) (hd : decode c.code pc = .ok (.areturn, 1)) (hc : cells ≤ C) (hn : slots ≤ N)
    (hQ : Q (some w) T.heap locs) : Run p e below s C N Q (T.setTop (mkF m pc Ls (w :: rest))) := by
  obtain ⟨fs, hr, hrun, hended, hW, hsame⟩ := X.leave (v := some w) (fun q => by rw [hret] at q; cases q)
  refine ⟨_, _, ?_, hrun, hended, _, _, rfl, hQ, ⟨_, rfl⟩, hW, hsame.mono hc hn⟩
  have hm' : T.vm.method? m = some meth := X.method'
  show Steps p.tables e below (T.setTop { method := m, pc := pc, locals := Ls, stack := _ :: rest, locked := none }) _
  rcases ref_cases hw with rfl | ⟨a, rfl⟩
  all_goals
    jvm_step X.here [X.here.top, hx, hd, hm', hret, Value.isRef, ht]
    first | (intro acts; rw [hr _ acts rfl rfl rfl]) | rw [hr _ _ rfl rfl rfl]
    exact Steps.refl _
theorem Run.ret0 (X : Stand p l e R s m args below meth c T locs cells slots) (hx : p.tables.exec = Jvm.exec) {pc : Nat} {Ls : Array Slot} (hret : meth.sig.returnType = none) (hlk : meth.locks = false) (hd : decode c.code pc = .ok (.return_, 1)) (hc : cells ≤ C) (hn : slots ≤ N)
    (hQ : Q none T.heap locs) : Run p e below s C N Q (T.setTop (mkF m pc Ls [])) := by
  obtain ⟨fs, hr, hrun, hended, hW, hsame⟩ := X.leave (v := none) (fun _ => rfl)
  exact ⟨_, _, X.returnOut hx hret hd hr, hrun, hended, _, _, rfl, hQ, ⟨_, rfl⟩, hW, hsame.mono hc hn⟩
theorem Sta.keep {C n d : String} {w : Value} {ws : List Addr} (F : Sta Z h C n d w) (K : Keep h h' ws) (q : ∀ x ∈ ws, ∀ c : Cell, h[x]? = some c → c.vm.isStatics = false) : Sta Z h' C n d w := by
  obtain ⟨cf, i, k, f, st, cell, h1, h2, h3, h4, h5, h6, h7⟩ := F
  refine ⟨cf, i, k, f, st, cell, h1, h2, h3, h4, K.2.1 st cell h5 (fun hm => ?_), h6, h7⟩
  rw [q st hm cell h5] at h6; cases h6
theorem Exa.nst {a : Addr} {C : String} (F : Exa Z h a C) : ∀ c : Cell, h[a]? = some c → c.vm.isStatics = false := fun c q => by
  obtain ⟨cell, k, h1, -, -, h4, -⟩ := F
  cases h1.symm.trans q; exact h4
/-- an array of n elements, the i-th is f i -/
def Ary (Z : State) (h : Heap) (a : Addr) (ty : FieldType) (n : Nat) (f : Nat → Value) : Prop := ∃ c : Cell, Arr Z h a c ty ∧ c.slots.size = n ∧ ∀ i, i < n → c.slots[i]? = some (f i)
variable {a b : Addr} {ty : FieldType} {n sl : Nat} {f : Nat → Value} {v : Value} {ws : List Addr}
theorem Ary.lt (F : Ary Z h a ty n f) : a < h.size := by obtain ⟨c, A, -⟩ := F; exact A.lt
theorem Ary.ext (F : Ary Z h a ty n f) (E : Ext h h') : Ary Z h' a ty n f := by obtain ⟨c, A, r⟩ := F; exact ⟨c, A.ext E, r⟩
theorem Ary.other (F : Ary Z h b ty n f) (W : Wr h h' a sl v) (q : b ≠ a) : Ary Z h' b ty n f := by obtain ⟨c, A, r⟩ := F; exact ⟨c, A.other W q, r⟩
theorem Ary.keep (F : Ary Z h a ty n f) (K : Keep h h' ws) (q : a ∉ ws) : Ary Z h' a ty n f := by obtain ⟨c, A, r⟩ := F; exact ⟨c, ⟨K.2.1 a c A.1 q, A.2⟩, r⟩
theorem Ary.ne {C : String} {a0 : Array Value} {k : Nat} (F : Ary Z h a ty n f) (G : Exa Z h b C) (wi : (Jvm.Cond.instantiable C k).before a0 Z = true) : a ≠ b := by
  obtain ⟨c, A, r⟩ := F; exact (ne_arr G wi A).symm
theorem Ary.same (F : Ary Z h a ty n f) (W : Wr h h' a sl v) : Ary Z h' a ty n (fun i => if i = sl then v else f i) := by
  obtain ⟨c, A, hs, hf⟩ := F
  obtain ⟨c1, q1, q2, q3, q4⟩ := W
  obtain rfl := Option.some.inj (q1.symm.trans A.1)
  refine ⟨c1.setSlot sl v, A.same ⟨c1, q1, q2, q3, q4⟩, by simp [Cell.setSlot, hs], fun i hi => ?_⟩
  by_cases e : i = sl
  · subst e; simp [Cell.setSlot, q3]
  · simp only [if_neg e]; rw [← hf i hi]; exact Array.getElem?_setIfInBounds_ne (Ne.symm e)
theorem Ary.nst (F : Ary Z h a ty n f) : ∀ c : Cell, h[a]? = some c → c.vm.isStatics = false := fun c q => by
  obtain ⟨cl, A, -⟩ := F
  cases A.1.symm.trans q; exact A.plain
theorem Ary.congr {g : Nat → Value} (F : Ary Z h a ty n f) (q : ∀ i, i < n → f i = g i) : Ary Z h a ty n g := by
  obtain ⟨c, A, hs, hf⟩ := F; exact ⟨c, A, hs, fun i hi => by rw [hf i hi, q i hi]⟩
theorem Ary.new {k : ClassId} {z : Int32} (A : Arr Z h a (newA k ty z) ty) (q : z.toNatClampNeg = n) : Ary Z h a ty n (fun _ => defaultValue ty) := by
  subst q
  exact ⟨_, A, sz_new _ _ _, fun i hi => by simp [newA, hi]⟩
theorem out_of {j : Int32} {c : Cell} (hs : c.slots.size = n) (h0 : ¬ j < 0) (hj : j.toNatClampNeg < n) : ¬ (j < 0 ∨ c.slots.size ≤ j.toNatClampNeg) := by
  rw [hs]; exact fun q => q.elim h0 (fun q => absurd hj (Nat.not_lt.mpr q))
/-- an array of references: besides, its class is that of arrays over C -/
def ArR (Z : State) (h : Heap) (a : Addr) (C : String) (n : Nat) (f : Nat → Value) : Prop := ∃ c : Cell, Arr Z h a c (.object C) ∧ Ovr Z c.cls C ∧ c.slots.size = n ∧ ∀ i, i < n → c.slots[i]? = some (f i)
variable {K : String}
theorem ArR.lt (F : ArR Z h a K n f) : a < h.size := by obtain ⟨c, A, -⟩ := F; exact A.lt
theorem ArR.ext (F : ArR Z h a K n f) (E : Ext h h') : ArR Z h' a K n f := by obtain ⟨c, A, r⟩ := F; exact ⟨c, A.ext E, r⟩
theorem ArR.other (F : ArR Z h b K n f) (W : Wr h h' a sl v) (q : b ≠ a) : ArR Z h' b K n f := by obtain ⟨c, A, r⟩ := F; exact ⟨c, A.other W q, r⟩
theorem ArR.keep (F : ArR Z h a K n f) (k : Keep h h' ws) (q : a ∉ ws) : ArR Z h' a K n f := by obtain ⟨c, A, r⟩ := F; exact ⟨c, ⟨k.2.1 a c A.1 q, A.2⟩, r⟩
theorem ArR.ary (F : ArR Z h a K n f) : Ary Z h a (.object K) n f := by obtain ⟨c, A, -, r⟩ := F; exact ⟨c, A, r⟩
theorem ArR.same (F : ArR Z h a K n f) (W : Wr h h' a sl v) : ArR Z h' a K n (fun i => if i = sl then v else f i) := by
  obtain ⟨c, A, o, hs, hf⟩ := F
  obtain ⟨c1, q1, q2, q3, q4⟩ := W
  obtain rfl := Option.some.inj (q1.symm.trans A.1)
  refine ⟨c1.setSlot sl v, A.same ⟨c1, q1, q2, q3, q4⟩, o, by simp [Cell.setSlot, hs], fun i hi => ?_⟩
  by_cases e : i = sl
  · subst e; simp [Cell.setSlot, q3]
  · simp only [if_neg e]; rw [← hf i hi]; exact Array.getElem?_setIfInBounds_ne (Ne.symm e)
theorem ArR.new {k : ClassId} {z : Int32} (A : Arr Z h a (newA k (.object K) z) (.object K)) (O : Ovr Z k K) (q : z.toNatClampNeg = n) : ArR Z h a K n (fun _ => .null) := by
  subst q
  exact ⟨_, A, O, sz_new _ _ _, fun i hi => by simp [newA, hi]; rfl⟩
section Arrays
theorem ary_iget (X : Stand p l e R s m args below meth c T locs cells slots) (hx : p.tables.exec = Jvm.exec) (hZ : Z.Warmed39 s.vm) (eT : T.heap = h) (A : Ary Z h a .int n f) {j : Int32} (h0 : ¬ j < 0) (hj : j.toNatClampNeg < n) {g : JFrame} (hg : g.method = m) {rest : List Value} (hs : g.stack = .int j :: .ref a :: rest) (hd : decode c.code g.pc = .ok (.iaload, 1)) {v : Value} (hv : f j.toNatClampNeg = v) (target : State)
    (k : Steps p.tables e below (T.setTop { g with pc := g.pc + 1, stack := v :: rest }) target) : Steps p.tables e below (T.setTop g) target := by
  subst hv; obtain ⟨cl, A, q, F⟩ := A
  exact X.iaload hx (by rw [eT]; exact A.1) (State.isArrayOf_alike hZ.alike A.2.1) A.2.2 (out_of q h0 hj) (F _ hj) hg hs hd target k
theorem ary_lget (X : Stand p l e R s m args below meth c T locs cells slots) (hx : p.tables.exec = Jvm.exec) (hZ : Z.Warmed39 s.vm) (eT : T.heap = h) (A : Ary Z h a .long n f) {j : Int32} (h0 : ¬ j < 0) (hj : j.toNatClampNeg < n) {g : JFrame} (hg : g.method = m) {rest : List Value} (hs : g.stack = .int j :: .ref a :: rest) (hd : decode c.code g.pc = .ok (.laload, 1)) {v : Value} (hv : f j.toNatClampNeg = v) (target : State)
    (k : Steps p.tables e below (T.setTop { g with pc := g.pc + 1, stack := v :: rest }) target) : Steps p.tables e below (T.setTop g) target := by
  subst hv; obtain ⟨cl, A, q, F⟩ := A
  exact X.laload hx (by rw [eT]; exact A.1) (State.isArrayOf_alike hZ.alike A.2.1) A.2.2 (out_of q h0 hj) (F _ hj) hg hs hd target k
theorem ary_bget (X : Stand p l e R s m args below meth c T locs cells slots) (hx : p.tables.exec = Jvm.exec) (hZ : Z.Warmed39 s.vm) (eT : T.heap = h) (A : Ary Z h a .byte n f) {j : Int32} (h0 : ¬ j < 0) (hj : j.toNatClampNeg < n) {g : JFrame} (hg : g.method = m) {rest : List Value} (hs : g.stack = .int j :: .ref a :: rest) (hd : decode c.code g.pc = .ok (.baload, 1)) {v : Value} (hv : f j.toNatClampNeg = v) (target : State)
    (k : Steps p.tables e below (T.setTop { g with pc := g.pc + 1, stack := v :: rest }) target) : Steps p.tables e below (T.setTop g) target := by
  subst hv; obtain ⟨cl, A, q, F⟩ := A
  exact X.baloadBytes hx (by rw [eT]; exact A.1) (State.isArrayOf_alike hZ.alike A.2.1) A.2.2 (out_of q h0 hj) (F _ hj) hg hs hd target k
theorem ary_cget (X : Stand p l e R s m args below meth c T locs cells slots) (hx : p.tables.exec = Jvm.exec) (hZ : Z.Warmed39 s.vm) (eT : T.heap = h) (A : Ary Z h a .char n f) {j : Int32} (h0 : ¬ j < 0) (hj : j.toNatClampNeg < n) {g : JFrame} (hg : g.method = m) {rest : List Value} (hs : g.stack = .int j :: .ref a :: rest) (hd : decode c.code g.pc = .ok (.caload, 1)) {v : Value} (hv : f j.toNatClampNeg = v) (target : State)
    (k : Steps p.tables e below (T.setTop { g with pc := g.pc + 1, stack := v :: rest }) target) : Steps p.tables e below (T.setTop g) target := by
  subst hv; obtain ⟨cl, A, q, F⟩ := A
  exact X.caload hx (by rw [eT]; exact A.1) (State.isArrayOf_alike hZ.alike A.2.1) A.2.2 (out_of q h0 hj) (F _ hj) hg hs hd target k
theorem ary_aget (X : Stand p l e R s m args below meth c T locs cells slots) (hx : p.tables.exec = Jvm.exec) (hZ : Z.Warmed39 s.vm) (eT : T.heap = h) (A : Ary Z h a ty n f) (hr : ty.isReference = true) {j : Int32} (h0 : ¬ j < 0) (hj : j.toNatClampNeg < n) {g : JFrame} (hg : g.method = m) {rest : List Value} (hs : g.stack = .int j :: .ref a :: rest) (hd : decode c.code g.pc = .ok (.aaload, 1)) {v : Value} (hv : f j.toNatClampNeg = v) (target : State)
    (k : Steps p.tables e below (T.setTop { g with pc := g.pc + 1, stack := v :: rest }) target) : Steps p.tables e below (T.setTop g) target := by
  subst hv; obtain ⟨cl, A, q, F⟩ := A
  exact X.aaload hx (by rw [eT]; exact A.1) (State.isArrayOf_alike hZ.alike A.2.1) hr A.2.2 (out_of q h0 hj) (F _ hj) hg hs hd target k
theorem ary_len (X : Stand p l e R s m args below meth c T locs cells slots) (hx : p.tables.exec = Jvm.exec) (hZ : Z.Warmed39 s.vm) (eT : T.heap = h) (A : Ary Z h a ty n f) {g : JFrame} (hg : g.method = m) {rest : List Value} (hs : g.stack = .ref a :: rest) (hd : decode c.code g.pc = .ok (.arraylength, 1)) {z : Int32} (hv : n.toInt32 = z) (target : State)
    (k : Steps p.tables e below (T.setTop { g with pc := g.pc + 1, stack := .int z :: rest }) target) : Steps p.tables e below (T.setTop g) target := by
  subst hv; obtain ⟨cl, A, q, F⟩ := A
  subst q
  exact X.arraylength hx (by rw [eT]; exact A.1) (State.isArrayOf_alike hZ.alike A.2.1) hg hs hd target k
theorem ary_iset (X : Stand p l e R s m args below meth c T locs cells slots) (hx : p.tables.exec = Jvm.exec) (hZ : Z.Warmed39 s.vm) (eT : T.heap = h) (A : Ary Z h a .int n f) {j x : Int32} (h0 : ¬ j < 0) (hj : j.toNatClampNeg < n) {g : JFrame} (hg : g.method = m) {rest : List Value} (hs : g.stack = .int x :: .int j :: .ref a :: rest) (hd : decode c.code g.pc = .ok (.iastore, 1)) :
    ∃ T' h', Stand p l e R s m args below meth c T' (locs ++ [⟨a, j.toNatClampNeg⟩]) cells slots ∧ T'.heap = h' ∧ Wr h h' a j.toNatClampNeg (.int x) ∧ ∀ target, Steps p.tables e below (T'.setTop { g with pc := g.pc + 1, stack := rest }) target → Steps p.tables e below (T.setTop g) target := by
  obtain ⟨cl, A, q, F⟩ := A
  exact stI X hx hZ eT A (out_of q h0 hj) hg hs hd
theorem ary_lset (X : Stand p l e R s m args below meth c T locs cells slots) (hx : p.tables.exec = Jvm.exec) (hZ : Z.Warmed39 s.vm) (eT : T.heap = h) (A : Ary Z h a .long n f) {j : Int32} {x : Int64} (h0 : ¬ j < 0) (hj : j.toNatClampNeg < n) {g : JFrame} (hg : g.method = m) {rest : List Value} (hs : g.stack = .long x :: .int j :: .ref a :: rest) (hd : decode c.code g.pc = .ok (.lastore, 1)) :
    ∃ T' h', Stand p l e R s m args below meth c T' (locs ++ [⟨a, j.toNatClampNeg⟩]) cells slots ∧ T'.heap = h' ∧ Wr h h' a j.toNatClampNeg (.long x) ∧ ∀ target, Steps p.tables e below (T'.setTop { g with pc := g.pc + 1, stack := rest }) target → Steps p.tables e below (T.setTop g) target := by
  obtain ⟨cl, A, q, F⟩ := A
  exact stJ X hx hZ eT A (out_of q h0 hj) hg hs hd
theorem ary_bset (X : Stand p l e R s m args below meth c T locs cells slots) (hx : p.tables.exec = Jvm.exec) (hZ : Z.Warmed39 s.vm) (eT : T.heap = h) (A : Ary Z h a .byte n f) {j x y : Int32} (h0 : ¬ j < 0) (hj : j.toNatClampNeg < n) {g : JFrame} (hg : g.method = m) {rest : List Value} (hs : g.stack = .int x :: .int j :: .ref a :: rest) (hd : decode c.code g.pc = .ok (.bastore, 1)) (hy : x.toInt8.toInt32 = y) :
    ∃ T' h', Stand p l e R s m args below meth c T' (locs ++ [⟨a, j.toNatClampNeg⟩]) cells slots ∧ T'.heap = h' ∧ Wr h h' a j.toNatClampNeg (.int y) ∧ ∀ target, Steps p.tables e below (T'.setTop { g with pc := g.pc + 1, stack := rest }) target → Steps p.tables e below (T.setTop g) target := by
  subst hy; obtain ⟨cl, A, q, F⟩ := A
  exact stB X hx hZ eT A (out_of q h0 hj) hg hs hd
theorem ary_cset (X : Stand p l e R s m args below meth c T locs cells slots) (hx : p.tables.exec = Jvm.exec) (hZ : Z.Warmed39 s.vm) (eT : T.heap = h) (A : Ary Z h a .char n f) {j x y : Int32} (h0 : ¬ j < 0) (hj : j.toNatClampNeg < n) {g : JFrame} (hg : g.method = m) {rest : List Value} (hs : g.stack = .int x :: .int j :: .ref a :: rest) (hd : decode c.code g.pc = .ok (.castore, 1)) (hy : nar .char x = y) :
    ∃ T' h', Stand p l e R s m args below meth c T' (locs ++ [⟨a, j.toNatClampNeg⟩]) cells slots ∧ T'.heap = h' ∧ Wr h h' a j.toNatClampNeg (.int y) ∧ ∀ target, Steps p.tables e below (T'.setTop { g with pc := g.pc + 1, stack := rest }) target → Steps p.tables e below (T.setTop g) target := by
  subst hy; obtain ⟨cl, A, q, F⟩ := A
  exact stC X hx hZ eT A (out_of q h0 hj) hg hs hd
theorem arr_set (X : Stand p l e R s m args below meth c T locs cells slots) (hx : p.tables.exec = Jvm.exec) (hZ : Z.Warmed39 s.vm) (eT : T.heap = h) (A : ArR Z h a K n f) {j : Int32} {y : Addr} (I : Ins Z h y K true) (h0 : ¬ j < 0) (hj : j.toNatClampNeg < n) {g : JFrame} (hg : g.method = m) {rest : List Value} (hs : g.stack = .ref y :: .int j :: .ref a :: rest) (hd : decode c.code g.pc = .ok (.aastore, 1)) :
    ∃ T' h', Stand p l e R s m args below meth c T' (locs ++ [⟨a, j.toNatClampNeg⟩]) cells slots ∧ T'.heap = h' ∧ Wr h h' a j.toNatClampNeg (.ref y) ∧ ∀ target, Steps p.tables e below (T'.setTop { g with pc := g.pc + 1, stack := rest }) target → Steps p.tables e below (T.setTop g) target := by
  obtain ⟨cl, A, O, q, F⟩ := A
  exact stR X hx hZ eT A (out_of q h0 hj) rfl (Sto.of A O I) hg hs hd
end Arrays
theorem nar_ite (P : Prop) [Decidable P] : nar .boolean (if P then (1 : Int32) else 0) = if P then 1 else 0 := by by_cases q : P <;> simp [q] <;> rfl
theorem b_idem (x : Int32) : x.toInt8.toInt32.toInt8.toInt32 = x.toInt8.toInt32 := by rw [Int8.toInt8_toInt32]
theorem isI_c (x : Int32) : ∀ n : Nat, ∃ y, (fun _ => Value.int x) n = Value.int y := fun _ => ⟨x, rfl⟩
theorem isI_s {f : Nat → Value} (q : ∀ n, ∃ y, f n = Value.int y) (k : Nat) (x : Int32) : ∀ n, ∃ y, (fun i => if i = k then Value.int x else f i) n = Value.int y := fun n => by
  by_cases e : n = k
  · exact ⟨x, if_pos e⟩
  · obtain ⟨y, hy⟩ := q n
    exact ⟨y, (if_neg e).trans hy⟩
end Own
theorem d3_0 : decode method_2_code 0 = .ok (.lload_n 0, 1) := by decide +kernel
theorem d3_1 : decode method_2_code 1 = .ok (.lstore_n 2, 1) := by decide +kernel
theorem d3_2 : decode method_2_code 2 = .ok (.lload_n 2, 1) := by decide +kernel
theorem d3_3 : decode method_2_code 3 = .ok (.ldc2_w 7, 3) := by decide +kernel
theorem d3_6 : decode method_2_code 6 = .ok (.lload_n 0, 1) := by decide +kernel
theorem d3_7 : decode method_2_code 7 = .ok (.lload_n 2, 1) := by decide +kernel
theorem d3_8 : decode method_2_code 8 = .ok (.lmul, 1) := by decide +kernel
theorem d3_9 : decode method_2_code 9 = .ok (.lsub, 1) := by decide +kernel
theorem d3_10 : decode method_2_code 10 = .ok (.lmul, 1) := by decide +kernel
theorem d3_11 : decode method_2_code 11 = .ok (.lstore_n 2, 1) := by decide +kernel
theorem d3_12 : decode method_2_code 12 = .ok (.lload_n 2, 1) := by decide +kernel
theorem d3_13 : decode method_2_code 13 = .ok (.ldc2_w 7, 3) := by decide +kernel
theorem d3_16 : decode method_2_code 16 = .ok (.lload_n 0, 1) := by decide +kernel
theorem d3_17 : decode method_2_code 17 = .ok (.lload_n 2, 1) := by decide +kernel
theorem d3_18 : decode method_2_code 18 = .ok (.lmul, 1) := by decide +kernel
theorem d3_19 : decode method_2_code 19 = .ok (.lsub, 1) := by decide +kernel
theorem d3_20 : decode method_2_code 20 = .ok (.lmul, 1) := by decide +kernel
theorem d3_21 : decode method_2_code 21 = .ok (.lstore_n 2, 1) := by decide +kernel
theorem d3_22 : decode method_2_code 22 = .ok (.lload_n 2, 1) := by decide +kernel
theorem d3_23 : decode method_2_code 23 = .ok (.ldc2_w 7, 3) := by decide +kernel
theorem d3_26 : decode method_2_code 26 = .ok (.lload_n 0, 1) := by decide +kernel
theorem d3_27 : decode method_2_code 27 = .ok (.lload_n 2, 1) := by decide +kernel
theorem d3_28 : decode method_2_code 28 = .ok (.lmul, 1) := by decide +kernel
theorem d3_29 : decode method_2_code 29 = .ok (.lsub, 1) := by decide +kernel
theorem d3_30 : decode method_2_code 30 = .ok (.lmul, 1) := by decide +kernel
theorem d3_31 : decode method_2_code 31 = .ok (.lstore_n 2, 1) := by decide +kernel
theorem d3_32 : decode method_2_code 32 = .ok (.lload_n 2, 1) := by decide +kernel
theorem d3_33 : decode method_2_code 33 = .ok (.ldc2_w 7, 3) := by decide +kernel
theorem d3_36 : decode method_2_code 36 = .ok (.lload_n 0, 1) := by decide +kernel
theorem d3_37 : decode method_2_code 37 = .ok (.lload_n 2, 1) := by decide +kernel
theorem d3_38 : decode method_2_code 38 = .ok (.lmul, 1) := by decide +kernel
theorem d3_39 : decode method_2_code 39 = .ok (.lsub, 1) := by decide +kernel
theorem d3_40 : decode method_2_code 40 = .ok (.lmul, 1) := by decide +kernel
theorem d3_41 : decode method_2_code 41 = .ok (.lstore_n 2, 1) := by decide +kernel
theorem d3_42 : decode method_2_code 42 = .ok (.lload_n 2, 1) := by decide +kernel
theorem d3_43 : decode method_2_code 43 = .ok (.ldc2_w 7, 3) := by decide +kernel
theorem d3_46 : decode method_2_code 46 = .ok (.lload_n 0, 1) := by decide +kernel
theorem d3_47 : decode method_2_code 47 = .ok (.lload_n 2, 1) := by decide +kernel
theorem d3_48 : decode method_2_code 48 = .ok (.lmul, 1) := by decide +kernel
theorem d3_49 : decode method_2_code 49 = .ok (.lsub, 1) := by decide +kernel
theorem d3_50 : decode method_2_code 50 = .ok (.lmul, 1) := by decide +kernel
theorem d3_51 : decode method_2_code 51 = .ok (.lstore_n 2, 1) := by decide +kernel
theorem d3_52 : decode method_2_code 52 = .ok (.lload_n 2, 1) := by decide +kernel
theorem d3_53 : decode method_2_code 53 = .ok (.lreturn, 1) := by decide +kernel
def F_rm3 (q1 : Int64) : Int64 := let z2 : Int64 := ((q1 * ((2 : Int64) - (q1 * q1))) * ((2 : Int64) - (q1 * (q1 * ((2 : Int64) - (q1 * q1)))))); let z3 : Int64 := ((z2 * ((2 : Int64) - (q1 * z2))) * ((2 : Int64) - (q1 * (z2 * ((2 : Int64) - (q1 * z2)))))); (z3 * ((2 : Int64) - (q1 * z3)))
def Q_rm3 (Z : State) (q1 : Int64) (h0 : Heap) (n0 : Nat) (v : Option Value) (h : Heap) (L : List Loc) : Prop := v = some (.long (F_rm3 q1)) ∧ Fr n0 L ∧ h = h0
theorem ef_rm3 (m : MethodId) (x0 : Int64) : entryFrame m #[(.long x0)] 4 = mkF m 0 #[.val (.long x0), .second, .unset, .unset] [] := by first | (simp [entryFrame, mkF, argsToLocals, Value.category]; done) | rfl
theorem pn_0 : plainName "com/example/outlyr/outlyr/detect/SplitMixMixPinLaw" = true := by first | (simp [plainName, overriddenIn]; done) | decide +kernel
set_option maxRecDepth 65536 in
set_option maxHeartbeats 40000000 in
theorem rm3 (l : Launch) (Z : State) (a0 : Array Value) (hw : ∀ d ∈ tables_1, d.before a0 Z = true) (ws : List Jvm.Cond) (q1 : Int64) (h0 : Heap) (n0 : Nat) (Z0 : n0 ≤ h0.size)  :
    MetFree l (⟨"com/example/outlyr/outlyr/detect/SplitMixMixPinLaw", "inv", "(J)J"⟩ : MethodName) (head1 (Jvm.Cond.code (⟨"com/example/outlyr/outlyr/detect/SplitMixMixPinLaw", "inv", "(J)J"⟩ : MethodName) method_2_code 4 (some .long) :: ws) ({ frames := 0, cells := 0, slots := 0, locals := 0 } : Room)) (fun a U => a = #[(.long q1)] ∧ Z.Warmed39 U.vm ∧ U.heap = h0) (fun _ _ _ _ _ => True) (fun _ U o U' => ∃ v L, o = .returned v ∧ Q_rm3 Z q1 h0 n0 v U'.heap L ∧ FrameEnd U o U' L ({ frames := 0, cells := 0, slots := 0, locals := 0 } : Room).cells ({ frames := 0, cells := 0, slots := 0, locals := 0 } : Room).slots) := by
  refine MetFree.of_bodySF (plainFor_of_name pn_0) hisR ?_
  intro p e s m args below meth c s₁ Bd hml0 hP hK
  obtain ⟨rfl, hZ, hh⟩ := hP
  have hx := Bd.exec
  have hby := Bd.bytes
  have hml : c.maxLocals = 4 := hml0
  have hown : s.vm.findClass "com/example/outlyr/outlyr/detect/SplitMixMixPinLaw" = some m.cls := findClass_of_methodNamed Bd.named
  have hnm := (name_of_methodNamed Bd.named Bd.method).1
  have X0 : Stand p l e ({ frames := 0, cells := 0, slots := 0, locals := 0 } : Room) s m #[(.long q1)] below meth c s₁ [] 0 0 := Stand.of_body Bd
  have e0 : s₁.heap = h0 := by rw [← hh, Bd.state]; rfl
  have N0 := Fr.nil n0
  show Run p e below s 0 0 (Q_rm3 Z q1 h0 n0) (s₁.setTop (entryFrame m #[(.long q1)] 4))
  refine Run.go (fun _ k => castTop (ef_rm3 m q1) k) ?_
  show Run p e below s 0 0 (Q_rm3 Z q1 h0 n0) (s₁.setTop (mkF m 0 #[.val (.long q1), .second, .unset, .unset] []))
  refine Run.go (fun _ k => XS.lloadN X0.here hx rfl (hb hby d3_0) rfl  k) ?_
  show Run p e below s 0 0 (Q_rm3 Z q1 h0 n0) (s₁.setTop (mkF m 1 #[.val (.long q1), .second, .unset, .unset] [(.long q1)]))
  refine Run.go (fun _ k => XS.lstoreN X0.here hx rfl (hb hby d3_1) rfl (l' := #[.val (.long q1), .second, .val (.long q1), .second]) rfl k) ?_
  show Run p e below s 0 0 (Q_rm3 Z q1 h0 n0) (s₁.setTop (mkF m 2 #[.val (.long q1), .second, .val (.long q1), .second] []))
  refine Run.go (fun _ k => XS.lloadN X0.here hx rfl (hb hby d3_2) rfl  k) ?_
  show Run p e below s 0 0 (Q_rm3 Z q1 h0 n0) (s₁.setTop (mkF m 3 #[.val (.long q1), .second, .val (.long q1), .second] [(.long q1)]))
  refine Run.go (fun _ k => X0.ldc2Long hx hown (mvT hZ (hw _ (List.mem_of_getElem? (i := 14) rfl))) (g := (mkF m 3 #[.val (.long q1), .second, .val (.long q1), .second] [(.long q1)])) rfl (hb hby d3_3) _ k) ?_
  show Run p e below s 0 0 (Q_rm3 Z q1 h0 n0) (s₁.setTop (mkF m 6 #[.val (.long q1), .second, .val (.long q1), .second] [(.long (2 : Int64)), (.long q1)]))
  refine Run.go (fun _ k => XS.lloadN X0.here hx rfl (hb hby d3_6) rfl  k) ?_
  show Run p e below s 0 0 (Q_rm3 Z q1 h0 n0) (s₁.setTop (mkF m 7 #[.val (.long q1), .second, .val (.long q1), .second] [(.long q1), (.long (2 : Int64)), (.long q1)]))
  refine Run.go (fun _ k => XS.lloadN X0.here hx rfl (hb hby d3_7) rfl  k) ?_
  show Run p e below s 0 0 (Q_rm3 Z q1 h0 n0) (s₁.setTop (mkF m 8 #[.val (.long q1), .second, .val (.long q1), .second] [(.long q1), (.long q1), (.long (2 : Int64)), (.long q1)]))
  refine Run.go (fun _ k => XS.lmul X0.here hx rfl (hb hby d3_8) rfl k) ?_
  show Run p e below s 0 0 (Q_rm3 Z q1 h0 n0) (s₁.setTop (mkF m 9 #[.val (.long q1), .second, .val (.long q1), .second] [(.long (q1 * q1)), (.long (2 : Int64)), (.long q1)]))
  refine Run.go (fun _ k => XS.lsub X0.here hx rfl (hb hby d3_9) rfl k) ?_
  show Run p e below s 0 0 (Q_rm3 Z q1 h0 n0) (s₁.setTop (mkF m 10 #[.val (.long q1), .second, .val (.long q1), .second] [(.long ((2 : Int64) - (q1 * q1))), (.long q1)]))
  refine Run.go (fun _ k => XS.lmul X0.here hx rfl (hb hby d3_10) rfl k) ?_
  show Run p e below s 0 0 (Q_rm3 Z q1 h0 n0) (s₁.setTop (mkF m 11 #[.val (.long q1), .second, .val (.long q1), .second] [(.long (q1 * ((2 : Int64) - (q1 * q1))))]))
  refine Run.go (fun _ k => XS.lstoreN X0.here hx rfl (hb hby d3_11) rfl (l' := #[.val (.long q1), .second, .val (.long (q1 * ((2 : Int64) - (q1 * q1)))), .second]) rfl k) ?_
  show Run p e below s 0 0 (Q_rm3 Z q1 h0 n0) (s₁.setTop (mkF m 12 #[.val (.long q1), .second, .val (.long (q1 * ((2 : Int64) - (q1 * q1)))), .second] []))
  refine Run.go (fun _ k => XS.lloadN X0.here hx rfl (hb hby d3_12) rfl  k) ?_
  show Run p e below s 0 0 (Q_rm3 Z q1 h0 n0) (s₁.setTop (mkF m 13 #[.val (.long q1), .second, .val (.long (q1 * ((2 : Int64) - (q1 * q1)))), .second] [(.long (q1 * ((2 : Int64) - (q1 * q1))))]))
  refine Run.go (fun _ k => X0.ldc2Long hx hown (mvT hZ (hw _ (List.mem_of_getElem? (i := 14) rfl))) (g := (mkF m 13 #[.val (.long q1), .second, .val (.long (q1 * ((2 : Int64) - (q1 * q1)))), .second] [(.long (q1 * ((2 : Int64) - (q1 * q1))))])) rfl (hb hby d3_13) _ k) ?_
  show Run p e below s 0 0 (Q_rm3 Z q1 h0 n0) (s₁.setTop (mkF m 16 #[.val (.long q1), .second, .val (.long (q1 * ((2 : Int64) - (q1 * q1)))), .second] [(.long (2 : Int64)), (.long (q1 * ((2 : Int64) - (q1 * q1))))]))
  refine Run.go (fun _ k => XS.lloadN X0.here hx rfl (hb hby d3_16) rfl  k) ?_
  show Run p e below s 0 0 (Q_rm3 Z q1 h0 n0) (s₁.setTop (mkF m 17 #[.val (.long q1), .second, .val (.long (q1 * ((2 : Int64) - (q1 * q1)))), .second] [(.long q1), (.long (2 : Int64)), (.long (q1 * ((2 : Int64) - (q1 * q1))))]))
  refine Run.go (fun _ k => XS.lloadN X0.here hx rfl (hb hby d3_17) rfl  k) ?_
  show Run p e below s 0 0 (Q_rm3 Z q1 h0 n0) (s₁.setTop (mkF m 18 #[.val (.long q1), .second, .val (.long (q1 * ((2 : Int64) - (q1 * q1)))), .second] [(.long (q1 * ((2 : Int64) - (q1 * q1)))), (.long q1), (.long (2 : Int64)), (.long (q1 * ((2 : Int64) - (q1 * q1))))]))
  refine Run.go (fun _ k => XS.lmul X0.here hx rfl (hb hby d3_18) rfl k) ?_
  show Run p e below s 0 0 (Q_rm3 Z q1 h0 n0) (s₁.setTop (mkF m 19 #[.val (.long q1), .second, .val (.long (q1 * ((2 : Int64) - (q1 * q1)))), .second] [(.long (q1 * (q1 * ((2 : Int64) - (q1 * q1))))), (.long (2 : Int64)), (.long (q1 * ((2 : Int64) - (q1 * q1))))]))
  refine Run.go (fun _ k => XS.lsub X0.here hx rfl (hb hby d3_19) rfl k) ?_
  show Run p e below s 0 0 (Q_rm3 Z q1 h0 n0) (s₁.setTop (mkF m 20 #[.val (.long q1), .second, .val (.long (q1 * ((2 : Int64) - (q1 * q1)))), .second] [(.long ((2 : Int64) - (q1 * (q1 * ((2 : Int64) - (q1 * q1)))))), (.long (q1 * ((2 : Int64) - (q1 * q1))))]))
  refine Run.go (fun _ k => XS.lmul X0.here hx rfl (hb hby d3_20) rfl k) ?_
  show Run p e below s 0 0 (Q_rm3 Z q1 h0 n0) (s₁.setTop (mkF m 21 #[.val (.long q1), .second, .val (.long (q1 * ((2 : Int64) - (q1 * q1)))), .second] [(.long ((q1 * ((2 : Int64) - (q1 * q1))) * ((2 : Int64) - (q1 * (q1 * ((2 : Int64) - (q1 * q1)))))))]))
  refine Run.go (fun _ k => XS.lstoreN X0.here hx rfl (hb hby d3_21) rfl (l' := #[.val (.long q1), .second, .val (.long ((q1 * ((2 : Int64) - (q1 * q1))) * ((2 : Int64) - (q1 * (q1 * ((2 : Int64) - (q1 * q1))))))), .second]) rfl k) ?_
  show Run p e below s 0 0 (Q_rm3 Z q1 h0 n0) (s₁.setTop (mkF m 22 #[.val (.long q1), .second, .val (.long ((q1 * ((2 : Int64) - (q1 * q1))) * ((2 : Int64) - (q1 * (q1 * ((2 : Int64) - (q1 * q1))))))), .second] []))
  obtain ⟨z2, hz2⟩ : ∃ z, z = ((q1 * ((2 : Int64) - (q1 * q1))) * ((2 : Int64) - (q1 * (q1 * ((2 : Int64) - (q1 * q1)))))) := ⟨_, rfl⟩
  rw [← hz2]
  show Run p e below s 0 0 (Q_rm3 Z q1 h0 n0) (s₁.setTop (mkF m 22 #[.val (.long q1), .second, .val (.long z2), .second] []))
  refine Run.go (fun _ k => XS.lloadN X0.here hx rfl (hb hby d3_22) rfl  k) ?_
  show Run p e below s 0 0 (Q_rm3 Z q1 h0 n0) (s₁.setTop (mkF m 23 #[.val (.long q1), .second, .val (.long z2), .second] [(.long z2)]))
  refine Run.go (fun _ k => X0.ldc2Long hx hown (mvT hZ (hw _ (List.mem_of_getElem? (i := 14) rfl))) (g := (mkF m 23 #[.val (.long q1), .second, .val (.long z2), .second] [(.long z2)])) rfl (hb hby d3_23) _ k) ?_
  show Run p e below s 0 0 (Q_rm3 Z q1 h0 n0) (s₁.setTop (mkF m 26 #[.val (.long q1), .second, .val (.long z2), .second] [(.long (2 : Int64)), (.long z2)]))
  refine Run.go (fun _ k => XS.lloadN X0.here hx rfl (hb hby d3_26) rfl  k) ?_
  show Run p e below s 0 0 (Q_rm3 Z q1 h0 n0) (s₁.setTop (mkF m 27 #[.val (.long q1), .second, .val (.long z2), .second] [(.long q1), (.long (2 : Int64)), (.long z2)]))
  refine Run.go (fun _ k => XS.lloadN X0.here hx rfl (hb hby d3_27) rfl  k) ?_
  show Run p e below s 0 0 (Q_rm3 Z q1 h0 n0) (s₁.setTop (mkF m 28 #[.val (.long q1), .second, .val (.long z2), .second] [(.long z2), (.long q1), (.long (2 : Int64)), (.long z2)]))
  refine Run.go (fun _ k => XS.lmul X0.here hx rfl (hb hby d3_28) rfl k) ?_
  show Run p e below s 0 0 (Q_rm3 Z q1 h0 n0) (s₁.setTop (mkF m 29 #[.val (.long q1), .second, .val (.long z2), .second] [(.long (q1 * z2)), (.long (2 : Int64)), (.long z2)]))
  refine Run.go (fun _ k => XS.lsub X0.here hx rfl (hb hby d3_29) rfl k) ?_
  show Run p e below s 0 0 (Q_rm3 Z q1 h0 n0) (s₁.setTop (mkF m 30 #[.val (.long q1), .second, .val (.long z2), .second] [(.long ((2 : Int64) - (q1 * z2))), (.long z2)]))
  refine Run.go (fun _ k => XS.lmul X0.here hx rfl (hb hby d3_30) rfl k) ?_
  show Run p e below s 0 0 (Q_rm3 Z q1 h0 n0) (s₁.setTop (mkF m 31 #[.val (.long q1), .second, .val (.long z2), .second] [(.long (z2 * ((2 : Int64) - (q1 * z2))))]))
  refine Run.go (fun _ k => XS.lstoreN X0.here hx rfl (hb hby d3_31) rfl (l' := #[.val (.long q1), .second, .val (.long (z2 * ((2 : Int64) - (q1 * z2)))), .second]) rfl k) ?_
  show Run p e below s 0 0 (Q_rm3 Z q1 h0 n0) (s₁.setTop (mkF m 32 #[.val (.long q1), .second, .val (.long (z2 * ((2 : Int64) - (q1 * z2)))), .second] []))
  refine Run.go (fun _ k => XS.lloadN X0.here hx rfl (hb hby d3_32) rfl  k) ?_
  show Run p e below s 0 0 (Q_rm3 Z q1 h0 n0) (s₁.setTop (mkF m 33 #[.val (.long q1), .second, .val (.long (z2 * ((2 : Int64) - (q1 * z2)))), .second] [(.long (z2 * ((2 : Int64) - (q1 * z2))))]))
  refine Run.go (fun _ k => X0.ldc2Long hx hown (mvT hZ (hw _ (List.mem_of_getElem? (i := 14) rfl))) (g := (mkF m 33 #[.val (.long q1), .second, .val (.long (z2 * ((2 : Int64) - (q1 * z2)))), .second] [(.long (z2 * ((2 : Int64) - (q1 * z2))))])) rfl (hb hby d3_33) _ k) ?_
  show Run p e below s 0 0 (Q_rm3 Z q1 h0 n0) (s₁.setTop (mkF m 36 #[.val (.long q1), .second, .val (.long (z2 * ((2 : Int64) - (q1 * z2)))), .second] [(.long (2 : Int64)), (.long (z2 * ((2 : Int64) - (q1 * z2))))]))
  refine Run.go (fun _ k => XS.lloadN X0.here hx rfl (hb hby d3_36) rfl  k) ?_
  show Run p e below s 0 0 (Q_rm3 Z q1 h0 n0) (s₁.setTop (mkF m 37 #[.val (.long q1), .second, .val (.long (z2 * ((2 : Int64) - (q1 * z2)))), .second] [(.long q1), (.long (2 : Int64)), (.long (z2 * ((2 : Int64) - (q1 * z2))))]))
  refine Run.go (fun _ k => XS.lloadN X0.here hx rfl (hb hby d3_37) rfl  k) ?_
  show Run p e below s 0 0 (Q_rm3 Z q1 h0 n0) (s₁.setTop (mkF m 38 #[.val (.long q1), .second, .val (.long (z2 * ((2 : Int64) - (q1 * z2)))), .second] [(.long (z2 * ((2 : Int64) - (q1 * z2)))), (.long q1), (.long (2 : Int64)), (.long (z2 * ((2 : Int64) - (q1 * z2))))]))
  refine Run.go (fun _ k => XS.lmul X0.here hx rfl (hb hby d3_38) rfl k) ?_
  show Run p e below s 0 0 (Q_rm3 Z q1 h0 n0) (s₁.setTop (mkF m 39 #[.val (.long q1), .second, .val (.long (z2 * ((2 : Int64) - (q1 * z2)))), .second] [(.long (q1 * (z2 * ((2 : Int64) - (q1 * z2))))), (.long (2 : Int64)), (.long (z2 * ((2 : Int64) - (q1 * z2))))]))
  refine Run.go (fun _ k => XS.lsub X0.here hx rfl (hb hby d3_39) rfl k) ?_
  show Run p e below s 0 0 (Q_rm3 Z q1 h0 n0) (s₁.setTop (mkF m 40 #[.val (.long q1), .second, .val (.long (z2 * ((2 : Int64) - (q1 * z2)))), .second] [(.long ((2 : Int64) - (q1 * (z2 * ((2 : Int64) - (q1 * z2)))))), (.long (z2 * ((2 : Int64) - (q1 * z2))))]))
  refine Run.go (fun _ k => XS.lmul X0.here hx rfl (hb hby d3_40) rfl k) ?_
  show Run p e below s 0 0 (Q_rm3 Z q1 h0 n0) (s₁.setTop (mkF m 41 #[.val (.long q1), .second, .val (.long (z2 * ((2 : Int64) - (q1 * z2)))), .second] [(.long ((z2 * ((2 : Int64) - (q1 * z2))) * ((2 : Int64) - (q1 * (z2 * ((2 : Int64) - (q1 * z2)))))))]))
  refine Run.go (fun _ k => XS.lstoreN X0.here hx rfl (hb hby d3_41) rfl (l' := #[.val (.long q1), .second, .val (.long ((z2 * ((2 : Int64) - (q1 * z2))) * ((2 : Int64) - (q1 * (z2 * ((2 : Int64) - (q1 * z2))))))), .second]) rfl k) ?_
  show Run p e below s 0 0 (Q_rm3 Z q1 h0 n0) (s₁.setTop (mkF m 42 #[.val (.long q1), .second, .val (.long ((z2 * ((2 : Int64) - (q1 * z2))) * ((2 : Int64) - (q1 * (z2 * ((2 : Int64) - (q1 * z2))))))), .second] []))
  obtain ⟨z3, hz3⟩ : ∃ z, z = ((z2 * ((2 : Int64) - (q1 * z2))) * ((2 : Int64) - (q1 * (z2 * ((2 : Int64) - (q1 * z2)))))) := ⟨_, rfl⟩
  rw [← hz3]
  show Run p e below s 0 0 (Q_rm3 Z q1 h0 n0) (s₁.setTop (mkF m 42 #[.val (.long q1), .second, .val (.long z3), .second] []))
  refine Run.go (fun _ k => XS.lloadN X0.here hx rfl (hb hby d3_42) rfl  k) ?_
  show Run p e below s 0 0 (Q_rm3 Z q1 h0 n0) (s₁.setTop (mkF m 43 #[.val (.long q1), .second, .val (.long z3), .second] [(.long z3)]))
  refine Run.go (fun _ k => X0.ldc2Long hx hown (mvT hZ (hw _ (List.mem_of_getElem? (i := 14) rfl))) (g := (mkF m 43 #[.val (.long q1), .second, .val (.long z3), .second] [(.long z3)])) rfl (hb hby d3_43) _ k) ?_
  show Run p e below s 0 0 (Q_rm3 Z q1 h0 n0) (s₁.setTop (mkF m 46 #[.val (.long q1), .second, .val (.long z3), .second] [(.long (2 : Int64)), (.long z3)]))
  refine Run.go (fun _ k => XS.lloadN X0.here hx rfl (hb hby d3_46) rfl  k) ?_
  show Run p e below s 0 0 (Q_rm3 Z q1 h0 n0) (s₁.setTop (mkF m 47 #[.val (.long q1), .second, .val (.long z3), .second] [(.long q1), (.long (2 : Int64)), (.long z3)]))
  refine Run.go (fun _ k => XS.lloadN X0.here hx rfl (hb hby d3_47) rfl  k) ?_
  show Run p e below s 0 0 (Q_rm3 Z q1 h0 n0) (s₁.setTop (mkF m 48 #[.val (.long q1), .second, .val (.long z3), .second] [(.long z3), (.long q1), (.long (2 : Int64)), (.long z3)]))
  refine Run.go (fun _ k => XS.lmul X0.here hx rfl (hb hby d3_48) rfl k) ?_
  show Run p e below s 0 0 (Q_rm3 Z q1 h0 n0) (s₁.setTop (mkF m 49 #[.val (.long q1), .second, .val (.long z3), .second] [(.long (q1 * z3)), (.long (2 : Int64)), (.long z3)]))
  refine Run.go (fun _ k => XS.lsub X0.here hx rfl (hb hby d3_49) rfl k) ?_
  show Run p e below s 0 0 (Q_rm3 Z q1 h0 n0) (s₁.setTop (mkF m 50 #[.val (.long q1), .second, .val (.long z3), .second] [(.long ((2 : Int64) - (q1 * z3))), (.long z3)]))
  refine Run.go (fun _ k => XS.lmul X0.here hx rfl (hb hby d3_50) rfl k) ?_
  show Run p e below s 0 0 (Q_rm3 Z q1 h0 n0) (s₁.setTop (mkF m 51 #[.val (.long q1), .second, .val (.long z3), .second] [(.long (z3 * ((2 : Int64) - (q1 * z3))))]))
  refine Run.go (fun _ k => XS.lstoreN X0.here hx rfl (hb hby d3_51) rfl (l' := #[.val (.long q1), .second, .val (.long (z3 * ((2 : Int64) - (q1 * z3)))), .second]) rfl k) ?_
  show Run p e below s 0 0 (Q_rm3 Z q1 h0 n0) (s₁.setTop (mkF m 52 #[.val (.long q1), .second, .val (.long (z3 * ((2 : Int64) - (q1 * z3)))), .second] []))
  refine Run.go (fun _ k => XS.lloadN X0.here hx rfl (hb hby d3_52) rfl  k) ?_
  show Run p e below s 0 0 (Q_rm3 Z q1 h0 n0) (s₁.setTop (mkF m 53 #[.val (.long q1), .second, .val (.long (z3 * ((2 : Int64) - (q1 * z3)))), .second] [(.long (z3 * ((2 : Int64) - (q1 * z3))))]))
  refine Run.retJ X0 hx Bd.returns Bd.notSynchronized (hb hby d3_53) (by decide) (by decide) ?_
  show Q_rm3 Z q1 h0 n0 _ s₁.heap _
  exact ⟨congrArg some (congrArg Value.long (show (z3 * ((2 : Int64) - (q1 * z3))) = (F_rm3 q1) from (by subst hz3; subst hz2; unfold F_rm3; rfl))), N0, e0⟩
theorem d2_0 : decode method_3_code 0 = .ok (.lload_n 0, 1) := by decide +kernel
theorem d2_1 : decode method_3_code 1 = .ok (.lstore_n 2, 1) := by decide +kernel
theorem d2_2 : decode method_3_code 2 = .ok (.lload_n 2, 1) := by decide +kernel
theorem d2_3 : decode method_3_code 3 = .ok (.lload_n 2, 1) := by decide +kernel
theorem d2_4 : decode method_3_code 4 = .ok (.bipush 31, 2) := by decide +kernel
theorem d2_6 : decode method_3_code 6 = .ok (.lushr, 1) := by decide +kernel
theorem d2_7 : decode method_3_code 7 = .ok (.lxor, 1) := by decide +kernel
theorem d2_8 : decode method_3_code 8 = .ok (.lload_n 2, 1) := by decide +kernel
theorem d2_9 : decode method_3_code 9 = .ok (.bipush 62, 2) := by decide +kernel
theorem d2_11 : decode method_3_code 11 = .ok (.lushr, 1) := by decide +kernel
theorem d2_12 : decode method_3_code 12 = .ok (.lxor, 1) := by decide +kernel
theorem d2_13 : decode method_3_code 13 = .ok (.lstore_n 2, 1) := by decide +kernel
theorem d2_14 : decode method_3_code 14 = .ok (.lload_n 2, 1) := by decide +kernel
theorem d2_15 : decode method_3_code 15 = .ok (.ldc2_w 9, 3) := by decide +kernel
theorem d2_18 : decode method_3_code 18 = .ok (.invokestatic 11, 3) := by decide +kernel
theorem pd_0 : parseMethodDescriptor "(J)J" = some ⟨[.long], some .long⟩ := by decide +kernel
theorem d2_21 : decode method_3_code 21 = .ok (.lmul, 1) := by decide +kernel
theorem d2_22 : decode method_3_code 22 = .ok (.lstore_n 2, 1) := by decide +kernel
theorem d2_23 : decode method_3_code 23 = .ok (.lload_n 2, 1) := by decide +kernel
theorem d2_24 : decode method_3_code 24 = .ok (.lload_n 2, 1) := by decide +kernel
theorem d2_25 : decode method_3_code 25 = .ok (.bipush 27, 2) := by decide +kernel
theorem d2_27 : decode method_3_code 27 = .ok (.lushr, 1) := by decide +kernel
theorem d2_28 : decode method_3_code 28 = .ok (.lxor, 1) := by decide +kernel
theorem d2_29 : decode method_3_code 29 = .ok (.lload_n 2, 1) := by decide +kernel
theorem d2_30 : decode method_3_code 30 = .ok (.bipush 54, 2) := by decide +kernel
theorem d2_32 : decode method_3_code 32 = .ok (.lushr, 1) := by decide +kernel
theorem d2_33 : decode method_3_code 33 = .ok (.lxor, 1) := by decide +kernel
theorem d2_34 : decode method_3_code 34 = .ok (.lstore_n 2, 1) := by decide +kernel
theorem d2_35 : decode method_3_code 35 = .ok (.lload_n 2, 1) := by decide +kernel
theorem d2_36 : decode method_3_code 36 = .ok (.ldc2_w 17, 3) := by decide +kernel
theorem d2_39 : decode method_3_code 39 = .ok (.invokestatic 11, 3) := by decide +kernel
theorem d2_42 : decode method_3_code 42 = .ok (.lmul, 1) := by decide +kernel
theorem d2_43 : decode method_3_code 43 = .ok (.lstore_n 2, 1) := by decide +kernel
theorem d2_44 : decode method_3_code 44 = .ok (.lload_n 2, 1) := by decide +kernel
theorem d2_45 : decode method_3_code 45 = .ok (.lload_n 2, 1) := by decide +kernel
theorem d2_46 : decode method_3_code 46 = .ok (.bipush 30, 2) := by decide +kernel
theorem d2_48 : decode method_3_code 48 = .ok (.lushr, 1) := by decide +kernel
theorem d2_49 : decode method_3_code 49 = .ok (.lxor, 1) := by decide +kernel
theorem d2_50 : decode method_3_code 50 = .ok (.lload_n 2, 1) := by decide +kernel
theorem d2_51 : decode method_3_code 51 = .ok (.bipush 60, 2) := by decide +kernel
theorem d2_53 : decode method_3_code 53 = .ok (.lushr, 1) := by decide +kernel
theorem d2_54 : decode method_3_code 54 = .ok (.lxor, 1) := by decide +kernel
theorem d2_55 : decode method_3_code 55 = .ok (.lstore_n 2, 1) := by decide +kernel
theorem d2_56 : decode method_3_code 56 = .ok (.lload_n 2, 1) := by decide +kernel
theorem d2_57 : decode method_3_code 57 = .ok (.lreturn, 1) := by decide +kernel
def F_rm2 (q1 : Int64) : Int64 := let z2 : Int64 := ((q1 ^^^ ((q1.toUInt64 >>> ((31 : Int32) &&& 0x3f).toInt64.toUInt64).toInt64)) ^^^ ((q1.toUInt64 >>> ((62 : Int32) &&& 0x3f).toInt64.toUInt64).toInt64)); let z4 : Int64 := (((z2 * (F_rm3 (-7723592293110705685 : Int64))) ^^^ (((z2 * (F_rm3 (-7723592293110705685 : Int64))).toUInt64 >>> ((27 : Int32) &&& 0x3f).toInt64.toUInt64).toInt64)) ^^^ (((z2 * (F_rm3 (-7723592293110705685 : Int64))).toUInt64 >>> ((54 : Int32) &&& 0x3f).toInt64.toUInt64).toInt64)); let z6 : Int64 := (((z4 * (F_rm3 (-4658895280553007687 : Int64))) ^^^ (((z4 * (F_rm3 (-4658895280553007687 : Int64))).toUInt64 >>> ((30 : Int32) &&& 0x3f).toInt64.toUInt64).toInt64)) ^^^ (((z4 * (F_rm3 (-4658895280553007687 : Int64))).toUInt64 >>> ((60 : Int32) &&& 0x3f).toInt64.toUInt64).toInt64)); z6
def Q_rm2 (Z : State) (q1 : Int64) (h0 : Heap) (n0 : Nat) (v : Option Value) (h : Heap) (L : List Loc) : Prop := v = some (.long (F_rm2 q1)) ∧ Fr n0 L ∧ h = h0
theorem ef_rm2 (m : MethodId) (x0 : Int64) : entryFrame m #[(.long x0)] 4 = mkF m 0 #[.val (.long x0), .second, .unset, .unset] [] := by first | (simp [entryFrame, mkF, argsToLocals, Value.category]; done) | rfl
set_option maxRecDepth 65536 in
set_option maxHeartbeats 40000000 in
theorem rm2 (l : Launch) (Z : State) (a0 : Array Value) (hw : ∀ d ∈ tables_1, d.before a0 Z = true) (ws : List Jvm.Cond) (q1 : Int64) (h0 : Heap) (n0 : Nat) (Z0 : n0 ≤ h0.size)  :
    MetFree l (⟨"com/example/outlyr/outlyr/detect/SplitMixMixPinLaw", "unmix", "(J)J"⟩ : MethodName) (head1 (Jvm.Cond.code (⟨"com/example/outlyr/outlyr/detect/SplitMixMixPinLaw", "unmix", "(J)J"⟩ : MethodName) method_3_code 4 (some .long) :: ws) ({ frames := 1, cells := 0, slots := 0, locals := 17 } : Room)) (fun a U => a = #[(.long q1)] ∧ Z.Warmed39 U.vm ∧ U.heap = h0) (fun _ _ _ _ _ => True) (fun _ U o U' => ∃ v L, o = .returned v ∧ Q_rm2 Z q1 h0 n0 v U'.heap L ∧ FrameEnd U o U' L ({ frames := 1, cells := 0, slots := 0, locals := 17 } : Room).cells ({ frames := 1, cells := 0, slots := 0, locals := 17 } : Room).slots) := by
  refine MetFree.of_bodySF (plainFor_of_name pn_0) hisR ?_
  intro p e s m args below meth c s₁ Bd hml0 hP hK
  obtain ⟨rfl, hZ, hh⟩ := hP
  have hx := Bd.exec
  have hby := Bd.bytes
  have hml : c.maxLocals = 4 := hml0
  have hown : s.vm.findClass "com/example/outlyr/outlyr/detect/SplitMixMixPinLaw" = some m.cls := findClass_of_methodNamed Bd.named
  have hnm := (name_of_methodNamed Bd.named Bd.method).1
  have X0 : Stand p l e ({ frames := 1, cells := 0, slots := 0, locals := 17 } : Room) s m #[(.long q1)] below meth c s₁ [] 0 0 := Stand.of_body Bd
  have e0 : s₁.heap = h0 := by rw [← hh, Bd.state]; rfl
  have N0 := Fr.nil n0
  show Run p e below s 0 0 (Q_rm2 Z q1 h0 n0) (s₁.setTop (entryFrame m #[(.long q1)] 4))
  refine Run.go (fun _ k => castTop (ef_rm2 m q1) k) ?_
  show Run p e below s 0 0 (Q_rm2 Z q1 h0 n0) (s₁.setTop (mkF m 0 #[.val (.long q1), .second, .unset, .unset] []))
  refine Run.go (fun _ k => XS.lloadN X0.here hx rfl (hb hby d2_0) rfl  k) ?_
  show Run p e below s 0 0 (Q_rm2 Z q1 h0 n0) (s₁.setTop (mkF m 1 #[.val (.long q1), .second, .unset, .unset] [(.long q1)]))
  refine Run.go (fun _ k => XS.lstoreN X0.here hx rfl (hb hby d2_1) rfl (l' := #[.val (.long q1), .second, .val (.long q1), .second]) rfl k) ?_
  show Run p e below s 0 0 (Q_rm2 Z q1 h0 n0) (s₁.setTop (mkF m 2 #[.val (.long q1), .second, .val (.long q1), .second] []))
  refine Run.go (fun _ k => XS.lloadN X0.here hx rfl (hb hby d2_2) rfl  k) ?_
  show Run p e below s 0 0 (Q_rm2 Z q1 h0 n0) (s₁.setTop (mkF m 3 #[.val (.long q1), .second, .val (.long q1), .second] [(.long q1)]))
  refine Run.go (fun _ k => XS.lloadN X0.here hx rfl (hb hby d2_3) rfl  k) ?_
  show Run p e below s 0 0 (Q_rm2 Z q1 h0 n0) (s₁.setTop (mkF m 4 #[.val (.long q1), .second, .val (.long q1), .second] [(.long q1), (.long q1)]))
  refine Run.go (fun _ k => XS.bipush X0.here hx rfl (hb hby d2_4) k) ?_
  show Run p e below s 0 0 (Q_rm2 Z q1 h0 n0) (s₁.setTop (mkF m 6 #[.val (.long q1), .second, .val (.long q1), .second] [(.int (31 : Int32)), (.long q1), (.long q1)]))
  refine Run.go (fun _ k => XS.lushr X0.here hx rfl (hb hby d2_6) rfl k) ?_
  show Run p e below s 0 0 (Q_rm2 Z q1 h0 n0) (s₁.setTop (mkF m 7 #[.val (.long q1), .second, .val (.long q1), .second] [(.long ((q1.toUInt64 >>> ((31 : Int32) &&& 0x3f).toInt64.toUInt64).toInt64)), (.long q1)]))
  refine Run.go (fun _ k => XS.lxor X0.here hx rfl (hb hby d2_7) rfl k) ?_
  show Run p e below s 0 0 (Q_rm2 Z q1 h0 n0) (s₁.setTop (mkF m 8 #[.val (.long q1), .second, .val (.long q1), .second] [(.long (q1 ^^^ ((q1.toUInt64 >>> ((31 : Int32) &&& 0x3f).toInt64.toUInt64).toInt64)))]))
  refine Run.go (fun _ k => XS.lloadN X0.here hx rfl (hb hby d2_8) rfl  k) ?_
  show Run p e below s 0 0 (Q_rm2 Z q1 h0 n0) (s₁.setTop (mkF m 9 #[.val (.long q1), .second, .val (.long q1), .second] [(.long q1), (.long (q1 ^^^ ((q1.toUInt64 >>> ((31 : Int32) &&& 0x3f).toInt64.toUInt64).toInt64)))]))
  refine Run.go (fun _ k => XS.bipush X0.here hx rfl (hb hby d2_9) k) ?_
  show Run p e below s 0 0 (Q_rm2 Z q1 h0 n0) (s₁.setTop (mkF m 11 #[.val (.long q1), .second, .val (.long q1), .second] [(.int (62 : Int32)), (.long q1), (.long (q1 ^^^ ((q1.toUInt64 >>> ((31 : Int32) &&& 0x3f).toInt64.toUInt64).toInt64)))]))
  refine Run.go (fun _ k => XS.lushr X0.here hx rfl (hb hby d2_11) rfl k) ?_
  show Run p e below s 0 0 (Q_rm2 Z q1 h0 n0) (s₁.setTop (mkF m 12 #[.val (.long q1), .second, .val (.long q1), .second] [(.long ((q1.toUInt64 >>> ((62 : Int32) &&& 0x3f).toInt64.toUInt64).toInt64)), (.long (q1 ^^^ ((q1.toUInt64 >>> ((31 : Int32) &&& 0x3f).toInt64.toUInt64).toInt64)))]))
  refine Run.go (fun _ k => XS.lxor X0.here hx rfl (hb hby d2_12) rfl k) ?_
  show Run p e below s 0 0 (Q_rm2 Z q1 h0 n0) (s₁.setTop (mkF m 13 #[.val (.long q1), .second, .val (.long q1), .second] [(.long ((q1 ^^^ ((q1.toUInt64 >>> ((31 : Int32) &&& 0x3f).toInt64.toUInt64).toInt64)) ^^^ ((q1.toUInt64 >>> ((62 : Int32) &&& 0x3f).toInt64.toUInt64).toInt64)))]))
  refine Run.go (fun _ k => XS.lstoreN X0.here hx rfl (hb hby d2_13) rfl (l' := #[.val (.long q1), .second, .val (.long ((q1 ^^^ ((q1.toUInt64 >>> ((31 : Int32) &&& 0x3f).toInt64.toUInt64).toInt64)) ^^^ ((q1.toUInt64 >>> ((62 : Int32) &&& 0x3f).toInt64.toUInt64).toInt64))), .second]) rfl k) ?_
  show Run p e below s 0 0 (Q_rm2 Z q1 h0 n0) (s₁.setTop (mkF m 14 #[.val (.long q1), .second, .val (.long ((q1 ^^^ ((q1.toUInt64 >>> ((31 : Int32) &&& 0x3f).toInt64.toUInt64).toInt64)) ^^^ ((q1.toUInt64 >>> ((62 : Int32) &&& 0x3f).toInt64.toUInt64).toInt64))), .second] []))
  obtain ⟨z2, hz2⟩ : ∃ z, z = ((q1 ^^^ ((q1.toUInt64 >>> ((31 : Int32) &&& 0x3f).toInt64.toUInt64).toInt64)) ^^^ ((q1.toUInt64 >>> ((62 : Int32) &&& 0x3f).toInt64.toUInt64).toInt64)) := ⟨_, rfl⟩
  rw [← hz2]
  show Run p e below s 0 0 (Q_rm2 Z q1 h0 n0) (s₁.setTop (mkF m 14 #[.val (.long q1), .second, .val (.long z2), .second] []))
  refine Run.go (fun _ k => XS.lloadN X0.here hx rfl (hb hby d2_14) rfl  k) ?_
  show Run p e below s 0 0 (Q_rm2 Z q1 h0 n0) (s₁.setTop (mkF m 15 #[.val (.long q1), .second, .val (.long z2), .second] [(.long z2)]))
  refine Run.go (fun _ k => X0.ldc2Long hx hown (mvT hZ (hw _ (List.mem_of_getElem? (i := 10) rfl))) (g := (mkF m 15 #[.val (.long q1), .second, .val (.long z2), .second] [(.long z2)])) rfl (hb hby d2_15) _ k) ?_
  show Run p e below s 0 0 (Q_rm2 Z q1 h0 n0) (s₁.setTop (mkF m 18 #[.val (.long q1), .second, .val (.long z2), .second] [(.long (-7723592293110705685 : Int64)), (.long z2)]))
  obtain ⟨_, _, ⟨T3, L3, k3, n3⟩, -, X3, ⟨Lc3, hQ3, l3, y3, z3⟩, st3⟩ := Jvm.LawKit.callS X0 hx (y := (⟨"com/example/outlyr/outlyr/detect/SplitMixMixPinLaw", "inv", "(J)J"⟩ : MethodName)) hown (mvT hZ (hw _ (List.mem_of_getElem? (i := 11) rfl))) (mvT hZ (hw _ (List.mem_of_getElem? (i := 12) rfl))) (mvT hZ (hw _ (List.mem_of_getElem? (i := 8) rfl))) (mvT hZ (hw _ (List.mem_of_getElem? (i := 13) rfl))) (by decide) (backOf (W := 2) (rm3 l Z a0 hw [] (-7723592293110705685 : Int64) h0 n0 Z0 ) hZ (hw _ (List.mem_of_getElem? (i := 13) rfl)) (hw _ (List.mem_of_getElem? (i := 8) rfl)) (by decide) (by decide)) (g := (mkF m 18 #[.val (.long q1), .second, .val (.long z2), .second] [(.long (-7723592293110705685 : Int64)), (.long z2)])) rfl (by rw [hml]; rfl) (argsL := [(.long (-7723592293110705685 : Int64))]) (rest := [(.long z2)]) (lenOf pd_0 rfl) rfl (by show 2 * 0 + _ ≤ _; exact Nat.le_of_eq rfl) (hb hby d2_18) (fun _ _ => ⟨rfl, e0, (by decide : 0 + 0 ≤ _), (by decide : 0 + 0 ≤ _)⟩)
  dsimp only [Pt.U, Pt.locs, Pt.cells, Pt.slots] at X3 l3 y3 z3 st3 hQ3
  subst l3 y3 z3
  obtain ⟨rfl, N3q, e3q⟩ := hQ3
  have N3 := Fr.app N0 N3q
  refine Run.go st3 ?_
  show Run p e below s 0 0 (Q_rm2 Z q1 h0 n0) (T3.setTop (mkF m 21 #[.val (.long q1), .second, .val (.long z2), .second] [(.long (F_rm3 (-7723592293110705685 : Int64))), (.long z2)]))
  refine Run.go (fun _ k => XS.lmul X3.here hx rfl (hb hby d2_21) rfl k) ?_
  show Run p e below s 0 0 (Q_rm2 Z q1 h0 n0) (T3.setTop (mkF m 22 #[.val (.long q1), .second, .val (.long z2), .second] [(.long (z2 * (F_rm3 (-7723592293110705685 : Int64))))]))
  refine Run.go (fun _ k => XS.lstoreN X3.here hx rfl (hb hby d2_22) rfl (l' := #[.val (.long q1), .second, .val (.long (z2 * (F_rm3 (-7723592293110705685 : Int64)))), .second]) rfl k) ?_
  show Run p e below s 0 0 (Q_rm2 Z q1 h0 n0) (T3.setTop (mkF m 23 #[.val (.long q1), .second, .val (.long (z2 * (F_rm3 (-7723592293110705685 : Int64)))), .second] []))
  refine Run.go (fun _ k => XS.lloadN X3.here hx rfl (hb hby d2_23) rfl  k) ?_
  show Run p e below s 0 0 (Q_rm2 Z q1 h0 n0) (T3.setTop (mkF m 24 #[.val (.long q1), .second, .val (.long (z2 * (F_rm3 (-7723592293110705685 : Int64)))), .second] [(.long (z2 * (F_rm3 (-7723592293110705685 : Int64))))]))
  refine Run.go (fun _ k => XS.lloadN X3.here hx rfl (hb hby d2_24) rfl  k) ?_
  show Run p e below s 0 0 (Q_rm2 Z q1 h0 n0) (T3.setTop (mkF m 25 #[.val (.long q1), .second, .val (.long (z2 * (F_rm3 (-7723592293110705685 : Int64)))), .second] [(.long (z2 * (F_rm3 (-7723592293110705685 : Int64)))), (.long (z2 * (F_rm3 (-7723592293110705685 : Int64))))]))
  refine Run.go (fun _ k => XS.bipush X3.here hx rfl (hb hby d2_25) k) ?_
  show Run p e below s 0 0 (Q_rm2 Z q1 h0 n0) (T3.setTop (mkF m 27 #[.val (.long q1), .second, .val (.long (z2 * (F_rm3 (-7723592293110705685 : Int64)))), .second] [(.int (27 : Int32)), (.long (z2 * (F_rm3 (-7723592293110705685 : Int64)))), (.long (z2 * (F_rm3 (-7723592293110705685 : Int64))))]))
  refine Run.go (fun _ k => XS.lushr X3.here hx rfl (hb hby d2_27) rfl k) ?_
  show Run p e below s 0 0 (Q_rm2 Z q1 h0 n0) (T3.setTop (mkF m 28 #[.val (.long q1), .second, .val (.long (z2 * (F_rm3 (-7723592293110705685 : Int64)))), .second] [(.long (((z2 * (F_rm3 (-7723592293110705685 : Int64))).toUInt64 >>> ((27 : Int32) &&& 0x3f).toInt64.toUInt64).toInt64)), (.long (z2 * (F_rm3 (-7723592293110705685 : Int64))))]))
  refine Run.go (fun _ k => XS.lxor X3.here hx rfl (hb hby d2_28) rfl k) ?_
  show Run p e below s 0 0 (Q_rm2 Z q1 h0 n0) (T3.setTop (mkF m 29 #[.val (.long q1), .second, .val (.long (z2 * (F_rm3 (-7723592293110705685 : Int64)))), .second] [(.long ((z2 * (F_rm3 (-7723592293110705685 : Int64))) ^^^ (((z2 * (F_rm3 (-7723592293110705685 : Int64))).toUInt64 >>> ((27 : Int32) &&& 0x3f).toInt64.toUInt64).toInt64)))]))
  refine Run.go (fun _ k => XS.lloadN X3.here hx rfl (hb hby d2_29) rfl  k) ?_
  show Run p e below s 0 0 (Q_rm2 Z q1 h0 n0) (T3.setTop (mkF m 30 #[.val (.long q1), .second, .val (.long (z2 * (F_rm3 (-7723592293110705685 : Int64)))), .second] [(.long (z2 * (F_rm3 (-7723592293110705685 : Int64)))), (.long ((z2 * (F_rm3 (-7723592293110705685 : Int64))) ^^^ (((z2 * (F_rm3 (-7723592293110705685 : Int64))).toUInt64 >>> ((27 : Int32) &&& 0x3f).toInt64.toUInt64).toInt64)))]))
  refine Run.go (fun _ k => XS.bipush X3.here hx rfl (hb hby d2_30) k) ?_
  show Run p e below s 0 0 (Q_rm2 Z q1 h0 n0) (T3.setTop (mkF m 32 #[.val (.long q1), .second, .val (.long (z2 * (F_rm3 (-7723592293110705685 : Int64)))), .second] [(.int (54 : Int32)), (.long (z2 * (F_rm3 (-7723592293110705685 : Int64)))), (.long ((z2 * (F_rm3 (-7723592293110705685 : Int64))) ^^^ (((z2 * (F_rm3 (-7723592293110705685 : Int64))).toUInt64 >>> ((27 : Int32) &&& 0x3f).toInt64.toUInt64).toInt64)))]))
  refine Run.go (fun _ k => XS.lushr X3.here hx rfl (hb hby d2_32) rfl k) ?_
  show Run p e below s 0 0 (Q_rm2 Z q1 h0 n0) (T3.setTop (mkF m 33 #[.val (.long q1), .second, .val (.long (z2 * (F_rm3 (-7723592293110705685 : Int64)))), .second] [(.long (((z2 * (F_rm3 (-7723592293110705685 : Int64))).toUInt64 >>> ((54 : Int32) &&& 0x3f).toInt64.toUInt64).toInt64)), (.long ((z2 * (F_rm3 (-7723592293110705685 : Int64))) ^^^ (((z2 * (F_rm3 (-7723592293110705685 : Int64))).toUInt64 >>> ((27 : Int32) &&& 0x3f).toInt64.toUInt64).toInt64)))]))
  refine Run.go (fun _ k => XS.lxor X3.here hx rfl (hb hby d2_33) rfl k) ?_
  show Run p e below s 0 0 (Q_rm2 Z q1 h0 n0) (T3.setTop (mkF m 34 #[.val (.long q1), .second, .val (.long (z2 * (F_rm3 (-7723592293110705685 : Int64)))), .second] [(.long (((z2 * (F_rm3 (-7723592293110705685 : Int64))) ^^^ (((z2 * (F_rm3 (-7723592293110705685 : Int64))).toUInt64 >>> ((27 : Int32) &&& 0x3f).toInt64.toUInt64).toInt64)) ^^^ (((z2 * (F_rm3 (-7723592293110705685 : Int64))).toUInt64 >>> ((54 : Int32) &&& 0x3f).toInt64.toUInt64).toInt64)))]))
  refine Run.go (fun _ k => XS.lstoreN X3.here hx rfl (hb hby d2_34) rfl (l' := #[.val (.long q1), .second, .val (.long (((z2 * (F_rm3 (-7723592293110705685 : Int64))) ^^^ (((z2 * (F_rm3 (-7723592293110705685 : Int64))).toUInt64 >>> ((27 : Int32) &&& 0x3f).toInt64.toUInt64).toInt64)) ^^^ (((z2 * (F_rm3 (-7723592293110705685 : Int64))).toUInt64 >>> ((54 : Int32) &&& 0x3f).toInt64.toUInt64).toInt64))), .second]) rfl k) ?_
  show Run p e below s 0 0 (Q_rm2 Z q1 h0 n0) (T3.setTop (mkF m 35 #[.val (.long q1), .second, .val (.long (((z2 * (F_rm3 (-7723592293110705685 : Int64))) ^^^ (((z2 * (F_rm3 (-7723592293110705685 : Int64))).toUInt64 >>> ((27 : Int32) &&& 0x3f).toInt64.toUInt64).toInt64)) ^^^ (((z2 * (F_rm3 (-7723592293110705685 : Int64))).toUInt64 >>> ((54 : Int32) &&& 0x3f).toInt64.toUInt64).toInt64))), .second] []))
  obtain ⟨z4, hz4⟩ : ∃ z, z = (((z2 * (F_rm3 (-7723592293110705685 : Int64))) ^^^ (((z2 * (F_rm3 (-7723592293110705685 : Int64))).toUInt64 >>> ((27 : Int32) &&& 0x3f).toInt64.toUInt64).toInt64)) ^^^ (((z2 * (F_rm3 (-7723592293110705685 : Int64))).toUInt64 >>> ((54 : Int32) &&& 0x3f).toInt64.toUInt64).toInt64)) := ⟨_, rfl⟩
  rw [← hz4]
  show Run p e below s 0 0 (Q_rm2 Z q1 h0 n0) (T3.setTop (mkF m 35 #[.val (.long q1), .second, .val (.long z4), .second] []))
  refine Run.go (fun _ k => XS.lloadN X3.here hx rfl (hb hby d2_35) rfl  k) ?_
  show Run p e below s 0 0 (Q_rm2 Z q1 h0 n0) (T3.setTop (mkF m 36 #[.val (.long q1), .second, .val (.long z4), .second] [(.long z4)]))
  refine Run.go (fun _ k => X3.ldc2Long hx hown (mvT hZ (hw _ (List.mem_of_getElem? (i := 15) rfl))) (g := (mkF m 36 #[.val (.long q1), .second, .val (.long z4), .second] [(.long z4)])) rfl (hb hby d2_36) _ k) ?_
  show Run p e below s 0 0 (Q_rm2 Z q1 h0 n0) (T3.setTop (mkF m 39 #[.val (.long q1), .second, .val (.long z4), .second] [(.long (-4658895280553007687 : Int64)), (.long z4)]))
  obtain ⟨_, _, ⟨T5, L5, k5, n5⟩, -, X5, ⟨Lc5, hQ5, l5, y5, z5⟩, st5⟩ := Jvm.LawKit.callS X3 hx (y := (⟨"com/example/outlyr/outlyr/detect/SplitMixMixPinLaw", "inv", "(J)J"⟩ : MethodName)) hown (mvT hZ (hw _ (List.mem_of_getElem? (i := 11) rfl))) (mvT hZ (hw _ (List.mem_of_getElem? (i := 12) rfl))) (mvT hZ (hw _ (List.mem_of_getElem? (i := 8) rfl))) (mvT hZ (hw _ (List.mem_of_getElem? (i := 13) rfl))) (by decide) (backOf (W := 2) (rm3 l Z a0 hw [] (-4658895280553007687 : Int64) h0 n0 Z0 ) hZ (hw _ (List.mem_of_getElem? (i := 13) rfl)) (hw _ (List.mem_of_getElem? (i := 8) rfl)) (by decide) (by decide)) (g := (mkF m 39 #[.val (.long q1), .second, .val (.long z4), .second] [(.long (-4658895280553007687 : Int64)), (.long z4)])) rfl (by rw [hml]; rfl) (argsL := [(.long (-4658895280553007687 : Int64))]) (rest := [(.long z4)]) (lenOf pd_0 rfl) rfl (by show 2 * 0 + _ ≤ _; exact Nat.le_of_eq rfl) (hb hby d2_39) (fun _ _ => ⟨rfl, e3q, (by decide : 0 + 0 ≤ _), (by decide : 0 + 0 ≤ _)⟩)
  dsimp only [Pt.U, Pt.locs, Pt.cells, Pt.slots] at X5 l5 y5 z5 st5 hQ5
  subst l5 y5 z5
  obtain ⟨rfl, N5q, e5q⟩ := hQ5
  have N5 := Fr.app N3 N5q
  refine Run.go st5 ?_
  show Run p e below s 0 0 (Q_rm2 Z q1 h0 n0) (T5.setTop (mkF m 42 #[.val (.long q1), .second, .val (.long z4), .second] [(.long (F_rm3 (-4658895280553007687 : Int64))), (.long z4)]))
  refine Run.go (fun _ k => XS.lmul X5.here hx rfl (hb hby d2_42) rfl k) ?_
  show Run p e below s 0 0 (Q_rm2 Z q1 h0 n0) (T5.setTop (mkF m 43 #[.val (.long q1), .second, .val (.long z4), .second] [(.long (z4 * (F_rm3 (-4658895280553007687 : Int64))))]))
  refine Run.go (fun _ k => XS.lstoreN X5.here hx rfl (hb hby d2_43) rfl (l' := #[.val (.long q1), .second, .val (.long (z4 * (F_rm3 (-4658895280553007687 : Int64)))), .second]) rfl k) ?_
  show Run p e below s 0 0 (Q_rm2 Z q1 h0 n0) (T5.setTop (mkF m 44 #[.val (.long q1), .second, .val (.long (z4 * (F_rm3 (-4658895280553007687 : Int64)))), .second] []))
  refine Run.go (fun _ k => XS.lloadN X5.here hx rfl (hb hby d2_44) rfl  k) ?_
  show Run p e below s 0 0 (Q_rm2 Z q1 h0 n0) (T5.setTop (mkF m 45 #[.val (.long q1), .second, .val (.long (z4 * (F_rm3 (-4658895280553007687 : Int64)))), .second] [(.long (z4 * (F_rm3 (-4658895280553007687 : Int64))))]))
  refine Run.go (fun _ k => XS.lloadN X5.here hx rfl (hb hby d2_45) rfl  k) ?_
  show Run p e below s 0 0 (Q_rm2 Z q1 h0 n0) (T5.setTop (mkF m 46 #[.val (.long q1), .second, .val (.long (z4 * (F_rm3 (-4658895280553007687 : Int64)))), .second] [(.long (z4 * (F_rm3 (-4658895280553007687 : Int64)))), (.long (z4 * (F_rm3 (-4658895280553007687 : Int64))))]))
  refine Run.go (fun _ k => XS.bipush X5.here hx rfl (hb hby d2_46) k) ?_
  show Run p e below s 0 0 (Q_rm2 Z q1 h0 n0) (T5.setTop (mkF m 48 #[.val (.long q1), .second, .val (.long (z4 * (F_rm3 (-4658895280553007687 : Int64)))), .second] [(.int (30 : Int32)), (.long (z4 * (F_rm3 (-4658895280553007687 : Int64)))), (.long (z4 * (F_rm3 (-4658895280553007687 : Int64))))]))
  refine Run.go (fun _ k => XS.lushr X5.here hx rfl (hb hby d2_48) rfl k) ?_
  show Run p e below s 0 0 (Q_rm2 Z q1 h0 n0) (T5.setTop (mkF m 49 #[.val (.long q1), .second, .val (.long (z4 * (F_rm3 (-4658895280553007687 : Int64)))), .second] [(.long (((z4 * (F_rm3 (-4658895280553007687 : Int64))).toUInt64 >>> ((30 : Int32) &&& 0x3f).toInt64.toUInt64).toInt64)), (.long (z4 * (F_rm3 (-4658895280553007687 : Int64))))]))
  refine Run.go (fun _ k => XS.lxor X5.here hx rfl (hb hby d2_49) rfl k) ?_
  show Run p e below s 0 0 (Q_rm2 Z q1 h0 n0) (T5.setTop (mkF m 50 #[.val (.long q1), .second, .val (.long (z4 * (F_rm3 (-4658895280553007687 : Int64)))), .second] [(.long ((z4 * (F_rm3 (-4658895280553007687 : Int64))) ^^^ (((z4 * (F_rm3 (-4658895280553007687 : Int64))).toUInt64 >>> ((30 : Int32) &&& 0x3f).toInt64.toUInt64).toInt64)))]))
  refine Run.go (fun _ k => XS.lloadN X5.here hx rfl (hb hby d2_50) rfl  k) ?_
  show Run p e below s 0 0 (Q_rm2 Z q1 h0 n0) (T5.setTop (mkF m 51 #[.val (.long q1), .second, .val (.long (z4 * (F_rm3 (-4658895280553007687 : Int64)))), .second] [(.long (z4 * (F_rm3 (-4658895280553007687 : Int64)))), (.long ((z4 * (F_rm3 (-4658895280553007687 : Int64))) ^^^ (((z4 * (F_rm3 (-4658895280553007687 : Int64))).toUInt64 >>> ((30 : Int32) &&& 0x3f).toInt64.toUInt64).toInt64)))]))
  refine Run.go (fun _ k => XS.bipush X5.here hx rfl (hb hby d2_51) k) ?_
  show Run p e below s 0 0 (Q_rm2 Z q1 h0 n0) (T5.setTop (mkF m 53 #[.val (.long q1), .second, .val (.long (z4 * (F_rm3 (-4658895280553007687 : Int64)))), .second] [(.int (60 : Int32)), (.long (z4 * (F_rm3 (-4658895280553007687 : Int64)))), (.long ((z4 * (F_rm3 (-4658895280553007687 : Int64))) ^^^ (((z4 * (F_rm3 (-4658895280553007687 : Int64))).toUInt64 >>> ((30 : Int32) &&& 0x3f).toInt64.toUInt64).toInt64)))]))
  refine Run.go (fun _ k => XS.lushr X5.here hx rfl (hb hby d2_53) rfl k) ?_
  show Run p e below s 0 0 (Q_rm2 Z q1 h0 n0) (T5.setTop (mkF m 54 #[.val (.long q1), .second, .val (.long (z4 * (F_rm3 (-4658895280553007687 : Int64)))), .second] [(.long (((z4 * (F_rm3 (-4658895280553007687 : Int64))).toUInt64 >>> ((60 : Int32) &&& 0x3f).toInt64.toUInt64).toInt64)), (.long ((z4 * (F_rm3 (-4658895280553007687 : Int64))) ^^^ (((z4 * (F_rm3 (-4658895280553007687 : Int64))).toUInt64 >>> ((30 : Int32) &&& 0x3f).toInt64.toUInt64).toInt64)))]))
  refine Run.go (fun _ k => XS.lxor X5.here hx rfl (hb hby d2_54) rfl k) ?_
  show Run p e below s 0 0 (Q_rm2 Z q1 h0 n0) (T5.setTop (mkF m 55 #[.val (.long q1), .second, .val (.long (z4 * (F_rm3 (-4658895280553007687 : Int64)))), .second] [(.long (((z4 * (F_rm3 (-4658895280553007687 : Int64))) ^^^ (((z4 * (F_rm3 (-4658895280553007687 : Int64))).toUInt64 >>> ((30 : Int32) &&& 0x3f).toInt64.toUInt64).toInt64)) ^^^ (((z4 * (F_rm3 (-4658895280553007687 : Int64))).toUInt64 >>> ((60 : Int32) &&& 0x3f).toInt64.toUInt64).toInt64)))]))
  refine Run.go (fun _ k => XS.lstoreN X5.here hx rfl (hb hby d2_55) rfl (l' := #[.val (.long q1), .second, .val (.long (((z4 * (F_rm3 (-4658895280553007687 : Int64))) ^^^ (((z4 * (F_rm3 (-4658895280553007687 : Int64))).toUInt64 >>> ((30 : Int32) &&& 0x3f).toInt64.toUInt64).toInt64)) ^^^ (((z4 * (F_rm3 (-4658895280553007687 : Int64))).toUInt64 >>> ((60 : Int32) &&& 0x3f).toInt64.toUInt64).toInt64))), .second]) rfl k) ?_
  show Run p e below s 0 0 (Q_rm2 Z q1 h0 n0) (T5.setTop (mkF m 56 #[.val (.long q1), .second, .val (.long (((z4 * (F_rm3 (-4658895280553007687 : Int64))) ^^^ (((z4 * (F_rm3 (-4658895280553007687 : Int64))).toUInt64 >>> ((30 : Int32) &&& 0x3f).toInt64.toUInt64).toInt64)) ^^^ (((z4 * (F_rm3 (-4658895280553007687 : Int64))).toUInt64 >>> ((60 : Int32) &&& 0x3f).toInt64.toUInt64).toInt64))), .second] []))
  obtain ⟨z6, hz6⟩ : ∃ z, z = (((z4 * (F_rm3 (-4658895280553007687 : Int64))) ^^^ (((z4 * (F_rm3 (-4658895280553007687 : Int64))).toUInt64 >>> ((30 : Int32) &&& 0x3f).toInt64.toUInt64).toInt64)) ^^^ (((z4 * (F_rm3 (-4658895280553007687 : Int64))).toUInt64 >>> ((60 : Int32) &&& 0x3f).toInt64.toUInt64).toInt64)) := ⟨_, rfl⟩
  rw [← hz6]
  show Run p e below s 0 0 (Q_rm2 Z q1 h0 n0) (T5.setTop (mkF m 56 #[.val (.long q1), .second, .val (.long z6), .second] []))
  refine Run.go (fun _ k => XS.lloadN X5.here hx rfl (hb hby d2_56) rfl  k) ?_
  show Run p e below s 0 0 (Q_rm2 Z q1 h0 n0) (T5.setTop (mkF m 57 #[.val (.long q1), .second, .val (.long z6), .second] [(.long z6)]))
  refine Run.retJ X5 hx Bd.returns Bd.notSynchronized (hb hby d2_57) (by decide) (by decide) ?_
  show Q_rm2 Z q1 h0 n0 _ T5.heap _
  exact ⟨congrArg some (congrArg Value.long (show z6 = (F_rm2 q1) from (by subst hz6; subst hz4; subst hz2; unfold F_rm2; rfl))), N5, e5q⟩
theorem d1_0 : decode prog_11_method_4_code 0 = .ok (.lload_n 0, 1) := by decide +kernel
theorem d1_1 : decode prog_11_method_4_code 1 = .ok (.lstore_n 2, 1) := by decide +kernel
theorem d1_2 : decode prog_11_method_4_code 2 = .ok (.lload_n 2, 1) := by decide +kernel
theorem d1_3 : decode prog_11_method_4_code 3 = .ok (.lload_n 2, 1) := by decide +kernel
theorem d1_4 : decode prog_11_method_4_code 4 = .ok (.bipush 30, 2) := by decide +kernel
theorem d1_6 : decode prog_11_method_4_code 6 = .ok (.lushr, 1) := by decide +kernel
theorem d1_7 : decode prog_11_method_4_code 7 = .ok (.lxor, 1) := by decide +kernel
theorem d1_8 : decode prog_11_method_4_code 8 = .ok (.ldc2_w 36, 3) := by decide +kernel
theorem d1_11 : decode prog_11_method_4_code 11 = .ok (.lmul, 1) := by decide +kernel
theorem d1_12 : decode prog_11_method_4_code 12 = .ok (.lstore_n 2, 1) := by decide +kernel
theorem d1_13 : decode prog_11_method_4_code 13 = .ok (.lload_n 2, 1) := by decide +kernel
theorem d1_14 : decode prog_11_method_4_code 14 = .ok (.lload_n 2, 1) := by decide +kernel
theorem d1_15 : decode prog_11_method_4_code 15 = .ok (.bipush 27, 2) := by decide +kernel
theorem d1_17 : decode prog_11_method_4_code 17 = .ok (.lushr, 1) := by decide +kernel
theorem d1_18 : decode prog_11_method_4_code 18 = .ok (.lxor, 1) := by decide +kernel
theorem d1_19 : decode prog_11_method_4_code 19 = .ok (.ldc2_w 38, 3) := by decide +kernel
theorem d1_22 : decode prog_11_method_4_code 22 = .ok (.lmul, 1) := by decide +kernel
theorem d1_23 : decode prog_11_method_4_code 23 = .ok (.lstore_n 2, 1) := by decide +kernel
theorem d1_24 : decode prog_11_method_4_code 24 = .ok (.lload_n 2, 1) := by decide +kernel
theorem d1_25 : decode prog_11_method_4_code 25 = .ok (.lload_n 2, 1) := by decide +kernel
theorem d1_26 : decode prog_11_method_4_code 26 = .ok (.bipush 31, 2) := by decide +kernel
theorem d1_28 : decode prog_11_method_4_code 28 = .ok (.lushr, 1) := by decide +kernel
theorem d1_29 : decode prog_11_method_4_code 29 = .ok (.lxor, 1) := by decide +kernel
theorem d1_30 : decode prog_11_method_4_code 30 = .ok (.lreturn, 1) := by decide +kernel
def F_rm1 (q1 : Int64) : Int64 := let z2 : Int64 := ((q1 ^^^ ((q1.toUInt64 >>> ((30 : Int32) &&& 0x3f).toInt64.toUInt64).toInt64)) * (-4658895280553007687 : Int64)); let z3 : Int64 := ((z2 ^^^ ((z2.toUInt64 >>> ((27 : Int32) &&& 0x3f).toInt64.toUInt64).toInt64)) * (-7723592293110705685 : Int64)); (z3 ^^^ ((z3.toUInt64 >>> ((31 : Int32) &&& 0x3f).toInt64.toUInt64).toInt64))
def Q_rm1 (Z : State) (q1 : Int64) (h0 : Heap) (n0 : Nat) (v : Option Value) (h : Heap) (L : List Loc) : Prop := v = some (.long (F_rm1 q1)) ∧ Fr n0 L ∧ h = h0
theorem ef_rm1 (m : MethodId) (x0 : Int64) : entryFrame m #[(.long x0)] 4 = mkF m 0 #[.val (.long x0), .second, .unset, .unset] [] := by first | (simp [entryFrame, mkF, argsToLocals, Value.category]; done) | rfl
theorem pn_1 : plainName "com/example/outlyr/outlyr/detect/SplitMix" = true := by first | (simp [plainName, overriddenIn]; done) | decide +kernel
set_option maxRecDepth 65536 in
set_option maxHeartbeats 40000000 in
theorem rm1 (l : Launch) (Z : State) (a0 : Array Value) (hw : ∀ d ∈ tables_1, d.before a0 Z = true) (ws : List Jvm.Cond) (q1 : Int64) (h0 : Heap) (n0 : Nat) (Z0 : n0 ≤ h0.size)  :
    MetFree l (⟨"com/example/outlyr/outlyr/detect/SplitMix", "mix", "(J)J"⟩ : MethodName) (head1 (Jvm.Cond.code (⟨"com/example/outlyr/outlyr/detect/SplitMix", "mix", "(J)J"⟩ : MethodName) prog_11_method_4_code 4 (some .long) :: ws) ({ frames := 0, cells := 0, slots := 0, locals := 0 } : Room)) (fun a U => a = #[(.long q1)] ∧ Z.Warmed39 U.vm ∧ U.heap = h0) (fun _ _ _ _ _ => True) (fun _ U o U' => ∃ v L, o = .returned v ∧ Q_rm1 Z q1 h0 n0 v U'.heap L ∧ FrameEnd U o U' L ({ frames := 0, cells := 0, slots := 0, locals := 0 } : Room).cells ({ frames := 0, cells := 0, slots := 0, locals := 0 } : Room).slots) := by
  refine MetFree.of_bodySF (plainFor_of_name pn_1) hisR ?_
  intro p e s m args below meth c s₁ Bd hml0 hP hK
  obtain ⟨rfl, hZ, hh⟩ := hP
  have hx := Bd.exec
  have hby := Bd.bytes
  have hml : c.maxLocals = 4 := hml0
  have hown : s.vm.findClass "com/example/outlyr/outlyr/detect/SplitMix" = some m.cls := findClass_of_methodNamed Bd.named
  have hnm := (name_of_methodNamed Bd.named Bd.method).1
  have X0 : Stand p l e ({ frames := 0, cells := 0, slots := 0, locals := 0 } : Room) s m #[(.long q1)] below meth c s₁ [] 0 0 := Stand.of_body Bd
  have e0 : s₁.heap = h0 := by rw [← hh, Bd.state]; rfl
  have N0 := Fr.nil n0
  show Run p e below s 0 0 (Q_rm1 Z q1 h0 n0) (s₁.setTop (entryFrame m #[(.long q1)] 4))
  refine Run.go (fun _ k => castTop (ef_rm1 m q1) k) ?_
  show Run p e below s 0 0 (Q_rm1 Z q1 h0 n0) (s₁.setTop (mkF m 0 #[.val (.long q1), .second, .unset, .unset] []))
  refine Run.go (fun _ k => XS.lloadN X0.here hx rfl (hb hby d1_0) rfl  k) ?_
  show Run p e below s 0 0 (Q_rm1 Z q1 h0 n0) (s₁.setTop (mkF m 1 #[.val (.long q1), .second, .unset, .unset] [(.long q1)]))
  refine Run.go (fun _ k => XS.lstoreN X0.here hx rfl (hb hby d1_1) rfl (l' := #[.val (.long q1), .second, .val (.long q1), .second]) rfl k) ?_
  show Run p e below s 0 0 (Q_rm1 Z q1 h0 n0) (s₁.setTop (mkF m 2 #[.val (.long q1), .second, .val (.long q1), .second] []))
  refine Run.go (fun _ k => XS.lloadN X0.here hx rfl (hb hby d1_2) rfl  k) ?_
  show Run p e below s 0 0 (Q_rm1 Z q1 h0 n0) (s₁.setTop (mkF m 3 #[.val (.long q1), .second, .val (.long q1), .second] [(.long q1)]))
  refine Run.go (fun _ k => XS.lloadN X0.here hx rfl (hb hby d1_3) rfl  k) ?_
  show Run p e below s 0 0 (Q_rm1 Z q1 h0 n0) (s₁.setTop (mkF m 4 #[.val (.long q1), .second, .val (.long q1), .second] [(.long q1), (.long q1)]))
  refine Run.go (fun _ k => XS.bipush X0.here hx rfl (hb hby d1_4) k) ?_
  show Run p e below s 0 0 (Q_rm1 Z q1 h0 n0) (s₁.setTop (mkF m 6 #[.val (.long q1), .second, .val (.long q1), .second] [(.int (30 : Int32)), (.long q1), (.long q1)]))
  refine Run.go (fun _ k => XS.lushr X0.here hx rfl (hb hby d1_6) rfl k) ?_
  show Run p e below s 0 0 (Q_rm1 Z q1 h0 n0) (s₁.setTop (mkF m 7 #[.val (.long q1), .second, .val (.long q1), .second] [(.long ((q1.toUInt64 >>> ((30 : Int32) &&& 0x3f).toInt64.toUInt64).toInt64)), (.long q1)]))
  refine Run.go (fun _ k => XS.lxor X0.here hx rfl (hb hby d1_7) rfl k) ?_
  show Run p e below s 0 0 (Q_rm1 Z q1 h0 n0) (s₁.setTop (mkF m 8 #[.val (.long q1), .second, .val (.long q1), .second] [(.long (q1 ^^^ ((q1.toUInt64 >>> ((30 : Int32) &&& 0x3f).toInt64.toUInt64).toInt64)))]))
  refine Run.go (fun _ k => X0.ldc2Long hx hown (mvT hZ (hw _ (List.mem_of_getElem? (i := 4) rfl))) (g := (mkF m 8 #[.val (.long q1), .second, .val (.long q1), .second] [(.long (q1 ^^^ ((q1.toUInt64 >>> ((30 : Int32) &&& 0x3f).toInt64.toUInt64).toInt64)))])) rfl (hb hby d1_8) _ k) ?_
  show Run p e below s 0 0 (Q_rm1 Z q1 h0 n0) (s₁.setTop (mkF m 11 #[.val (.long q1), .second, .val (.long q1), .second] [(.long (-4658895280553007687 : Int64)), (.long (q1 ^^^ ((q1.toUInt64 >>> ((30 : Int32) &&& 0x3f).toInt64.toUInt64).toInt64)))]))
  refine Run.go (fun _ k => XS.lmul X0.here hx rfl (hb hby d1_11) rfl k) ?_
  show Run p e below s 0 0 (Q_rm1 Z q1 h0 n0) (s₁.setTop (mkF m 12 #[.val (.long q1), .second, .val (.long q1), .second] [(.long ((q1 ^^^ ((q1.toUInt64 >>> ((30 : Int32) &&& 0x3f).toInt64.toUInt64).toInt64)) * (-4658895280553007687 : Int64)))]))
  refine Run.go (fun _ k => XS.lstoreN X0.here hx rfl (hb hby d1_12) rfl (l' := #[.val (.long q1), .second, .val (.long ((q1 ^^^ ((q1.toUInt64 >>> ((30 : Int32) &&& 0x3f).toInt64.toUInt64).toInt64)) * (-4658895280553007687 : Int64))), .second]) rfl k) ?_
  show Run p e below s 0 0 (Q_rm1 Z q1 h0 n0) (s₁.setTop (mkF m 13 #[.val (.long q1), .second, .val (.long ((q1 ^^^ ((q1.toUInt64 >>> ((30 : Int32) &&& 0x3f).toInt64.toUInt64).toInt64)) * (-4658895280553007687 : Int64))), .second] []))
  obtain ⟨z2, hz2⟩ : ∃ z, z = ((q1 ^^^ ((q1.toUInt64 >>> ((30 : Int32) &&& 0x3f).toInt64.toUInt64).toInt64)) * (-4658895280553007687 : Int64)) := ⟨_, rfl⟩
  rw [← hz2]
  show Run p e below s 0 0 (Q_rm1 Z q1 h0 n0) (s₁.setTop (mkF m 13 #[.val (.long q1), .second, .val (.long z2), .second] []))
  refine Run.go (fun _ k => XS.lloadN X0.here hx rfl (hb hby d1_13) rfl  k) ?_
  show Run p e below s 0 0 (Q_rm1 Z q1 h0 n0) (s₁.setTop (mkF m 14 #[.val (.long q1), .second, .val (.long z2), .second] [(.long z2)]))
  refine Run.go (fun _ k => XS.lloadN X0.here hx rfl (hb hby d1_14) rfl  k) ?_
  show Run p e below s 0 0 (Q_rm1 Z q1 h0 n0) (s₁.setTop (mkF m 15 #[.val (.long q1), .second, .val (.long z2), .second] [(.long z2), (.long z2)]))
  refine Run.go (fun _ k => XS.bipush X0.here hx rfl (hb hby d1_15) k) ?_
  show Run p e below s 0 0 (Q_rm1 Z q1 h0 n0) (s₁.setTop (mkF m 17 #[.val (.long q1), .second, .val (.long z2), .second] [(.int (27 : Int32)), (.long z2), (.long z2)]))
  refine Run.go (fun _ k => XS.lushr X0.here hx rfl (hb hby d1_17) rfl k) ?_
  show Run p e below s 0 0 (Q_rm1 Z q1 h0 n0) (s₁.setTop (mkF m 18 #[.val (.long q1), .second, .val (.long z2), .second] [(.long ((z2.toUInt64 >>> ((27 : Int32) &&& 0x3f).toInt64.toUInt64).toInt64)), (.long z2)]))
  refine Run.go (fun _ k => XS.lxor X0.here hx rfl (hb hby d1_18) rfl k) ?_
  show Run p e below s 0 0 (Q_rm1 Z q1 h0 n0) (s₁.setTop (mkF m 19 #[.val (.long q1), .second, .val (.long z2), .second] [(.long (z2 ^^^ ((z2.toUInt64 >>> ((27 : Int32) &&& 0x3f).toInt64.toUInt64).toInt64)))]))
  refine Run.go (fun _ k => X0.ldc2Long hx hown (mvT hZ (hw _ (List.mem_of_getElem? (i := 5) rfl))) (g := (mkF m 19 #[.val (.long q1), .second, .val (.long z2), .second] [(.long (z2 ^^^ ((z2.toUInt64 >>> ((27 : Int32) &&& 0x3f).toInt64.toUInt64).toInt64)))])) rfl (hb hby d1_19) _ k) ?_
  show Run p e below s 0 0 (Q_rm1 Z q1 h0 n0) (s₁.setTop (mkF m 22 #[.val (.long q1), .second, .val (.long z2), .second] [(.long (-7723592293110705685 : Int64)), (.long (z2 ^^^ ((z2.toUInt64 >>> ((27 : Int32) &&& 0x3f).toInt64.toUInt64).toInt64)))]))
  refine Run.go (fun _ k => XS.lmul X0.here hx rfl (hb hby d1_22) rfl k) ?_
  show Run p e below s 0 0 (Q_rm1 Z q1 h0 n0) (s₁.setTop (mkF m 23 #[.val (.long q1), .second, .val (.long z2), .second] [(.long ((z2 ^^^ ((z2.toUInt64 >>> ((27 : Int32) &&& 0x3f).toInt64.toUInt64).toInt64)) * (-7723592293110705685 : Int64)))]))
  refine Run.go (fun _ k => XS.lstoreN X0.here hx rfl (hb hby d1_23) rfl (l' := #[.val (.long q1), .second, .val (.long ((z2 ^^^ ((z2.toUInt64 >>> ((27 : Int32) &&& 0x3f).toInt64.toUInt64).toInt64)) * (-7723592293110705685 : Int64))), .second]) rfl k) ?_
  show Run p e below s 0 0 (Q_rm1 Z q1 h0 n0) (s₁.setTop (mkF m 24 #[.val (.long q1), .second, .val (.long ((z2 ^^^ ((z2.toUInt64 >>> ((27 : Int32) &&& 0x3f).toInt64.toUInt64).toInt64)) * (-7723592293110705685 : Int64))), .second] []))
  obtain ⟨z3, hz3⟩ : ∃ z, z = ((z2 ^^^ ((z2.toUInt64 >>> ((27 : Int32) &&& 0x3f).toInt64.toUInt64).toInt64)) * (-7723592293110705685 : Int64)) := ⟨_, rfl⟩
  rw [← hz3]
  show Run p e below s 0 0 (Q_rm1 Z q1 h0 n0) (s₁.setTop (mkF m 24 #[.val (.long q1), .second, .val (.long z3), .second] []))
  refine Run.go (fun _ k => XS.lloadN X0.here hx rfl (hb hby d1_24) rfl  k) ?_
  show Run p e below s 0 0 (Q_rm1 Z q1 h0 n0) (s₁.setTop (mkF m 25 #[.val (.long q1), .second, .val (.long z3), .second] [(.long z3)]))
  refine Run.go (fun _ k => XS.lloadN X0.here hx rfl (hb hby d1_25) rfl  k) ?_
  show Run p e below s 0 0 (Q_rm1 Z q1 h0 n0) (s₁.setTop (mkF m 26 #[.val (.long q1), .second, .val (.long z3), .second] [(.long z3), (.long z3)]))
  refine Run.go (fun _ k => XS.bipush X0.here hx rfl (hb hby d1_26) k) ?_
  show Run p e below s 0 0 (Q_rm1 Z q1 h0 n0) (s₁.setTop (mkF m 28 #[.val (.long q1), .second, .val (.long z3), .second] [(.int (31 : Int32)), (.long z3), (.long z3)]))
  refine Run.go (fun _ k => XS.lushr X0.here hx rfl (hb hby d1_28) rfl k) ?_
  show Run p e below s 0 0 (Q_rm1 Z q1 h0 n0) (s₁.setTop (mkF m 29 #[.val (.long q1), .second, .val (.long z3), .second] [(.long ((z3.toUInt64 >>> ((31 : Int32) &&& 0x3f).toInt64.toUInt64).toInt64)), (.long z3)]))
  refine Run.go (fun _ k => XS.lxor X0.here hx rfl (hb hby d1_29) rfl k) ?_
  show Run p e below s 0 0 (Q_rm1 Z q1 h0 n0) (s₁.setTop (mkF m 30 #[.val (.long q1), .second, .val (.long z3), .second] [(.long (z3 ^^^ ((z3.toUInt64 >>> ((31 : Int32) &&& 0x3f).toInt64.toUInt64).toInt64)))]))
  refine Run.retJ X0 hx Bd.returns Bd.notSynchronized (hb hby d1_30) (by decide) (by decide) ?_
  show Q_rm1 Z q1 h0 n0 _ s₁.heap _
  exact ⟨congrArg some (congrArg Value.long (show (z3 ^^^ ((z3.toUInt64 >>> ((31 : Int32) &&& 0x3f).toInt64.toUInt64).toInt64)) = (F_rm1 q1) from (by subst hz3; subst hz2; unfold F_rm1; rfl))), N0, e0⟩
theorem own_xs (s : Nat) (hs : 64 ≤ 3 * s) (z : BitVec 64) : (z ^^^ z >>> s) ^^^ (z ^^^ z >>> s) >>> s ^^^ (z ^^^ z >>> s) >>> (2 * s) = z := by
  apply BitVec.eq_of_getLsbD_eq
  intro i hi
  simp only [BitVec.getLsbD_xor, BitVec.getLsbD_ushiftRight]
  have e1 : s + (s + i) = 2 * s + i := by omega
  have e2 : z.getLsbD (s + (2 * s + i)) = false := BitVec.getLsbD_of_ge _ _ (by omega)
  rw [e1, e2]
  cases z.getLsbD i <;> cases z.getLsbD (s + i) <;> cases z.getLsbD (2 * s + i) <;> rfl
theorem own_b (x y : Int64) (h : x.toBitVec = y.toBitVec) : x = y := Int64.toBitVec_inj.mp h
theorem own_x31 (z : Int64) : (z ^^^ ((z.toUInt64 >>> ((31 : Int32) &&& 0x3f).toInt64.toUInt64).toInt64)) ^^^ (((z ^^^ ((z.toUInt64 >>> ((31 : Int32) &&& 0x3f).toInt64.toUInt64).toInt64)).toUInt64 >>> ((31 : Int32) &&& 0x3f).toInt64.toUInt64).toInt64) ^^^ (((z ^^^ ((z.toUInt64 >>> ((31 : Int32) &&& 0x3f).toInt64.toUInt64).toInt64)).toUInt64 >>> ((62 : Int32) &&& 0x3f).toInt64.toUInt64).toInt64) = z := own_b _ _ (own_xs 31 (by decide) z.toBitVec)
theorem own_x27 (z : Int64) : (z ^^^ ((z.toUInt64 >>> ((27 : Int32) &&& 0x3f).toInt64.toUInt64).toInt64)) ^^^ (((z ^^^ ((z.toUInt64 >>> ((27 : Int32) &&& 0x3f).toInt64.toUInt64).toInt64)).toUInt64 >>> ((27 : Int32) &&& 0x3f).toInt64.toUInt64).toInt64) ^^^ (((z ^^^ ((z.toUInt64 >>> ((27 : Int32) &&& 0x3f).toInt64.toUInt64).toInt64)).toUInt64 >>> ((54 : Int32) &&& 0x3f).toInt64.toUInt64).toInt64) = z := own_b _ _ (own_xs 27 (by decide) z.toBitVec)
theorem own_x30 (z : Int64) : (z ^^^ ((z.toUInt64 >>> ((30 : Int32) &&& 0x3f).toInt64.toUInt64).toInt64)) ^^^ (((z ^^^ ((z.toUInt64 >>> ((30 : Int32) &&& 0x3f).toInt64.toUInt64).toInt64)).toUInt64 >>> ((30 : Int32) &&& 0x3f).toInt64.toUInt64).toInt64) ^^^ (((z ^^^ ((z.toUInt64 >>> ((30 : Int32) &&& 0x3f).toInt64.toUInt64).toInt64)).toUInt64 >>> ((60 : Int32) &&& 0x3f).toInt64.toUInt64).toInt64) = z := own_b _ _ (own_xs 30 (by decide) z.toBitVec)
theorem own_i1 : (-7723592293110705685 : Int64) * F_rm3 (-7723592293110705685 : Int64) = 1 := by decide +kernel
theorem own_i2 : (-4658895280553007687 : Int64) * F_rm3 (-4658895280553007687 : Int64) = 1 := by decide +kernel
theorem own_law (x : Int64) : F_rm2 (F_rm1 x) = x := by
  simp only [F_rm2, F_rm1]
  rw [own_x31, Int64.mul_assoc, own_i1, Int64.mul_one, own_x27, Int64.mul_assoc, own_i2, Int64.mul_one, own_x30]
def Q_rm0 (Z : State) (q1 : Int64) (h0 : Heap) (n0 : Nat) (v : Option Value) (h : Heap) (L : List Loc) : Prop := v = some (.int 1) ∧ Fr n0 L
theorem ef_rm0 (m : MethodId) (x0 : Int64) : entryFrame m #[(.long x0)] maxLocals = mkF m 0 #[.val (.long x0), .second] [] := by first | (simp [entryFrame, mkF, argsToLocals, Value.category, maxLocals]; done) | rfl
set_option maxRecDepth 65536 in
set_option maxHeartbeats 40000000 in
theorem rm0 (l : Launch) (Z : State) (a0 : Array Value) (hw : ∀ d ∈ tables_1, d.before a0 Z = true) (ws : List Jvm.Cond) (q1 : Int64) (h0 : Heap) (n0 : Nat) (Z0 : n0 ≤ h0.size)  :
    MetFree l x (head1 (Jvm.Cond.code x code maxLocals ret :: ws) room_1) (fun a U => a = #[(.long q1)] ∧ Z.Warmed39 U.vm ∧ U.heap = h0) (fun _ _ _ _ _ => True) (fun _ U o U' => ∃ v L, o = .returned v ∧ Q_rm0 Z q1 h0 n0 v U'.heap L ∧ FrameEnd U o U' L 0 0) := by
  refine MetFree.of_bodySF (plainFor_of_name pn_0) hisR ?_
  intro p e s m args below meth c s₁ Bd hml0 hP hK
  obtain ⟨rfl, hZ, hh⟩ := hP
  have hx := Bd.exec
  have hby := Bd.bytes
  have hml : c.maxLocals = 2 := hml0
  have hown : s.vm.findClass "com/example/outlyr/outlyr/detect/SplitMixMixPinLaw" = some m.cls := findClass_of_methodNamed Bd.named
  have hnm := (name_of_methodNamed Bd.named Bd.method).1
  have X0 : Stand p l e room_1 s m #[(.long q1)] below meth c s₁ [] 0 0 := Stand.of_body Bd
  have e0 : s₁.heap = h0 := by rw [← hh, Bd.state]; rfl
  have N0 := Fr.nil n0
  show Run p e below s 0 0 (Q_rm0 Z q1 h0 n0) (s₁.setTop (entryFrame m #[(.long q1)] maxLocals))
  refine Run.go (fun _ k => castTop (ef_rm0 m q1) k) ?_
  show Run p e below s 0 0 (Q_rm0 Z q1 h0 n0) (s₁.setTop (mkF m 0 #[.val (.long q1), .second] []))
  refine Run.go (fun _ k => XS.lloadN X0.here hx rfl (hb hby at_0) rfl  k) ?_
  show Run p e below s 0 0 (Q_rm0 Z q1 h0 n0) (s₁.setTop (mkF m 1 #[.val (.long q1), .second] [(.long q1)]))
  obtain ⟨_, _, ⟨T2, L2, k2, n2⟩, -, X2, ⟨Lc2, hQ2, l2, y2, z2⟩, st2⟩ := Jvm.LawKit.callS X0 hx (y := (⟨"com/example/outlyr/outlyr/detect/SplitMix", "mix", "(J)J"⟩ : MethodName)) hown (mvT hZ (hw _ (List.mem_of_getElem? (i := 0) rfl))) (mvT hZ (hw _ (List.mem_of_getElem? (i := 1) rfl))) (mvT hZ (hw _ (List.mem_of_getElem? (i := 2) rfl))) (mvT hZ (hw _ (List.mem_of_getElem? (i := 3) rfl))) (by decide) (backOf (W := 0) (rm1 l Z a0 hw [] q1 h0 n0 Z0 ) hZ (hw _ (List.mem_of_getElem? (i := 3) rfl)) (hw _ (List.mem_of_getElem? (i := 2) rfl)) (by decide) (by decide)) (g := (mkF m 1 #[.val (.long q1), .second] [(.long q1)])) rfl (by rw [hml]; rfl) (argsL := [(.long q1)]) (rest := []) (lenOf pd_0 rfl) rfl (by show 2 * 0 + _ ≤ _; exact Nat.le_of_eq rfl) (hb hby at_1) (fun _ _ => ⟨rfl, e0, (by decide : 0 + 0 ≤ _), (by decide : 0 + 0 ≤ _)⟩)
  dsimp only [Pt.U, Pt.locs, Pt.cells, Pt.slots] at X2 l2 y2 z2 st2 hQ2
  subst l2 y2 z2
  obtain ⟨rfl, N2q, e2q⟩ := hQ2
  have N2 := Fr.app N0 N2q
  refine Run.go st2 ?_
  show Run p e below s 0 0 (Q_rm0 Z q1 h0 n0) (T2.setTop (mkF m 4 #[.val (.long q1), .second] [(.long (F_rm1 q1))]))
  obtain ⟨_, _, ⟨T3, L3, k3, n3⟩, -, X3, ⟨Lc3, hQ3, l3, y3, z3⟩, st3⟩ := Jvm.LawKit.callS X2 hx (y := (⟨"com/example/outlyr/outlyr/detect/SplitMixMixPinLaw", "unmix", "(J)J"⟩ : MethodName)) hown (mvT hZ (hw _ (List.mem_of_getElem? (i := 6) rfl))) (mvT hZ (hw _ (List.mem_of_getElem? (i := 7) rfl))) (mvT hZ (hw _ (List.mem_of_getElem? (i := 8) rfl))) (mvT hZ (hw _ (List.mem_of_getElem? (i := 9) rfl))) (by decide) (backOf (W := 0) (rm2 l Z a0 hw [] (F_rm1 q1) h0 n0 Z0 ) hZ (hw _ (List.mem_of_getElem? (i := 9) rfl)) (hw _ (List.mem_of_getElem? (i := 8) rfl)) (by decide) (by decide)) (g := (mkF m 4 #[.val (.long q1), .second] [(.long (F_rm1 q1))])) rfl (by rw [hml]; rfl) (argsL := [(.long (F_rm1 q1))]) (rest := []) (lenOf pd_0 rfl) rfl (by show 2 * 0 + _ ≤ _; exact Nat.le_of_eq rfl) (hb hby at_4) (fun _ _ => ⟨rfl, e2q, (by decide : 0 + 0 ≤ _), (by decide : 0 + 0 ≤ _)⟩)
  dsimp only [Pt.U, Pt.locs, Pt.cells, Pt.slots] at X3 l3 y3 z3 st3 hQ3
  subst l3 y3 z3
  obtain ⟨rfl, N3q, e3q⟩ := hQ3
  have N3 := Fr.app N2 N3q
  refine Run.go st3 ?_
  show Run p e below s 0 0 (Q_rm0 Z q1 h0 n0) (T3.setTop (mkF m 7 #[.val (.long q1), .second] [(.long (F_rm2 (F_rm1 q1)))]))
  refine Run.go (fun _ k => XS.lloadN X3.here hx rfl (hb hby at_7) rfl  k) ?_
  show Run p e below s 0 0 (Q_rm0 Z q1 h0 n0) (T3.setTop (mkF m 8 #[.val (.long q1), .second] [(.long q1), (.long (F_rm2 (F_rm1 q1)))]))
  refine Run.go (fun _ k => XS.lcmp X3.here hx rfl (hb hby at_8) rfl k) ?_
  show Run p e below s 0 0 (Q_rm0 Z q1 h0 n0) (T3.setTop (mkF m 9 #[.val (.long q1), .second] [(.int (lcmpW (F_rm2 (F_rm1 q1)) q1))]))
  refine Run.go (fun _ k => XS.ifNo X3.here hx rfl (hb hby at_9) rfl ((if0 _ _).trans (teq ((lw_eq (F_rm2 (F_rm1 q1)) q1).mpr (own_law q1))).2) k) ?_
  show Run p e below s 0 0 (Q_rm0 Z q1 h0 n0) (T3.setTop (mkF m 12 #[.val (.long q1), .second] []))
  refine Run.go (fun _ k => XS.iconst X3.here hx rfl (hb hby at_12) k) ?_
  show Run p e below s 0 0 (Q_rm0 Z q1 h0 n0) (T3.setTop (mkF m 13 #[.val (.long q1), .second] [(.int (1 : Int32))]))
  refine Run.go (fun _ k => XS.goto X3.here hx rfl (pc0 := 13) (pc' := 17) rfl (hb hby at_13) (by decide) (by decide) k) ?_
  show Run p e below s 0 0 (Q_rm0 Z q1 h0 n0) (T3.setTop (mkF m 17 #[.val (.long q1), .second] [(.int (1 : Int32))]))
  exact Run.retN (y := 1) X3 hx (t := .boolean) Bd.returns (by simp) rfl Bd.notSynchronized (hb hby at_17) (by decide) (by decide) ⟨rfl, N3⟩
set_option maxRecDepth 65536 in
set_option maxHeartbeats 40000000 in
theorem comes_1 {Post : Tables → Env → Array Value → State → Outcome → State → Prop} (hpost : ∀ tb e args s v u, (limb_1_1.after args s (.returned v) u = true ∧ limb_1_2.after args s (.returned v) u = true ∧ True) → FrameEnd s (.returned v) u (Jvm.fieldLocs frame_1_writes args s ++ Jvm.arrayLocs frame_1_arrays args s ++ Jvm.staticLocs frame_1_statics s) 0 0 → Post tb e args s (.returned v) u) :
    ArmFor flags0 classFile x code maxLocals ret World_1 tables_1 room_1 Calls_1 rest_1 Pre_1 Post := by
  intro l hfl _ _ p e ha hc hk s m args below hf hA hF happ hP
  obtain ⟨hcalls, hrest, hpre⟩ := hP
  obtain ⟨-, -, -, hnamed, -, -, -, hat⟩ := (Spec.applies_iff hf).mp happ
  obtain ⟨hg, hn⟩ := and_e (Cond.before_iff.mp (show (Jvm.Cond.and given_1 narrow_1).before args s = true from hpre))
  obtain ⟨g1, g2⟩ := and_e hg
  obtain ⟨w0, rfl⟩ : ∃ w0 : Value, args = #[w0] := by
    have hs : args.size = 1 := by simpa [Cond.value, given_1] using g1
    obtain ⟨L⟩ := args
    match L, hs with
    | [w0], _ => exact ⟨w0, rfl⟩
  have hw := fun d (hd : d ∈ tables_1) => atoms_spec (ws := Jvm.Cond.code x code maxLocals ret :: tables_1) hat d (List.mem_cons_of_mem _ hd)
  have hfit : Fit s := fun {y c} hc i hi => by
    obtain ⟨ha, rfl⟩ := Array.getElem?_eq_some_iff.mp hc
    have q := List.all_eq_true.mp ((Array.all_eq_true_iff_forall_mem.mp hF) _ (Array.getElem_mem ha)) i (List.mem_range.mpr hi)
    simpa [Array.getElem?_eq_getElem hi] using q
  obtain ⟨i0, ei0⟩ := isL_v g2
  obtain rfl : w0 = (.long i0) := Option.some.inj ei0
  obtain ⟨n, o, h1, h2, h3, _, L, rfl, ⟨rfl, N⟩, hq⟩ := rm0 l s _ hw tables_1 i0 s.heap s.heap.size (Nat.le_refl _)  p e ha hc hk s m _ below hf ((Spec.applies_iff_loose hf).mp happ).1 ⟨rfl, State.Warmed39.refl s, rfl⟩ trivial
  refine ⟨n, _, h1, h2, h3, hpost _ _ _ _ _ _ ⟨Cond.after_iff.mpr rfl, Cond.after_iff.mpr (eq_i res_at (Term.int_eval (1)) rfl), trivial⟩ ⟨hq.1, hq.2.1, (hq.2.2.sift fun y hy => Or.inr (N y hy)).mono (by decide) (by decide)⟩⟩
theorem main_1_1 : Claimed_1_1 := comes_1 fun _ _ _ _ _ _ h hF => ⟨h.1, hF⟩
theorem main_1_2 : Claimed_1_2 := comes_1 fun _ _ _ _ _ _ h hF => ⟨h.2.1, hF⟩
end Jvm.Pilot.@@N@@
namespace Jvm.Pilot.@@N@@
open Jvm Jvm.ClassFile Sem Op Lib Jvm.Free Jvm.Stand Jvm.Pilot.@@N@@.Jvm.D
/-! MADE BY PROGRAM (witnessworld.py) out of the Statement's table words and the real class files: 9 classes; the members and pool entries that the words name. The judged class is class 1, her method 3. -/
namespace start1
open Jvm.ClassFile
def u (s : String) : CpInfo := .utf8 (stringToUtf16 s)
/-- a pool by its gaps: so many unusable entries, then the entry; so many at the end -/
def gap : Nat → List CpInfo → List CpInfo
  | 0, r => r
  | n + 1, r => .unusable :: gap n r
def poolList (es : List (Nat × CpInfo)) (last : Nat) : List CpInfo := es.foldr (fun e r => gap e.1 (e.2 :: r)) (gap last [])
def pool (es : List (Nat × CpInfo)) (last : Nat) : Array CpInfo := ⟨poolList es last⟩
def fileOf (pool : Array CpInfo) (this : Nat) (attrs : Array Attribute := #[]) (ms : Array MethodInfo := #[]) (fl : Nat := 33) (sup : Nat := 0) (ifs : Array Nat := #[]) (fds : Array FieldInfo := #[]) : ClassFile where
  minorVersion := 0
  majorVersion := 65
  constantPool := pool
  accessFlags := fl
  thisClass := this
  superClass := sup
  interfaces := ifs
  fields := fds
  methods := ms
  attributes := attrs
def plain (name : String) (sup : Option ClassId) : Class where
  name := name
  kind := .ordinary
  loader := none
  accessFlags := 33
  super := sup
  interfaces := #[]
  cf := none
  fields := #[]
  methods := #[]
  instanceTypes := #[]
  staticTypes := #[]
  resolved := #[]
  callSites := []
  init := .initialized
  statics := none
  mirror := none

def pool0 : Array CpInfo := pool [(5, u "<init>"), (0, u "()V"), (1, .class_ 10), (1, u "java/lang/Object")] 113

def k0m0 : Method := { name := "<init>", desc := "()V", sig := { parameters := [], returnType := none }, accessFlags := 1, code := none }
/-- java/lang/Object -/
def k0 : Class := { plain "java/lang/Object" none with
  accessFlags := 33
  interfaces := #[]
  cf := some (fileOf pool0 8 #[] #[{ accessFlags := 1, nameIndex := 5, descriptorIndex := 6, attributes := #[] }] 33 0 #[] #[])
  fields := #[]
  methods := #[k0m0]
  instanceTypes := #[]
  staticTypes := #[]
  resolved := Array.replicate 124 none
  statics := none }

def pool1 : Array CpInfo := pool [(2, .class_ 4), (1, u "java/lang/Object"), (0, u "<init>"), (0, u "()V"), (0, .long 2), (1, .long 10723151780598845931), (1, .methodref 12 13), (0, .class_ 14), (0, .nameAndType 15 16), (0, u "com/example/outlyr/outlyr/detect/SplitMixMixPinLaw"), (0, u "inv"), (0, u "(J)J"), (0, .long 13787848793156543929), (1, .methodref 20 21), (0, .class_ 22), (0, .nameAndType 23 16), (0, u "com/example/outlyr/outlyr/detect/SplitMix"), (0, u "mix"), (0, .methodref 12 25), (0, .nameAndType 26 16), (0, u "unmix"), (2, u "law"), (0, u "(J)Z")] 3

def k1m0 : Method := { name := "<init>", desc := "()V", sig := { parameters := [], returnType := none }, accessFlags := 1, code := none }
def k1c1 : Code := { maxStack := 8, maxLocals := 4, code := method_2_code, exceptionTable := #[], attributes := #[] }
def k1m1 : Method := { name := "inv", desc := "(J)J", sig := { parameters := [.long], returnType := some .long }, accessFlags := 10, code := some k1c1 }
def k1c2 : Code := { maxStack := 5, maxLocals := 4, code := method_3_code, exceptionTable := #[], attributes := #[] }
def k1m2 : Method := { name := "unmix", desc := "(J)J", sig := { parameters := [.long], returnType := some .long }, accessFlags := 10, code := some k1c2 }
def k1c3 : Code := { maxStack := 4, maxLocals := 2, code := code, exceptionTable := #[], attributes := #[] }
def k1m3 : Method := { name := "law", desc := "(J)Z", sig := { parameters := [.long], returnType := some .boolean }, accessFlags := 9, code := some k1c3 }
/-- com/example/outlyr/outlyr/detect/SplitMixMixPinLaw -/
def k1 : Class := { plain "com/example/outlyr/outlyr/detect/SplitMixMixPinLaw" (some 0) with
  accessFlags := 49
  interfaces := #[]
  cf := some (fileOf pool1 12 #[] #[{ accessFlags := 1, nameIndex := 5, descriptorIndex := 6, attributes := #[] }, { accessFlags := 10, nameIndex := 15, descriptorIndex := 16, attributes := #[] }, { accessFlags := 10, nameIndex := 26, descriptorIndex := 16, attributes := #[] }, { accessFlags := 9, nameIndex := 29, descriptorIndex := 30, attributes := #[] }] 49 2 #[] #[])
  fields := #[]
  methods := #[k1m0, k1m1, k1m2, k1m3]
  instanceTypes := #[]
  staticTypes := #[]
  resolved := Array.replicate 34 none
  statics := none }

def pool2 : Array CpInfo := pool [(2, .class_ 4), (1, u "java/lang/Object"), (3, .class_ 10), (1, u "com/example/outlyr/outlyr/detect/SplitMix"), (0, u "state"), (0, u "J"), (4, u "mix"), (0, u "(J)J"), (17, .long 13787848793156543929), (1, .long 10723151780598845931), (1, u "GOLDEN")] 24

def k2c0 : Code := { maxStack := 5, maxLocals := 4, code := prog_11_method_4_code, exceptionTable := #[], attributes := #[] }
def k2m0 : Method := { name := "mix", desc := "(J)J", sig := { parameters := [.long], returnType := some .long }, accessFlags := 8, code := some k2c0 }
/-- com/example/outlyr/outlyr/detect/SplitMix -/
def k2 : Class := { plain "com/example/outlyr/outlyr/detect/SplitMix" (some 0) with
  accessFlags := 33
  interfaces := #[]
  cf := some (fileOf pool2 8 #[] #[{ accessFlags := 8, nameIndex := 17, descriptorIndex := 18, attributes := #[] }] 33 2 #[] #[{ accessFlags := 24, nameIndex := 40, descriptorIndex := 12, attributes := #[] }, { accessFlags := 2, nameIndex := 11, descriptorIndex := 12, attributes := #[] }])
  fields := #[{ name := "GOLDEN", type := .long, accessFlags := 24, slot := 0, constantValue := 0 }, { name := "state", type := .long, accessFlags := 2, slot := 0, constantValue := 0 }]
  methods := #[k2m0]
  instanceTypes := #[.long]
  staticTypes := #[.long]
  resolved := Array.replicate 65 none
  statics := none }

def pool3 : Array CpInfo := pool [(1, u "java/lang/Cloneable"), (0, .class_ 1), (0, u "java/lang/Object"), (0, .class_ 3)] 3

/-- java/lang/Cloneable -/
def k3 : Class := { plain "java/lang/Cloneable" (some 0) with
  accessFlags := 1537
  interfaces := #[]
  cf := some (fileOf pool3 2 #[] #[] 1537 4 #[] #[])
  fields := #[]
  methods := #[]
  instanceTypes := #[]
  staticTypes := #[]
  resolved := Array.replicate 8 none
  statics := none }

def pool4 : Array CpInfo := pool [(1, u "java/io/Serializable"), (0, .class_ 1), (0, u "java/lang/Object"), (0, .class_ 3)] 3

/-- java/io/Serializable -/
def k4 : Class := { plain "java/io/Serializable" (some 0) with
  accessFlags := 1537
  interfaces := #[]
  cf := some (fileOf pool4 2 #[] #[] 1537 4 #[] #[])
  fields := #[]
  methods := #[]
  instanceTypes := #[]
  staticTypes := #[]
  resolved := Array.replicate 8 none
  statics := none }

/-- the primitive byte -/
def k5 : Class := { plain "byte" none with kind := .primitive 'B', accessFlags := 0x411 }
/-- [B -/
def k6 : Class := { plain "[B" (some 0) with kind := .array 5 .byte, interfaces := #[3, 4], accessFlags := 1041 }

/-- the primitive int -/
def k7 : Class := { plain "int" none with kind := .primitive 'I', accessFlags := 0x411 }
/-- [I -/
def k8 : Class := { plain "[I" (some 0) with kind := .array 7 .int, interfaces := #[3, 4], accessFlags := 1041 }

def heap : Heap := #[]
def classes : Array Class := #[k0, k1, k2, k3, k4, k5, k6, k7, k8]
def interned : List (Array UInt16 × Addr) := []
def slotsUsed : Nat := 0
def theMethod : MethodId := ⟨1, 3⟩
def args0 : Array Value := #[.long 5]
def aboutOver (below : List Frame) : State where
  vm := { classes := classes, interned := interned.toArray }
  heap := heap
  slotsUsed := slotsUsed
  threads := #[{ frames := .invoking theMethod args0 :: below }]
def below0 : List Frame := [.native { method := ⟨0, 0⟩, args := #[] }]
def about1 : State := aboutOver below0
def p0 : Program := .bare "" "" ""
def e0 : Env := launch0.env 0 0 0
theorem w_frames : about1.frames = Frame.invoking theMethod args0 :: below0 := rfl
set_option maxRecDepth 65536 in
theorem w_args : argsFit about1.vm theMethod args0 = true := by decide +kernel
set_option maxRecDepth 65536 in
theorem w_heap : heapFits about1 = true := by decide +kernel
set_option maxRecDepth 65536 in
theorem w_runnable : about1.curStatus? = some .runnable := by decide +kernel
set_option maxRecDepth 65536 in
theorem w_alone : about1.alone = true := by decide +kernel
set_option maxRecDepth 65536 in
theorem w_named : about1.methodNamed? x = some theMethod := by decide +kernel
set_option maxRecDepth 65536 in
theorem w_hears : about1.hears theMethod below0 = true := by decide +kernel
set_option maxRecDepth 65536 in
theorem w_ripe : about1.ripe theMethod args0 below0 = true := by decide +kernel
theorem w_running : about1.status = .running := rfl
set_option maxRecDepth 65536 in
theorem w_room : about1.hasRoom e0.platform room_1 = true :=
  launch0.hasRoom_least _ room_1 (by decide +kernel) (by decide +kernel) (by decide +kernel) (by decide +kernel) (by decide +kernel) (by decide +kernel)
theorem allAtoms_all (ts : List Jvm.Cond) (a : Array Jvm.Value) (st : Jvm.State) : (allAtoms ts).before a st = ts.all (fun c => c.before a st) := by
  induction ts with
  | nil => rfl
  | cons c t ih =>
    show (Jvm.Cond.and c (allAtoms t)).before a st = _
    rw [Jvm.Cond.before_and, ih, List.all_cons]
def words1 : List Jvm.Cond := Jvm.Cond.code x code maxLocals ret :: tables_1
/-- a 'code' word, met by the world's own term for the bytes: nothing is compared byte by byte -/
theorem code_word {y : MethodName} {bytes : ByteArray} {mx : Nat} {rt : Option FieldType} {a : Array Value} {s : State} {m : MethodId} {meth : Method} {c : Code} (h1 : s.methodNamed? y = some m) (h2 : s.vm.method? m = some meth) (h3 : meth.code = some c) (h4 : c.code = bytes)
    (h5 : (c.maxLocals == mx && c.exceptionTable.isEmpty && decide (c.maxStack ≤ mostOperands) && decide (meth.sig.returnType = rt) && !meth.locks && decide (parseMethodDescriptor y.desc = some meth.sig)) = true) : (Jvm.Cond.code y bytes mx rt).before a s = true := by
  simp only [Bool.and_eq_true, beq_iff_eq, Bool.not_eq_true', decide_eq_true_eq] at h5
  obtain ⟨⟨⟨⟨⟨g1, g2⟩, g3⟩, g4⟩, g5⟩, g6⟩ := h5
  simp [Cond.before, Cond.holds, Cond.value, h1, h2, h3, h4, g1, g2, g3, g4, g5, g6]
def isCode : Jvm.Cond → Bool
  | .code _ _ _ _ => true
  | _ => false
theorem all_split {L : List Jvm.Cond} {P : Jvm.Cond → Bool} (h1 : L.all (fun c => isCode c || P c) = true) (h2 : ∀ c ∈ L.filter isCode, P c = true) : L.all P = true := by
  refine List.all_eq_true.mpr fun c hc => ?_
  have h := List.all_eq_true.mp h1 c hc
  rcases Bool.eq_false_or_eq_true (isCode c) with hi | hi
  · exact h2 c (List.mem_filter.mpr ⟨hc, hi⟩)
  · simpa [hi] using h
set_option maxRecDepth 65536 in
theorem w_c0 : (Jvm.Cond.code x code maxLocals ret).before args0 about1 = true := code_word (m := ⟨1, 3⟩) (meth := k1m3) (c := k1c3) (by decide +kernel) rfl rfl rfl (by decide +kernel)
set_option maxRecDepth 65536 in
theorem w_c1 : (Jvm.Cond.code ({ cls := "com/example/outlyr/outlyr/detect/SplitMix", name := "mix", desc := "(J)J" } : Jvm.MethodName) prog_11_method_4_code (4 : Nat) (Option.some Jvm.ClassFile.FieldType.long)).before args0 about1 = true := code_word (m := ⟨2, 0⟩) (meth := k2m0) (c := k2c0) (by decide +kernel) rfl rfl rfl (by decide +kernel)
set_option maxRecDepth 65536 in
theorem w_c2 : (Jvm.Cond.code ({ cls := "com/example/outlyr/outlyr/detect/SplitMixMixPinLaw", name := "unmix", desc := "(J)J" } : Jvm.MethodName) method_3_code (4 : Nat) (Option.some Jvm.ClassFile.FieldType.long)).before args0 about1 = true := code_word (m := ⟨1, 2⟩) (meth := k1m2) (c := k1c2) (by decide +kernel) rfl rfl rfl (by decide +kernel)
set_option maxRecDepth 65536 in
theorem w_c3 : (Jvm.Cond.code ({ cls := "com/example/outlyr/outlyr/detect/SplitMixMixPinLaw", name := "inv", desc := "(J)J" } : Jvm.MethodName) method_2_code (4 : Nat) (Option.some Jvm.ClassFile.FieldType.long)).before args0 about1 = true := code_word (m := ⟨1, 1⟩) (meth := k1m1) (c := k1c1) (by decide +kernel) rfl rfl rfl (by decide +kernel)
def codes1 : List Jvm.Cond := [Jvm.Cond.code x code maxLocals ret, Jvm.Cond.code ({ cls := "com/example/outlyr/outlyr/detect/SplitMix", name := "mix", desc := "(J)J" } : Jvm.MethodName) prog_11_method_4_code (4 : Nat) (Option.some Jvm.ClassFile.FieldType.long), Jvm.Cond.code ({ cls := "com/example/outlyr/outlyr/detect/SplitMixMixPinLaw", name := "unmix", desc := "(J)J" } : Jvm.MethodName) method_3_code (4 : Nat) (Option.some Jvm.ClassFile.FieldType.long), Jvm.Cond.code ({ cls := "com/example/outlyr/outlyr/detect/SplitMixMixPinLaw", name := "inv", desc := "(J)J" } : Jvm.MethodName) method_2_code (4 : Nat) (Option.some Jvm.ClassFile.FieldType.long)]
set_option maxRecDepth 65536 in
theorem codes_eq : words1.filter isCode = codes1 := rfl
theorem w_codes : ∀ c ∈ words1.filter isCode, c.before args0 about1 = true := by
  rw [codes_eq]
  intro c hc
  simp only [codes1, List.mem_cons, List.not_mem_nil, or_false] at hc
  rcases hc with rfl | rfl | rfl | rfl
  · exact w_c0
  · exact w_c1
  · exact w_c2
  · exact w_c3
set_option maxRecDepth 65536 in
theorem w_t1 : words1.all (fun c => isCode c || c.before args0 about1) = true := by decide +kernel
theorem w_tables : (allAtoms (Jvm.Cond.code x code maxLocals ret :: tables_1)).before args0 about1 = true := by
  rw [allAtoms_all]
  show words1.all (fun c => c.before args0 about1) = true
  refine all_split ?_ w_codes
  rw [w_t1]
set_option maxRecDepth 65536 in
theorem w_case : (Jvm.Cond.and given_1 narrow_1).before args0 about1 = true := by decide +kernel
theorem w_applies : (headSpec (Jvm.Cond.code x code maxLocals ret :: tables_1) room_1).applies x e0.platform about1 = true :=
  (Spec.applies_iff w_frames).mpr ⟨w_running, w_runnable, w_alone, w_named, w_hears, w_ripe, w_room, w_tables⟩
theorem atStart : AtStart classFile x code maxLocals ret World_1 tables_1 room_1 Calls_1 rest_1 Pre_1 launch0 p0 e0 about1 theMethod args0 below0 :=
  ⟨lists_1, trivial, launch0.admits_env _ _ _, launch0.least_env, fairChoices_fair.cas, fairChoices_fair.clock, w_frames, w_args, w_heap, w_applies, trivial, trivial, w_case⟩
end start1
theorem witness_1 : WitnessClaimed_1 := ⟨start1.p0, start1.e0, start1.about1, start1.theMethod, start1.args0, start1.below0, start1.atStart⟩
end Jvm.Pilot.@@N@@
