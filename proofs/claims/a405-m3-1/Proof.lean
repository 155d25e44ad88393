import JvmDerived
import JvmDerived.Pilot.@@N@@Statement
import JvmDerived.Pilot.@@N@@Code
set_option linter.unusedVariables false
set_option linter.unusedSimpArgs false
namespace Jvm.Pilot.@@N@@
open Jvm Jvm.ClassFile Sem Op Lib Jvm.Free Jvm.Stand Jvm.LawKit Jvm.RoadKit Bundle Jvm.Pilot.@@N@@.Jvm.D
section Own
variable {p : Program} {l : Launch} {e : Env} {R : Room} {s : State} {m : MethodId} {args : Array Value} {below : List Frame} {meth : Method} {c : Code} {T : State} {locs : List Loc} {cells slots : Nat} {Z : State} {h h' : Heap}
def Run (p : Program) (e : Env) (below : List Frame) (s : State) (C N : Nat) (Q : Option Value → Heap → List Loc → Prop) (S : State) : Prop :=
  ∃ s₂ o, Steps p.tables e below S s₂ ∧ s₂.status = .running ∧ Ended s₂ below o ∧ ∃ v L, o = .returned v ∧ Q v s₂.heap L ∧ FrameEnd s o s₂ L C N
variable {C N : Nat} {Q : Option Value → Heap → List Loc → Prop} {S S' : State}
theorem Run.go (k : ∀ t, Steps p.tables e below S' t → Steps p.tables e below S t) (r : Run p e below s C N Q S') : Run p e below s C N Q S := by
  obtain ⟨s₂, o, h1, r⟩ := r
  exact ⟨s₂, o, k _ h1, r⟩
theorem Run.tr (k : Steps p.tables e below S S') (r : Run p e below s C N Q S') : Run p e below s C N Q S := by
  obtain ⟨s₂, o, h1, r⟩ := r
  exact ⟨s₂, o, k.trans h1, r⟩
theorem Run.retI (X : Stand p l e R s m args below meth c T locs cells slots) (hx : p.tables.exec = Jvm.exec) {pc : Nat} {Ls : Array Slot} {z : Int32} {rest : List Value} (hret : meth.sig.returnType = some .int) (hlk : meth.locks = false) (hd : decode c.code pc = .ok (.ireturn, 1)) (hc : cells ≤ C) (hn : slots ≤ N)
    (hQ : Q (some (.int z)) T.heap locs) : Run p e below s C N Q (T.setTop (mkF m pc Ls (.int z :: rest))) := by
  obtain ⟨fs, hr, hrun, hended, hW, hsame⟩ := X.leave (v := some (.int z)) (fun q => by rw [hret] at q; cases q)
  refine ⟨_, _, ?_, hrun, hended, _, _, rfl, hQ, ⟨_, rfl⟩, hW, hsame.mono hc hn⟩
  have hm' : T.vm.method? m = some meth := X.method'
  have hn : narrow .int (.int z) = .int z := rfl
  show Steps p.tables e below (T.setTop { method := m, pc := pc, locals := Ls, stack := _ :: rest, locked := none }) _
  jvm_step X.here [X.here.top, hx, hd, hm', hret, hn]
  first | (intro acts; rw [hr _ acts rfl rfl rfl]) | rw [hr _ _ rfl rfl rfl]
  exact Steps.refl _
theorem Run.retN (X : Stand p l e R s m args below meth c T locs cells slots) (hx : p.tables.exec = Jvm.exec) {pc : Nat} {Ls : Array Slot} {z y : Int32} {t : FieldType} {rest : List Value} (hret : meth.sig.returnType = some t) (ht : t = .boolean ∨ t = .byte ∨ t = .char ∨ t = .short) (hy : nar t z = y) (hlk : meth.locks = false) (hd : decode c.code pc = .ok (.ireturn, 1)) (hc : cells ≤ C) (hn : slots ≤ N)
    (hQ : Q (some (.int y)) T.heap locs) : Run p e below s C N Q (T.setTop (mkF m pc Ls (.int z :: rest))) := by
  subst hy
  obtain ⟨fs, hr, hrun, hended, hW, hsame⟩ := X.leave (v := some (.int (nar t z))) (fun q => by rw [hret] at q; cases q)
  exact ⟨_, _, Jvm.RoadKit.retN X hx hret ht hd hr, hrun, hended, _, _, rfl, hQ, ⟨_, rfl⟩, hW, hsame.mono hc hn⟩
theorem Run.retJ (X : Stand p l e R s m args below meth c T locs cells slots) (hx : p.tables.exec = Jvm.exec) {pc : Nat} {Ls : Array Slot} {z : Int64} {rest : List Value} (hret : meth.sig.returnType = some .long) (hlk : meth.locks = false) (hd : decode c.code pc = .ok (.lreturn, 1)) (hc : cells ≤ C) (hn : slots ≤ N)
    (hQ : Q (some (.long z)) T.heap locs) : Run p e below s C N Q (T.setTop (mkF m pc Ls (.long z :: rest))) := by
  obtain ⟨fs, hr, hrun, hended, hW, hsame⟩ := X.leave (v := some (.long z)) (fun q => by rw [hret] at q; cases q)
  refine ⟨_, _, ?_, hrun, hended, _, _, rfl, hQ, ⟨_, rfl⟩, hW, hsame.mono hc hn⟩
  have hm' : T.vm.method? m = some meth := X.method'
  show Steps p.tables e below (T.setTop { method := m, pc := pc, locals := Ls, stack := _ :: rest, locked := none }) _
  jvm_step X.here [X.here.top, hx, hd, hm', hret, narrow]
  first | (intro acts; rw [hr _ acts rfl rfl rfl]) | rw [hr _ _ rfl rfl rfl]
  exact Steps.refl _
theorem Run.retA (X : Stand p l e R s m args below meth c T locs cells slots) (hx : p.tables.exec = Jvm.exec) {pc : Nat} {Ls : Array Slot} {w : Value} {t : FieldType} {rest : List Value} (hw : w.isRef = true) (hret : meth.sig.returnType = some t) (ht : t.isReference = true) (hlk : meth.locks = false) (hd : decode c.code pc = .ok (.areturn, 1)) (hc : cells ≤ C) (hn : slots ≤ N)
    (hQ : Q (some w) T.heap locs) : Run p e below s C N Q (T.setTop (mkF m pc Ls (w :: rest))) := by
  obtain ⟨fs, hr, hrun, hended, hW, hsame⟩ := X.leave (v := some w) (fun q => by rw [hret] at q; cases q)
  refine ⟨_, _, ?_, hrun, hended, _, _, rfl, hQ, ⟨_, rfl⟩, hW, hsame.mono hc hn⟩
  have hm' : T.vm.method? m = some meth := X.method'
  show Steps p.tables e below (T.setTop { method := m, pc := pc, locals := Ls, stack := _ :: rest, locked := none }) _
  rcases ref_cases hw with rfl | ⟨a, rfl⟩
  all_goals
    jvm_step X.here [X.here.top, hx, hd, hm', hret, Value.isRef, ht]
    first | (intro acts; rw [hr _ acts rfl rfl rfl]) | rw [hr _ _ rfl rfl rfl]
    exact Steps.refl _
theorem Run.ret0 (X : Stand p l e R s m args below meth c T locs cells slots) (hx : p.tables.exec = Jvm.exec) {pc : Nat} {Ls : Array Slot} (hret : meth.sig.returnType = none) (hlk : meth.locks = false) (hd : decode c.code pc = .ok (.return_, 1)) (hc : cells ≤ C) (hn : slots ≤ N)
    (hQ : Q none T.heap locs) : Run p e below s C N Q (T.setTop (mkF m pc Ls [])) := by
  obtain ⟨fs, hr, hrun, hended, hW, hsame⟩ := X.leave (v := none) (fun _ => rfl)
  exact ⟨_, _, X.returnOut hx hret hd hr, hrun, hended, _, _, rfl, hQ, ⟨_, rfl⟩, hW, hsame.mono hc hn⟩
theorem Sta.keep {C n d : String} {w : Value} {ws : List Addr} (F : Sta Z h C n d w) (K : Keep h h' ws) (q : ∀ x ∈ ws, ∀ c : Cell, h[x]? = some c → c.vm.isStatics = false) : Sta Z h' C n d w := by
  obtain ⟨cf, i, k, f, st, cell, h1, h2, h3, h4, h5, h6, h7⟩ := F
  refine ⟨cf, i, k, f, st, cell, h1, h2, h3, h4, K.2.1 st cell h5 (fun hm => ?_), h6, h7⟩
  rw [q st hm cell h5] at h6; cases h6
theorem Exa.nst {a : Addr} {C : String} (F : Exa Z h a C) : ∀ c : Cell, h[a]? = some c → c.vm.isStatics = false := fun c q => by
  obtain ⟨cell, k, h1, -, -, h4, -⟩ := F
  cases h1.symm.trans q; exact h4
/-- an array of n elements, the i-th is f i -/
def Ary (Z : State) (h : Heap) (a : Addr) (ty : FieldType) (n : Nat) (f : Nat → Value) : Prop := ∃ c : Cell, Arr Z h a c ty ∧ c.slots.size = n ∧ ∀ i, i < n → c.slots[i]? = some (f i)
variable {a b : Addr} {ty : FieldType} {n sl : Nat} {f : Nat → Value} {v : Value} {ws : List Addr}
theorem Ary.lt (F : Ary Z h a ty n f) : a < h.size := by obtain ⟨c, A, -⟩ := F; exact A.lt
theorem Ary.ext (F : Ary Z h a ty n f) (E : Ext h h') : Ary Z h' a ty n f := by obtain ⟨c, A, r⟩ := F; exact ⟨c, A.ext E, r⟩
theorem Ary.other (F : Ary Z h b ty n f) (W : Wr h h' a sl v) (q : b ≠ a) : Ary Z h' b ty n f := by obtain ⟨c, A, r⟩ := F; exact ⟨c, A.other W q, r⟩
theorem Ary.keep (F : Ary Z h a ty n f) (K : Keep h h' ws) (q : a ∉ ws) : Ary Z h' a ty n f := by obtain ⟨c, A, r⟩ := F; exact ⟨c, ⟨K.2.1 a c A.1 q, A.2⟩, r⟩
theorem Ary.ne {C : String} {a0 : Array Value} {k : Nat} (F : Ary Z h a ty n f) (G : Exa Z h b C) (wi : (Jvm.Cond.instantiable C k).before a0 Z = true) : a ≠ b := by
  obtain ⟨c, A, r⟩ := F; exact (ne_arr G wi A).symm
theorem Ary.same (F : Ary Z h a ty n f) (W : Wr h h' a sl v) : Ary Z h' a ty n (fun i => if i = sl then v else f i) := by
  obtain ⟨c, A, hs, hf⟩ := F
  obtain ⟨c1, q1, q2, q3, q4⟩ := W
  obtain rfl := Option.some.inj (q1.symm.trans A.1)
  refine ⟨c1.setSlot sl v, A.same ⟨c1, q1, q2, q3, q4⟩, by simp [Cell.setSlot, hs], fun i hi => ?_⟩
  by_cases e : i = sl
  · subst e; simp [Cell.setSlot, q3]
  · simp only [if_neg e]; rw [← hf i hi]; exact Array.getElem?_setIfInBounds_ne (Ne.symm e)
theorem Ary.nst (F : Ary Z h a ty n f) : ∀ c : Cell, h[a]? = some c → c.vm.isStatics = false := fun c q => by
  obtain ⟨cl, A, -⟩ := F
  cases A.1.symm.trans q; exact A.plain
theorem Ary.congr {g : Nat → Value} (F : Ary Z h a ty n f) (q : ∀ i, i < n → f i = g i) : Ary Z h a ty n g := by
  obtain ⟨c, A, hs, hf⟩ := F; exact ⟨c, A, hs, fun i hi => by rw [hf i hi, q i hi]⟩
theorem Ary.new {k : ClassId} {z : Int32} (A : Arr Z h a (newA k ty z) ty) (q : z.toNatClampNeg = n) : Ary Z h a ty n (fun _ => defaultValue ty) := by
  subst q
  exact ⟨_, A, sz_new _ _ _, fun i hi => by simp [newA, hi]⟩
theorem out_of {j : Int32} {c : Cell} (hs : c.slots.size = n) (h0 : ¬ j < 0) (hj : j.toNatClampNeg < n) : ¬ (j < 0 ∨ c.slots.size ≤ j.toNatClampNeg) := by
  rw [hs]; exact fun q => q.elim h0 (fun q => absurd hj (Nat.not_lt.mpr q))
/-- an array of references: besides, its class is that of arrays over C -/
def ArR (Z : State) (h : Heap) (a : Addr) (C : String) (n : Nat) (f : Nat → Value) : Prop := ∃ c : Cell, Arr Z h a c (.object C) ∧ Ovr Z c.cls C ∧ c.slots.size = n ∧ ∀ i, i < n → c.slots[i]? = some (f i)
variable {K : String}
theorem ArR.lt (F : ArR Z h a K n f) : a < h.size := by obtain ⟨c, A, -⟩ := F; exact A.lt
theorem ArR.ext (F : ArR Z h a K n f) (E : Ext h h') : ArR Z h' a K n f := by obtain ⟨c, A, r⟩ := F; exact ⟨c, A.ext E, r⟩
theorem ArR.other (F : ArR Z h b K n f) (W : Wr h h' a sl v) (q : b ≠ a) : ArR Z h' b K n f := by obtain ⟨c, A, r⟩ := F; exact ⟨c, A.other W q, r⟩
theorem ArR.keep (F : ArR Z h a K n f) (k : Keep h h' ws) (q : a ∉ ws) : ArR Z h' a K n f := by obtain ⟨c, A, r⟩ := F; exact ⟨c, ⟨k.2.1 a c A.1 q, A.2⟩, r⟩
theorem ArR.ary (F : ArR Z h a K n f) : Ary Z h a (.object K) n f := by obtain ⟨c, A, -, r⟩ := F; exact ⟨c, A, r⟩
theorem ArR.same (F : ArR Z h a K n f) (W : Wr h h' a sl v) : ArR Z h' a K n (fun i => if i = sl then v else f i) := by
  obtain ⟨c, A, o, hs, hf⟩ := F
  obtain ⟨c1, q1, q2, q3, q4⟩ := W
  obtain rfl := Option.some.inj (q1.symm.trans A.1)
  refine ⟨c1.setSlot sl v, A.same ⟨c1, q1, q2, q3, q4⟩, o, by simp [Cell.setSlot, hs], fun i hi => ?_⟩
  by_cases e : i = sl
  · subst e; simp [Cell.setSlot, q3]
  · simp only [if_neg e]; rw [← hf i hi]; exact Array.getElem?_setIfInBounds_ne (Ne.symm e)
theorem ArR.new {k : ClassId} {z : Int32} (A : Arr Z h a (newA k (.object K) z) (.object K)) (O : Ovr Z k K) (q : z.toNatClampNeg = n) : ArR Z h a K n (fun _ => .null) := by
  subst q
  exact ⟨_, A, O, sz_new _ _ _, fun i hi => by simp [newA, hi]; rfl⟩
section Arrays
theorem ary_iget (X : Stand p l e R s m args below meth c T locs cells slots) (hx : p.tables.exec = Jvm.exec) (hZ : Z.Warmed39 s.vm) (eT : T.heap = h) (A : Ary Z h a .int n f) {j : Int32} (h0 : ¬ j < 0) (hj : j.toNatClampNeg < n) {g : JFrame} (hg : g.method = m) {rest : List Value} (hs : g.stack = .int j :: .ref a :: rest) (hd : decode c.code g.pc = .ok (.iaload, 1)) {v : Value} (hv : f j.toNatClampNeg = v) (target : State)
    (k : Steps p.tables e below (T.setTop { g with pc := g.pc + 1, stack := v :: rest }) target) : Steps p.tables e below (T.setTop g) target := by
  subst hv; obtain ⟨cl, A, q, F⟩ := A
  exact X.iaload hx (by rw [eT]; exact A.1) (State.isArrayOf_alike hZ.alike A.2.1) A.2.2 (out_of q h0 hj) (F _ hj) hg hs hd target k
theorem ary_lget (X : Stand p l e R s m args below meth c T locs cells slots) (hx : p.tables.exec = Jvm.exec) (hZ : Z.Warmed39 s.vm) (eT : T.heap = h) (A : Ary Z h a .long n f) {j : Int32} (h0 : ¬ j < 0) (hj : j.toNatClampNeg < n) {g : JFrame} (hg : g.method = m) {rest : List Value} (hs : g.stack = .int j :: .ref a :: rest) (hd : decode c.code g.pc = .ok (.laload, 1)) {v : Value} (hv : f j.toNatClampNeg = v) (target : State)
    (k : Steps p.tables e below (T.setTop { g with pc := g.pc + 1, stack := v :: rest }) target) : Steps p.tables e below (T.setTop g) target := by
  subst hv; obtain ⟨cl, A, q, F⟩ := A
  exact X.laload hx (by rw [eT]; exact A.1) (State.isArrayOf_alike hZ.alike A.2.1) A.2.2 (out_of q h0 hj) (F _ hj) hg hs hd target k
theorem ary_bget (X : Stand p l e R s m args below meth c T locs cells slots) (hx : p.tables.exec = Jvm.exec) (hZ : Z.Warmed39 s.vm) (eT : T.heap = h) (A : Ary Z h a .byte n f) {j : Int32} (h0 : ¬ j < 0) (hj : j.toNatClampNeg < n) {g : JFrame} (hg : g.method = m) {rest : List Value} (hs : g.stack = .int j :: .ref a :: rest) (hd : decode c.code g.pc = .ok (.baload, 1)) {v : Value} (hv : f j.toNatClampNeg = v) (target : State)
    (k : Steps p.tables e below (T.setTop { g with pc := g.pc + 1, stack := v :: rest }) target) : Steps p.tables e below (T.setTop g) target := by
  subst hv; obtain ⟨cl, A, q, F⟩ := A
  exact X.baloadBytes hx (by rw [eT]; exact A.1) (State.isArrayOf_alike hZ.alike A.2.1) A.2.2 (out_of q h0 hj) (F _ hj) hg hs hd target k
theorem ary_cget (X : Stand p l e R s m args below meth c T locs cells slots) (hx : p.tables.exec = Jvm.exec) (hZ : Z.Warmed39 s.vm) (eT : T.heap = h) (A : Ary Z h a .char n f) {j : Int32} (h0 : ¬ j < 0) (hj : j.toNatClampNeg < n) {g : JFrame} (hg : g.method = m) {rest : List Value} (hs : g.stack = .int j :: .ref a :: rest) (hd : decode c.code g.pc = .ok (.caload, 1)) {v : Value} (hv : f j.toNatClampNeg = v) (target : State)
    (k : Steps p.tables e below (T.setTop { g with pc := g.pc + 1, stack := v :: rest }) target) : Steps p.tables e below (T.setTop g) target := by
  subst hv; obtain ⟨cl, A, q, F⟩ := A
  exact X.caload hx (by rw [eT]; exact A.1) (State.isArrayOf_alike hZ.alike A.2.1) A.2.2 (out_of q h0 hj) (F _ hj) hg hs hd target k
theorem ary_aget (X : Stand p l e R s m args below meth c T locs cells slots) (hx : p.tables.exec = Jvm.exec) (hZ : Z.Warmed39 s.vm) (eT : T.heap = h) (A : Ary Z h a ty n f) (hr : ty.isReference = true) {j : Int32} (h0 : ¬ j < 0) (hj : j.toNatClampNeg < n) {g : JFrame} (hg : g.method = m) {rest : List Value} (hs : g.stack = .int j :: .ref a :: rest) (hd : decode c.code g.pc = .ok (.aaload, 1)) {v : Value} (hv : f j.toNatClampNeg = v) (target : State)
    (k : Steps p.tables e below (T.setTop { g with pc := g.pc + 1, stack := v :: rest }) target) : Steps p.tables e below (T.setTop g) target := by
  subst hv; obtain ⟨cl, A, q, F⟩ := A
  exact X.aaload hx (by rw [eT]; exact A.1) (State.isArrayOf_alike hZ.alike A.2.1) hr A.2.2 (out_of q h0 hj) (F _ hj) hg hs hd target k
theorem ary_len (X : Stand p l e R s m args below meth c T locs cells slots) (hx : p.tables.exec = Jvm.exec) (hZ : Z.Warmed39 s.vm) (eT : T.heap = h) (A : Ary Z h a ty n f) {g : JFrame} (hg : g.method = m) {rest : List Value} (hs : g.stack = .ref a :: rest) (hd : decode c.code g.pc = .ok (.arraylength, 1)) {z : Int32} (hv : n.toInt32 = z) (target : State)
    (k : Steps p.tables e below (T.setTop { g with pc := g.pc + 1, stack := .int z :: rest }) target) : Steps p.tables e below (T.setTop g) target := by
  subst hv; obtain ⟨cl, A, q, F⟩ := A
  subst q
  exact X.arraylength hx (by rw [eT]; exact A.1) (State.isArrayOf_alike hZ.alike A.2.1) hg hs hd target k
theorem ary_iset (X : Stand p l e R s m args below meth c T locs cells slots) (hx : p.tables.exec = Jvm.exec) (hZ : Z.Warmed39 s.vm) (eT : T.heap = h) (A : Ary Z h a .int n f) {j x : Int32} (h0 : ¬ j < 0) (hj : j.toNatClampNeg < n) {g : JFrame} (hg : g.method = m) {rest : List Value} (hs : g.stack = .int x :: .int j :: .ref a :: rest) (hd : decode c.code g.pc = .ok (.iastore, 1)) :
    ∃ T' h', Stand p l e R s m args below meth c T' (locs ++ [⟨a, j.toNatClampNeg⟩]) cells slots ∧ T'.heap = h' ∧ Wr h h' a j.toNatClampNeg (.int x) ∧ ∀ target, Steps p.tables e below (T'.setTop { g with pc := g.pc + 1, stack := rest }) target → Steps p.tables e below (T.setTop g) target := by
  obtain ⟨cl, A, q, F⟩ := A
  exact stI X hx hZ eT A (out_of q h0 hj) hg hs hd
theorem ary_lset (X : Stand p l e R s m args below meth c T locs cells slots) (hx : p.tables.exec = Jvm.exec) (hZ : Z.Warmed39 s.vm) (eT : T.heap = h) (A : Ary Z h a .long n f) {j : Int32} {x : Int64} (h0 : ¬ j < 0) (hj : j.toNatClampNeg < n) {g : JFrame} (hg : g.method = m) {rest : List Value} (hs : g.stack = .long x :: .int j :: .ref a :: rest) (hd : decode c.code g.pc = .ok (.lastore, 1)) :
    ∃ T' h', Stand p l e R s m args below meth c T' (locs ++ [⟨a, j.toNatClampNeg⟩]) cells slots ∧ T'.heap = h' ∧ Wr h h' a j.toNatClampNeg (.long x) ∧ ∀ target, Steps p.tables e below (T'.setTop { g with pc := g.pc + 1, stack := rest }) target → Steps p.tables e below (T.setTop g) target := by
  obtain ⟨cl, A, q, F⟩ := A
  exact stJ X hx hZ eT A (out_of q h0 hj) hg hs hd
theorem ary_bset (X : Stand p l e R s m args below meth c T locs cells slots) (hx : p.tables.exec = Jvm.exec) (hZ : Z.Warmed39 s.vm) (eT : T.heap = h) (A : Ary Z h a .byte n f) {j x y : Int32} (h0 : ¬ j < 0) (hj : j.toNatClampNeg < n) {g : JFrame} (hg : g.method = m) {rest : List Value} (hs : g.stack = .int x :: .int j :: .ref a :: rest) (hd : decode c.code g.pc = .ok (.bastore, 1)) (hy : x.toInt8.toInt32 = y) :
    ∃ T' h', Stand p l e R s m args below meth c T' (locs ++ [⟨a, j.toNatClampNeg⟩]) cells slots ∧ T'.heap = h' ∧ Wr h h' a j.toNatClampNeg (.int y) ∧ ∀ target, Steps p.tables e below (T'.setTop { g with pc := g.pc + 1, stack := rest }) target → Steps p.tables e below (T.setTop g) target := by
  subst hy; obtain ⟨cl, A, q, F⟩ := A
  exact stB X hx hZ eT A (out_of q h0 hj) hg hs hd
theorem ary_cset (X : Stand p l e R s m args below meth c T locs cells slots) (hx : p.tables.exec = Jvm.exec) (hZ : Z.Warmed39 s.vm) (eT : T.heap = h) (A : Ary Z h a .char n f) {j x y : Int32} (h0 : ¬ j < 0) (hj : j.toNatClampNeg < n) {g : JFrame} (hg : g.method = m) {rest : List Value} (hs : g.stack = .int x :: .int j :: .ref a :: rest) (hd : decode c.code g.pc = .ok (.castore, 1)) (hy : nar .char x = y) :
    ∃ T' h', Stand p l e R s m args below meth c T' (locs ++ [⟨a, j.toNatClampNeg⟩]) cells slots ∧ T'.heap = h' ∧ Wr h h' a j.toNatClampNeg (.int y) ∧ ∀ target, Steps p.tables e below (T'.setTop { g with pc := g.pc + 1, stack := rest }) target → Steps p.tables e below (T.setTop g) target := by
  subst hy; obtain ⟨cl, A, q, F⟩ := A
  exact stC X hx hZ eT A (out_of q h0 hj) hg hs hd
theorem arr_set (X : Stand p l e R s m args below meth c T locs cells slots) (hx : p.tables.exec = Jvm.exec) (hZ : Z.Warmed39 s.vm) (eT : T.heap = h) (A : ArR Z h a K n f) {j : Int32} {y : Addr} (I : Ins Z h y K true) (h0 : ¬ j < 0) (hj : j.toNatClampNeg < n) {g : JFrame} (hg : g.method = m) {rest : List Value} (hs : g.stack = .ref y :: .int j :: .ref a :: rest) (hd : decode c.code g.pc = .ok (.aastore, 1)) :
    ∃ T' h', Stand p l e R s m args below meth c T' (locs ++ [⟨a, j.toNatClampNeg⟩]) cells slots ∧ T'.heap = h' ∧ Wr h h' a j.toNatClampNeg (.ref y) ∧ ∀ target, Steps p.tables e below (T'.setTop { g with pc := g.pc + 1, stack := rest }) target → Steps p.tables e below (T.setTop g) target := by
  obtain ⟨cl, A, O, q, F⟩ := A
  exact stR X hx hZ eT A (out_of q h0 hj) rfl (Sto.of A O I) hg hs hd
end Arrays
theorem nar_ite (P : Prop) [Decidable P] : nar .boolean (if P then (1 : Int32) else 0) = if P then 1 else 0 := by by_cases q : P <;> simp [q] <;> rfl
theorem b_idem (x : Int32) : x.toInt8.toInt32.toInt8.toInt32 = x.toInt8.toInt32 := by rw [Int8.toInt8_toInt32]
theorem isI_c (x : Int32) : ∀ n : Nat, ∃ y, (fun _ => Value.int x) n = Value.int y := fun _ => ⟨x, rfl⟩
theorem isI_s {f : Nat → Value} (q : ∀ n, ∃ y, f n = Value.int y) (k : Nat) (x : Int32) : ∀ n, ∃ y, (fun i => if i = k then Value.int x else f i) n = Value.int y := fun n => by
  by_cases e : n = k
  · exact ⟨x, if_pos e⟩
  · obtain ⟨y, hy⟩ := q n
    exact ⟨y, (if_neg e).trans hy⟩
end Own
theorem own_g2 (x : Int64) : (x + (-7046029254386353131 : Int64)) + (-7046029254386353131 : Int64) = x + (4354685564936845354 : Int64) := by
  rw [Int64.add_assoc, show (-7046029254386353131 : Int64) + (-7046029254386353131 : Int64) = (4354685564936845354 : Int64) from by decide +kernel]
theorem own_g3 (x : Int64) : ((x + (-7046029254386353131 : Int64)) + (-7046029254386353131 : Int64)) + (-7046029254386353131 : Int64) = x + (-2691343689449507777 : Int64) := by
  rw [own_g2, Int64.add_assoc]; exact congrArg (x + ·) (by decide +kernel)
theorem d4_0 : decode prog_11_method_4_code 0 = .ok (.lload_n 0, 1) := by decide +kernel
theorem d4_1 : decode prog_11_method_4_code 1 = .ok (.lstore_n 2, 1) := by decide +kernel
theorem d4_2 : decode prog_11_method_4_code 2 = .ok (.lload_n 2, 1) := by decide +kernel
theorem d4_3 : decode prog_11_method_4_code 3 = .ok (.lload_n 2, 1) := by decide +kernel
theorem d4_4 : decode prog_11_method_4_code 4 = .ok (.bipush 30, 2) := by decide +kernel
theorem d4_6 : decode prog_11_method_4_code 6 = .ok (.lushr, 1) := by decide +kernel
theorem d4_7 : decode prog_11_method_4_code 7 = .ok (.lxor, 1) := by decide +kernel
theorem d4_8 : decode prog_11_method_4_code 8 = .ok (.ldc2_w 36, 3) := by decide +kernel
theorem d4_11 : decode prog_11_method_4_code 11 = .ok (.lmul, 1) := by decide +kernel
theorem d4_12 : decode prog_11_method_4_code 12 = .ok (.lstore_n 2, 1) := by decide +kernel
theorem d4_13 : decode prog_11_method_4_code 13 = .ok (.lload_n 2, 1) := by decide +kernel
theorem d4_14 : decode prog_11_method_4_code 14 = .ok (.lload_n 2, 1) := by decide +kernel
theorem d4_15 : decode prog_11_method_4_code 15 = .ok (.bipush 27, 2) := by decide +kernel
theorem d4_17 : decode prog_11_method_4_code 17 = .ok (.lushr, 1) := by decide +kernel
theorem d4_18 : decode prog_11_method_4_code 18 = .ok (.lxor, 1) := by decide +kernel
theorem d4_19 : decode prog_11_method_4_code 19 = .ok (.ldc2_w 38, 3) := by decide +kernel
theorem d4_22 : decode prog_11_method_4_code 22 = .ok (.lmul, 1) := by decide +kernel
theorem d4_23 : decode prog_11_method_4_code 23 = .ok (.lstore_n 2, 1) := by decide +kernel
theorem d4_24 : decode prog_11_method_4_code 24 = .ok (.lload_n 2, 1) := by decide +kernel
theorem d4_25 : decode prog_11_method_4_code 25 = .ok (.lload_n 2, 1) := by decide +kernel
theorem d4_26 : decode prog_11_method_4_code 26 = .ok (.bipush 31, 2) := by decide +kernel
theorem d4_28 : decode prog_11_method_4_code 28 = .ok (.lushr, 1) := by decide +kernel
theorem d4_29 : decode prog_11_method_4_code 29 = .ok (.lxor, 1) := by decide +kernel
theorem d4_30 : decode prog_11_method_4_code 30 = .ok (.lreturn, 1) := by decide +kernel
def F_rm4 (q1 : Int64) : Int64 := let z2 : Int64 := ((q1 ^^^ ((q1.toUInt64 >>> ((30 : Int32) &&& 0x3f).toInt64.toUInt64).toInt64)) * (-4658895280553007687 : Int64)); let z3 : Int64 := ((z2 ^^^ ((z2.toUInt64 >>> ((27 : Int32) &&& 0x3f).toInt64.toUInt64).toInt64)) * (-7723592293110705685 : Int64)); (z3 ^^^ ((z3.toUInt64 >>> ((31 : Int32) &&& 0x3f).toInt64.toUInt64).toInt64))
def Q_rm4 (Z : State) (q1 : Int64) (h0 : Heap) (n0 : Nat) (v : Option Value) (h : Heap) (L : List Loc) : Prop := v = some (.long (F_rm4 q1)) ∧ Fr n0 L ∧ h = h0
theorem ef_rm4 (m : MethodId) (x0 : Int64) : entryFrame m #[(.long x0)] 4 = mkF m 0 #[.val (.long x0), .second, .unset, .unset] [] := by first | (simp [entryFrame, mkF, argsToLocals, Value.category]; done) | rfl
theorem pn_0 : plainName "com/example/outlyr/outlyr/detect/SplitMix" = true := by first | (simp [plainName, overriddenIn]; done) | decide +kernel
set_option maxRecDepth 65536 in
set_option maxHeartbeats 40000000 in
theorem rm4 (l : Launch) (Z : State) (a0 : Array Value) (hw : ∀ d ∈ tables_1, d.before a0 Z = true) (ws : List Jvm.Cond) (q1 : Int64) (h0 : Heap) (n0 : Nat) (Z0 : n0 ≤ h0.size)  :
    MetFree l (⟨"com/example/outlyr/outlyr/detect/SplitMix", "mix", "(J)J"⟩ : MethodName) (head1 (Jvm.Cond.code (⟨"com/example/outlyr/outlyr/detect/SplitMix", "mix", "(J)J"⟩ : MethodName) prog_11_method_4_code 4 (some .long) :: ws) ({ frames := 0, cells := 0, slots := 0, locals := 0 } : Room)) (fun a U => a = #[(.long q1)] ∧ Z.Warmed39 U.vm ∧ U.heap = h0) (fun _ _ _ _ _ => True) (fun _ U o U' => ∃ v L, o = .returned v ∧ Q_rm4 Z q1 h0 n0 v U'.heap L ∧ FrameEnd U o U' L ({ frames := 0, cells := 0, slots := 0, locals := 0 } : Room).cells ({ frames := 0, cells := 0, slots := 0, locals := 0 } : Room).slots) := by
  refine MetFree.of_bodySF (plainFor_of_name pn_0) hisR ?_
  intro p e s m args below meth c s₁ Bd hml0 hP hK
  obtain ⟨rfl, hZ, hh⟩ := hP
  have hx := Bd.exec
  have hby := Bd.bytes
  have hml : c.maxLocals = 4 := hml0
  have hown : s.vm.findClass "com/example/outlyr/outlyr/detect/SplitMix" = some m.cls := findClass_of_methodNamed Bd.named
  have hnm := (name_of_methodNamed Bd.named Bd.method).1
  have X0 : Stand p l e ({ frames := 0, cells := 0, slots := 0, locals := 0 } : Room) s m #[(.long q1)] below meth c s₁ [] 0 0 := Stand.of_body Bd
  have e0 : s₁.heap = h0 := by rw [← hh, Bd.state]; rfl
  have N0 := Fr.nil n0
  show Run p e below s 0 0 (Q_rm4 Z q1 h0 n0) (s₁.setTop (entryFrame m #[(.long q1)] 4))
  refine Run.go (fun _ k => castTop (ef_rm4 m q1) k) ?_
  show Run p e below s 0 0 (Q_rm4 Z q1 h0 n0) (s₁.setTop (mkF m 0 #[.val (.long q1), .second, .unset, .unset] []))
  refine Run.go (fun _ k => XS.lloadN X0.here hx rfl (hb hby d4_0) rfl  k) ?_
  show Run p e below s 0 0 (Q_rm4 Z q1 h0 n0) (s₁.setTop (mkF m 1 #[.val (.long q1), .second, .unset, .unset] [(.long q1)]))
  refine Run.go (fun _ k => XS.lstoreN X0.here hx rfl (hb hby d4_1) rfl (l' := #[.val (.long q1), .second, .val (.long q1), .second]) rfl k) ?_
  show Run p e below s 0 0 (Q_rm4 Z q1 h0 n0) (s₁.setTop (mkF m 2 #[.val (.long q1), .second, .val (.long q1), .second] []))
  refine Run.go (fun _ k => XS.lloadN X0.here hx rfl (hb hby d4_2) rfl  k) ?_
  show Run p e below s 0 0 (Q_rm4 Z q1 h0 n0) (s₁.setTop (mkF m 3 #[.val (.long q1), .second, .val (.long q1), .second] [(.long q1)]))
  refine Run.go (fun _ k => XS.lloadN X0.here hx rfl (hb hby d4_3) rfl  k) ?_
  show Run p e below s 0 0 (Q_rm4 Z q1 h0 n0) (s₁.setTop (mkF m 4 #[.val (.long q1), .second, .val (.long q1), .second] [(.long q1), (.long q1)]))
  refine Run.go (fun _ k => XS.bipush X0.here hx rfl (hb hby d4_4) k) ?_
  show Run p e below s 0 0 (Q_rm4 Z q1 h0 n0) (s₁.setTop (mkF m 6 #[.val (.long q1), .second, .val (.long q1), .second] [(.int (30 : Int32)), (.long q1), (.long q1)]))
  refine Run.go (fun _ k => XS.lushr X0.here hx rfl (hb hby d4_6) rfl k) ?_
  show Run p e below s 0 0 (Q_rm4 Z q1 h0 n0) (s₁.setTop (mkF m 7 #[.val (.long q1), .second, .val (.long q1), .second] [(.long ((q1.toUInt64 >>> ((30 : Int32) &&& 0x3f).toInt64.toUInt64).toInt64)), (.long q1)]))
  refine Run.go (fun _ k => XS.lxor X0.here hx rfl (hb hby d4_7) rfl k) ?_
  show Run p e below s 0 0 (Q_rm4 Z q1 h0 n0) (s₁.setTop (mkF m 8 #[.val (.long q1), .second, .val (.long q1), .second] [(.long (q1 ^^^ ((q1.toUInt64 >>> ((30 : Int32) &&& 0x3f).toInt64.toUInt64).toInt64)))]))
  refine Run.go (fun _ k => X0.ldc2Long hx hown (mvT hZ (hw _ (List.mem_of_getElem? (i := 21) rfl))) (g := (mkF m 8 #[.val (.long q1), .second, .val (.long q1), .second] [(.long (q1 ^^^ ((q1.toUInt64 >>> ((30 : Int32) &&& 0x3f).toInt64.toUInt64).toInt64)))])) rfl (hb hby d4_8) _ k) ?_
  show Run p e below s 0 0 (Q_rm4 Z q1 h0 n0) (s₁.setTop (mkF m 11 #[.val (.long q1), .second, .val (.long q1), .second] [(.long (-4658895280553007687 : Int64)), (.long (q1 ^^^ ((q1.toUInt64 >>> ((30 : Int32) &&& 0x3f).toInt64.toUInt64).toInt64)))]))
  refine Run.go (fun _ k => XS.lmul X0.here hx rfl (hb hby d4_11) rfl k) ?_
  show Run p e below s 0 0 (Q_rm4 Z q1 h0 n0) (s₁.setTop (mkF m 12 #[.val (.long q1), .second, .val (.long q1), .second] [(.long ((q1 ^^^ ((q1.toUInt64 >>> ((30 : Int32) &&& 0x3f).toInt64.toUInt64).toInt64)) * (-4658895280553007687 : Int64)))]))
  refine Run.go (fun _ k => XS.lstoreN X0.here hx rfl (hb hby d4_12) rfl (l' := #[.val (.long q1), .second, .val (.long ((q1 ^^^ ((q1.toUInt64 >>> ((30 : Int32) &&& 0x3f).toInt64.toUInt64).toInt64)) * (-4658895280553007687 : Int64))), .second]) rfl k) ?_
  show Run p e below s 0 0 (Q_rm4 Z q1 h0 n0) (s₁.setTop (mkF m 13 #[.val (.long q1), .second, .val (.long ((q1 ^^^ ((q1.toUInt64 >>> ((30 : Int32) &&& 0x3f).toInt64.toUInt64).toInt64)) * (-4658895280553007687 : Int64))), .second] []))
  obtain ⟨z2, hz2⟩ : ∃ z, z = ((q1 ^^^ ((q1.toUInt64 >>> ((30 : Int32) &&& 0x3f).toInt64.toUInt64).toInt64)) * (-4658895280553007687 : Int64)) := ⟨_, rfl⟩
  rw [← hz2]
  show Run p e below s 0 0 (Q_rm4 Z q1 h0 n0) (s₁.setTop (mkF m 13 #[.val (.long q1), .second, .val (.long z2), .second] []))
  refine Run.go (fun _ k => XS.lloadN X0.here hx rfl (hb hby d4_13) rfl  k) ?_
  show Run p e below s 0 0 (Q_rm4 Z q1 h0 n0) (s₁.setTop (mkF m 14 #[.val (.long q1), .second, .val (.long z2), .second] [(.long z2)]))
  refine Run.go (fun _ k => XS.lloadN X0.here hx rfl (hb hby d4_14) rfl  k) ?_
  show Run p e below s 0 0 (Q_rm4 Z q1 h0 n0) (s₁.setTop (mkF m 15 #[.val (.long q1), .second, .val (.long z2), .second] [(.long z2), (.long z2)]))
  refine Run.go (fun _ k => XS.bipush X0.here hx rfl (hb hby d4_15) k) ?_
  show Run p e below s 0 0 (Q_rm4 Z q1 h0 n0) (s₁.setTop (mkF m 17 #[.val (.long q1), .second, .val (.long z2), .second] [(.int (27 : Int32)), (.long z2), (.long z2)]))
  refine Run.go (fun _ k => XS.lushr X0.here hx rfl (hb hby d4_17) rfl k) ?_
  show Run p e below s 0 0 (Q_rm4 Z q1 h0 n0) (s₁.setTop (mkF m 18 #[.val (.long q1), .second, .val (.long z2), .second] [(.long ((z2.toUInt64 >>> ((27 : Int32) &&& 0x3f).toInt64.toUInt64).toInt64)), (.long z2)]))
  refine Run.go (fun _ k => XS.lxor X0.here hx rfl (hb hby d4_18) rfl k) ?_
  show Run p e below s 0 0 (Q_rm4 Z q1 h0 n0) (s₁.setTop (mkF m 19 #[.val (.long q1), .second, .val (.long z2), .second] [(.long (z2 ^^^ ((z2.toUInt64 >>> ((27 : Int32) &&& 0x3f).toInt64.toUInt64).toInt64)))]))
  refine Run.go (fun _ k => X0.ldc2Long hx hown (mvT hZ (hw _ (List.mem_of_getElem? (i := 22) rfl))) (g := (mkF m 19 #[.val (.long q1), .second, .val (.long z2), .second] [(.long (z2 ^^^ ((z2.toUInt64 >>> ((27 : Int32) &&& 0x3f).toInt64.toUInt64).toInt64)))])) rfl (hb hby d4_19) _ k) ?_
  show Run p e below s 0 0 (Q_rm4 Z q1 h0 n0) (s₁.setTop (mkF m 22 #[.val (.long q1), .second, .val (.long z2), .second] [(.long (-7723592293110705685 : Int64)), (.long (z2 ^^^ ((z2.toUInt64 >>> ((27 : Int32) &&& 0x3f).toInt64.toUInt64).toInt64)))]))
  refine Run.go (fun _ k => XS.lmul X0.here hx rfl (hb hby d4_22) rfl k) ?_
  show Run p e below s 0 0 (Q_rm4 Z q1 h0 n0) (s₁.setTop (mkF m 23 #[.val (.long q1), .second, .val (.long z2), .second] [(.long ((z2 ^^^ ((z2.toUInt64 >>> ((27 : Int32) &&& 0x3f).toInt64.toUInt64).toInt64)) * (-7723592293110705685 : Int64)))]))
  refine Run.go (fun _ k => XS.lstoreN X0.here hx rfl (hb hby d4_23) rfl (l' := #[.val (.long q1), .second, .val (.long ((z2 ^^^ ((z2.toUInt64 >>> ((27 : Int32) &&& 0x3f).toInt64.toUInt64).toInt64)) * (-7723592293110705685 : Int64))), .second]) rfl k) ?_
  show Run p e below s 0 0 (Q_rm4 Z q1 h0 n0) (s₁.setTop (mkF m 24 #[.val (.long q1), .second, .val (.long ((z2 ^^^ ((z2.toUInt64 >>> ((27 : Int32) &&& 0x3f).toInt64.toUInt64).toInt64)) * (-7723592293110705685 : Int64))), .second] []))
  obtain ⟨z3, hz3⟩ : ∃ z, z = ((z2 ^^^ ((z2.toUInt64 >>> ((27 : Int32) &&& 0x3f).toInt64.toUInt64).toInt64)) * (-7723592293110705685 : Int64)) := ⟨_, rfl⟩
  rw [← hz3]
  show Run p e below s 0 0 (Q_rm4 Z q1 h0 n0) (s₁.setTop (mkF m 24 #[.val (.long q1), .second, .val (.long z3), .second] []))
  refine Run.go (fun _ k => XS.lloadN X0.here hx rfl (hb hby d4_24) rfl  k) ?_
  show Run p e below s 0 0 (Q_rm4 Z q1 h0 n0) (s₁.setTop (mkF m 25 #[.val (.long q1), .second, .val (.long z3), .second] [(.long z3)]))
  refine Run.go (fun _ k => XS.lloadN X0.here hx rfl (hb hby d4_25) rfl  k) ?_
  show Run p e below s 0 0 (Q_rm4 Z q1 h0 n0) (s₁.setTop (mkF m 26 #[.val (.long q1), .second, .val (.long z3), .second] [(.long z3), (.long z3)]))
  refine Run.go (fun _ k => XS.bipush X0.here hx rfl (hb hby d4_26) k) ?_
  show Run p e below s 0 0 (Q_rm4 Z q1 h0 n0) (s₁.setTop (mkF m 28 #[.val (.long q1), .second, .val (.long z3), .second] [(.int (31 : Int32)), (.long z3), (.long z3)]))
  refine Run.go (fun _ k => XS.lushr X0.here hx rfl (hb hby d4_28) rfl k) ?_
  show Run p e below s 0 0 (Q_rm4 Z q1 h0 n0) (s₁.setTop (mkF m 29 #[.val (.long q1), .second, .val (.long z3), .second] [(.long ((z3.toUInt64 >>> ((31 : Int32) &&& 0x3f).toInt64.toUInt64).toInt64)), (.long z3)]))
  refine Run.go (fun _ k => XS.lxor X0.here hx rfl (hb hby d4_29) rfl k) ?_
  show Run p e below s 0 0 (Q_rm4 Z q1 h0 n0) (s₁.setTop (mkF m 30 #[.val (.long q1), .second, .val (.long z3), .second] [(.long (z3 ^^^ ((z3.toUInt64 >>> ((31 : Int32) &&& 0x3f).toInt64.toUInt64).toInt64)))]))
  refine Run.retJ X0 hx Bd.returns Bd.notSynchronized (hb hby d4_30) (by decide) (by decide) ?_
  show Q_rm4 Z q1 h0 n0 _ s₁.heap _
  exact ⟨congrArg some (congrArg Value.long (show (z3 ^^^ ((z3.toUInt64 >>> ((31 : Int32) &&& 0x3f).toInt64.toUInt64).toInt64)) = (F_rm4 q1) from (by subst hz3; subst hz2; unfold F_rm4; rfl))), N0, e0⟩
theorem d1_0 : decode prog_11_method_1_code 0 = .ok (.aload_n 0, 1) := by decide +kernel
theorem d1_1 : decode prog_11_method_1_code 1 = .ok (.invokespecial 1, 3) := by decide +kernel
theorem d1_4 : decode prog_11_method_1_code 4 = .ok (.aload_n 0, 1) := by decide +kernel
theorem d1_5 : decode prog_11_method_1_code 5 = .ok (.lload_n 1, 1) := by decide +kernel
theorem d1_6 : decode prog_11_method_1_code 6 = .ok (.putfield 7, 3) := by decide +kernel
theorem d1_9 : decode prog_11_method_1_code 9 = .ok (.return_, 1) := by decide +kernel
def Q_rm1 (Z : State) (a1 : Addr) (q2 : Int64) (u_state_a1 : Value) (h0 : Heap) (n0 : Nat) (v : Option Value) (h : Heap) (L : List Loc) : Prop := v = none ∧ Fr n0 L ∧ Keep h0 h [a1] ∧ Exa Z h a1 "com/example/outlyr/outlyr/detect/SplitMix" ∧ Fld Z h a1 "com/example/outlyr/outlyr/detect/SplitMix" "state" "J" (.long q2)
theorem ef_rm1 (m : MethodId) (x0 : Addr) (x1 : Int64) : entryFrame m #[(.ref x0), (.long x1)] 3 = mkF m 0 #[.val (.ref x0), .val (.long x1), .second] [] := by first | (simp [entryFrame, mkF, argsToLocals, Value.category]; done) | rfl
set_option maxRecDepth 65536 in
set_option maxHeartbeats 40000000 in
theorem rm1 (l : Launch) (Z : State) (a0 : Array Value) (hw : ∀ d ∈ tables_1, d.before a0 Z = true) (ws : List Jvm.Cond) (a1 : Addr) (q2 : Int64) (u_state_a1 : Value) (h0 : Heap) (n0 : Nat) (Z0 : n0 ≤ h0.size) (E_a1 : Exa Z h0 a1 "com/example/outlyr/outlyr/detect/SplitMix") (F_state_a1 : Fld Z h0 a1 "com/example/outlyr/outlyr/detect/SplitMix" "state" "J" u_state_a1) (g_a1 : n0 ≤ a1) :
    MetFree l (⟨"com/example/outlyr/outlyr/detect/SplitMix", "<init>", "(J)V"⟩ : MethodName) (head1 (Jvm.Cond.code (⟨"com/example/outlyr/outlyr/detect/SplitMix", "<init>", "(J)V"⟩ : MethodName) prog_11_method_1_code 3 none :: ws) ({ frames := 1, cells := 0, slots := 0, locals := 12 } : Room)) (fun a U => a = #[(.ref a1), (.long q2)] ∧ Z.Warmed39 U.vm ∧ U.heap = h0) (fun _ _ _ _ _ => True) (fun _ U o U' => ∃ v L, o = .returned v ∧ Q_rm1 Z a1 q2 u_state_a1 h0 n0 v U'.heap L ∧ FrameEnd U o U' L ({ frames := 1, cells := 0, slots := 0, locals := 12 } : Room).cells ({ frames := 1, cells := 0, slots := 0, locals := 12 } : Room).slots) := by
  refine MetFree.of_bodySF (plainFor_of_name pn_0) hisR ?_
  intro p e s m args below meth c s₁ Bd hml0 hP hK
  obtain ⟨rfl, hZ, hh⟩ := hP
  have hx := Bd.exec
  have hby := Bd.bytes
  have hml : c.maxLocals = 3 := hml0
  have hown : s.vm.findClass "com/example/outlyr/outlyr/detect/SplitMix" = some m.cls := findClass_of_methodNamed Bd.named
  have hnm := (name_of_methodNamed Bd.named Bd.method).1
  have X0 : Stand p l e ({ frames := 1, cells := 0, slots := 0, locals := 12 } : Room) s m #[(.ref a1), (.long q2)] below meth c s₁ [] 0 0 := Stand.of_body Bd
  have e0 : s₁.heap = h0 := by rw [← hh, Bd.state]; rfl
  have N0 := Fr.nil n0
  show Run p e below s 0 0 (Q_rm1 Z a1 q2 u_state_a1 h0 n0) (s₁.setTop (entryFrame m #[(.ref a1), (.long q2)] 3))
  refine Run.go (fun _ k => castTop (ef_rm1 m a1 q2) k) ?_
  show Run p e below s 0 0 (Q_rm1 Z a1 q2 u_state_a1 h0 n0) (s₁.setTop (mkF m 0 #[.val (.ref a1), .val (.long q2), .second] []))
  refine Run.go (fun _ k => XS.aloadN X0.here hx rfl (hb hby d1_0) rfl rfl k) ?_
  show Run p e below s 0 0 (Q_rm1 Z a1 q2 u_state_a1 h0 n0) (s₁.setTop (mkF m 1 #[.val (.ref a1), .val (.long q2), .second] [(.ref a1)]))
  obtain ⟨T3, X3, e3, st3⟩ := initO X0 hx hZ hown (hw _ (List.mem_of_getElem? (i := 7) rfl)) (hw _ (List.mem_of_getElem? (i := 8) rfl)) (hw _ (List.mem_of_getElem? (i := 9) rfl)) e0 (g := (mkF m 1 #[.val (.ref a1), .val (.long q2), .second] [(.ref a1)])) rfl (by rw [hml]; rfl) rfl (hb hby d1_1) (by decide) (W := 0) (by show 2 * 0 + _ ≤ _; exact Nat.le_of_eq rfl) (by decide)
  refine Run.go st3 ?_
  show Run p e below s 0 0 (Q_rm1 Z a1 q2 u_state_a1 h0 n0) (T3.setTop (mkF m 4 #[.val (.ref a1), .val (.long q2), .second] []))
  refine Run.go (fun _ k => XS.aloadN X3.here hx rfl (hb hby d1_4) rfl rfl k) ?_
  show Run p e below s 0 0 (Q_rm1 Z a1 q2 u_state_a1 h0 n0) (T3.setTop (mkF m 5 #[.val (.ref a1), .val (.long q2), .second] [(.ref a1)]))
  refine Run.go (fun _ k => XS.lloadN X3.here hx rfl (hb hby d1_5) rfl  k) ?_
  show Run p e below s 0 0 (Q_rm1 Z a1 q2 u_state_a1 h0 n0) (T3.setTop (mkF m 6 #[.val (.ref a1), .val (.long q2), .second] [(.long q2), (.ref a1)]))
  obtain ⟨T4, h4, X4, e4, W4, st4⟩ := putF X3 hx hZ hown (host := "") (Or.inl (hw _ (List.mem_of_getElem? (i := 10) rfl))) Via.refl e3 F_state_a1 E_a1 (Or.inl (hw _ (List.mem_of_getElem? (i := 11) rfl))) (hw _ (List.mem_of_getElem? (i := 2) rfl)) (ty := .long) (by decide) rfl rfl (g := (mkF m 6 #[.val (.ref a1), .val (.long q2), .second] [(.long q2), (.ref a1)])) rfl rfl (hb hby d1_6)
  have N4 := Fr.snoc X4 N0 g_a1
  have Z4 : n0 ≤ h4.size := Nat.le_trans Z0 (Keep.of_wr W4).1
  have K4 : Keep h0 h4 [a1] := (Keep.refl h0 [a1]).wr W4 (Or.inl (List.mem_of_getElem? (i := 0) rfl))
  have fx5 := F_state_a1.same W4
  refine Run.go st4 ?_
  show Run p e below s 0 0 (Q_rm1 Z a1 q2 u_state_a1 h0 n0) (T4.setTop (mkF m 9 #[.val (.ref a1), .val (.long q2), .second] []))
  refine Run.ret0 X4 hx Bd.returns Bd.notSynchronized (hb hby d1_9) (by decide) (by decide) ?_
  show Q_rm1 Z a1 q2 u_state_a1 h0 n0 _ T4.heap _
  have fx6 := (E_a1.wr W4)
  rw [e4]
  exact ⟨rfl, N4, K4, fx6, fx5⟩
theorem d3_0 : decode prog_11_method_2_code 0 = .ok (.aload_n 0, 1) := by decide +kernel
theorem d3_1 : decode prog_11_method_2_code 1 = .ok (.dup, 1) := by decide +kernel
theorem d3_2 : decode prog_11_method_2_code 2 = .ok (.getfield 7, 3) := by decide +kernel
theorem d3_5 : decode prog_11_method_2_code 5 = .ok (.ldc2_w 13, 3) := by decide +kernel
theorem d3_8 : decode prog_11_method_2_code 8 = .ok (.ladd, 1) := by decide +kernel
theorem d3_9 : decode prog_11_method_2_code 9 = .ok (.putfield 7, 3) := by decide +kernel
theorem d3_12 : decode prog_11_method_2_code 12 = .ok (.aload_n 0, 1) := by decide +kernel
theorem d3_13 : decode prog_11_method_2_code 13 = .ok (.getfield 7, 3) := by decide +kernel
theorem d3_16 : decode prog_11_method_2_code 16 = .ok (.invokestatic 15, 3) := by decide +kernel
theorem pd_0 : parseMethodDescriptor "(J)J" = some ⟨[.long], some .long⟩ := by decide +kernel
theorem d3_19 : decode prog_11_method_2_code 19 = .ok (.lreturn, 1) := by decide +kernel
def Q_rm3 (Z : State) (a1 : Addr) (w2 : Int64) (h0 : Heap) (n0 : Nat) (v : Option Value) (h : Heap) (L : List Loc) : Prop := v = some (.long (F_rm4 (w2 + (-7046029254386353131 : Int64)))) ∧ Fr n0 L ∧ Keep h0 h [a1] ∧ Fld Z h a1 "com/example/outlyr/outlyr/detect/SplitMix" "state" "J" (.long (w2 + (-7046029254386353131 : Int64))) ∧ Exa Z h a1 "com/example/outlyr/outlyr/detect/SplitMix"
theorem ef_rm3 (m : MethodId) (x0 : Addr) : entryFrame m #[(.ref x0)] 1 = mkF m 0 #[.val (.ref x0)] [] := by first | (simp [entryFrame, mkF, argsToLocals, Value.category]; done) | rfl
set_option maxRecDepth 65536 in
set_option maxHeartbeats 40000000 in
theorem rm3 (l : Launch) (Z : State) (a0 : Array Value) (hw : ∀ d ∈ tables_1, d.before a0 Z = true) (ws : List Jvm.Cond) (a1 : Addr) (w2 : Int64) (h0 : Heap) (n0 : Nat) (Z0 : n0 ≤ h0.size) (F_state_a1 : Fld Z h0 a1 "com/example/outlyr/outlyr/detect/SplitMix" "state" "J" (.long w2)) (E_a1 : Exa Z h0 a1 "com/example/outlyr/outlyr/detect/SplitMix") (g_a1 : n0 ≤ a1) :
    MetFree l (⟨"com/example/outlyr/outlyr/detect/SplitMix", "next", "()J"⟩ : MethodName) (head1 (Jvm.Cond.code (⟨"com/example/outlyr/outlyr/detect/SplitMix", "next", "()J"⟩ : MethodName) prog_11_method_2_code 1 (some .long) :: ws) ({ frames := 1, cells := 0, slots := 0, locals := 15 } : Room)) (fun a U => a = #[(.ref a1)] ∧ Z.Warmed39 U.vm ∧ U.heap = h0) (fun _ _ _ _ _ => True) (fun _ U o U' => ∃ v L, o = .returned v ∧ Q_rm3 Z a1 w2 h0 n0 v U'.heap L ∧ FrameEnd U o U' L ({ frames := 1, cells := 0, slots := 0, locals := 15 } : Room).cells ({ frames := 1, cells := 0, slots := 0, locals := 15 } : Room).slots) := by
  refine MetFree.of_bodySF (plainFor_of_name pn_0) hisR ?_
  intro p e s m args below meth c s₁ Bd hml0 hP hK
  obtain ⟨rfl, hZ, hh⟩ := hP
  have hx := Bd.exec
  have hby := Bd.bytes
  have hml : c.maxLocals = 1 := hml0
  have hown : s.vm.findClass "com/example/outlyr/outlyr/detect/SplitMix" = some m.cls := findClass_of_methodNamed Bd.named
  have hnm := (name_of_methodNamed Bd.named Bd.method).1
  have X0 : Stand p l e ({ frames := 1, cells := 0, slots := 0, locals := 15 } : Room) s m #[(.ref a1)] below meth c s₁ [] 0 0 := Stand.of_body Bd
  have e0 : s₁.heap = h0 := by rw [← hh, Bd.state]; rfl
  have N0 := Fr.nil n0
  show Run p e below s 0 0 (Q_rm3 Z a1 w2 h0 n0) (s₁.setTop (entryFrame m #[(.ref a1)] 1))
  refine Run.go (fun _ k => castTop (ef_rm3 m a1) k) ?_
  show Run p e below s 0 0 (Q_rm3 Z a1 w2 h0 n0) (s₁.setTop (mkF m 0 #[.val (.ref a1)] []))
  refine Run.go (fun _ k => XS.aloadN X0.here hx rfl (hb hby d3_0) rfl rfl k) ?_
  show Run p e below s 0 0 (Q_rm3 Z a1 w2 h0 n0) (s₁.setTop (mkF m 1 #[.val (.ref a1)] [(.ref a1)]))
  refine Run.go (fun _ k => XS.dup X0.here hx rfl (hb hby d3_1) rfl rfl k) ?_
  show Run p e below s 0 0 (Q_rm3 Z a1 w2 h0 n0) (s₁.setTop (mkF m 2 #[.val (.ref a1)] [(.ref a1), (.ref a1)]))
  obtain ⟨T3, X3, e3, st3⟩ := getF X0 hx hZ hown (host := "") (Or.inl (hw _ (List.mem_of_getElem? (i := 10) rfl))) Via.refl e0 F_state_a1 (g := (mkF m 2 #[.val (.ref a1)] [(.ref a1), (.ref a1)])) rfl rfl (hb hby d3_2)
  refine Run.go st3 ?_
  show Run p e below s 0 0 (Q_rm3 Z a1 w2 h0 n0) (T3.setTop (mkF m 5 #[.val (.ref a1)] [(.long w2), (.ref a1)]))
  refine Run.go (fun _ k => X3.ldc2Long hx hown (mvT hZ (hw _ (List.mem_of_getElem? (i := 17) rfl))) (g := (mkF m 5 #[.val (.ref a1)] [(.long w2), (.ref a1)])) rfl (hb hby d3_5) _ k) ?_
  show Run p e below s 0 0 (Q_rm3 Z a1 w2 h0 n0) (T3.setTop (mkF m 8 #[.val (.ref a1)] [(.long (-7046029254386353131 : Int64)), (.long w2), (.ref a1)]))
  refine Run.go (fun _ k => XS.ladd X3.here hx rfl (hb hby d3_8) rfl k) ?_
  show Run p e below s 0 0 (Q_rm3 Z a1 w2 h0 n0) (T3.setTop (mkF m 9 #[.val (.ref a1)] [(.long (w2 + (-7046029254386353131 : Int64))), (.ref a1)]))
  obtain ⟨T4, h4, X4, e4, W4, st4⟩ := putF X3 hx hZ hown (host := "") (Or.inl (hw _ (List.mem_of_getElem? (i := 10) rfl))) Via.refl e3 F_state_a1 E_a1 (Or.inl (hw _ (List.mem_of_getElem? (i := 11) rfl))) (hw _ (List.mem_of_getElem? (i := 2) rfl)) (ty := .long) (by decide) rfl rfl (g := (mkF m 9 #[.val (.ref a1)] [(.long (w2 + (-7046029254386353131 : Int64))), (.ref a1)])) rfl rfl (hb hby d3_9)
  have N4 := Fr.snoc X4 N0 g_a1
  have Z4 : n0 ≤ h4.size := Nat.le_trans Z0 (Keep.of_wr W4).1
  have K4 : Keep h0 h4 [a1] := (Keep.refl h0 [a1]).wr W4 (Or.inl (List.mem_of_getElem? (i := 0) rfl))
  have fx5 := F_state_a1.same W4
  refine Run.go st4 ?_
  show Run p e below s 0 0 (Q_rm3 Z a1 w2 h0 n0) (T4.setTop (mkF m 12 #[.val (.ref a1)] []))
  refine Run.go (fun _ k => XS.aloadN X4.here hx rfl (hb hby d3_12) rfl rfl k) ?_
  show Run p e below s 0 0 (Q_rm3 Z a1 w2 h0 n0) (T4.setTop (mkF m 13 #[.val (.ref a1)] [(.ref a1)]))
  obtain ⟨T6, X6, e6, st6⟩ := getF X4 hx hZ hown (host := "") (Or.inl (hw _ (List.mem_of_getElem? (i := 10) rfl))) Via.refl e4 fx5 (g := (mkF m 13 #[.val (.ref a1)] [(.ref a1)])) rfl rfl (hb hby d3_13)
  refine Run.go st6 ?_
  show Run p e below s 0 0 (Q_rm3 Z a1 w2 h0 n0) (T6.setTop (mkF m 16 #[.val (.ref a1)] [(.long (w2 + (-7046029254386353131 : Int64)))]))
  obtain ⟨_, _, ⟨T7, L7, k7, n7⟩, -, X7, ⟨Lc7, hQ7, l7, y7, z7⟩, st7⟩ := Jvm.LawKit.callS X6 hx (y := (⟨"com/example/outlyr/outlyr/detect/SplitMix", "mix", "(J)J"⟩ : MethodName)) hown (mvT hZ (hw _ (List.mem_of_getElem? (i := 18) rfl))) (mvT hZ (hw _ (List.mem_of_getElem? (i := 19) rfl))) (mvT hZ (hw _ (List.mem_of_getElem? (i := 3) rfl))) (mvT hZ (hw _ (List.mem_of_getElem? (i := 20) rfl))) (by decide) (backOf (W := 0) (rm4 l Z a0 hw [] (w2 + (-7046029254386353131 : Int64)) h4 n0 Z4 ) hZ (hw _ (List.mem_of_getElem? (i := 20) rfl)) (hw _ (List.mem_of_getElem? (i := 3) rfl)) (by decide) (by decide)) (g := (mkF m 16 #[.val (.ref a1)] [(.long (w2 + (-7046029254386353131 : Int64)))])) rfl (by rw [hml]; rfl) (argsL := [(.long (w2 + (-7046029254386353131 : Int64)))]) (rest := []) (lenOf pd_0 rfl) rfl (by show 2 * 0 + _ ≤ _; exact Nat.le_of_eq rfl) (hb hby d3_16) (fun _ _ => ⟨rfl, e6, (by decide : 0 + 0 ≤ _), (by decide : 0 + 0 ≤ _)⟩)
  dsimp only [Pt.U, Pt.locs, Pt.cells, Pt.slots] at X7 l7 y7 z7 st7 hQ7
  subst l7 y7 z7
  obtain ⟨rfl, N7q, e7q⟩ := hQ7
  have N7 := Fr.app N4 N7q
  refine Run.go st7 ?_
  show Run p e below s 0 0 (Q_rm3 Z a1 w2 h0 n0) (T7.setTop (mkF m 19 #[.val (.ref a1)] [(.long (F_rm4 (w2 + (-7046029254386353131 : Int64))))]))
  refine Run.retJ X7 hx Bd.returns Bd.notSynchronized (hb hby d3_19) (by decide) (by decide) ?_
  show Q_rm3 Z a1 w2 h0 n0 _ T7.heap _
  have fx8 := (E_a1.wr W4)
  rw [e7q]
  exact ⟨rfl, N7, K4, fx5, fx8⟩
theorem pd_1 : parseMethodDescriptor "(J)V" = some ⟨[.long], none⟩ := by decide +kernel
theorem pd_2 : parseMethodDescriptor "()J" = some ⟨[], some .long⟩ := by decide +kernel
def Q_rm0 (Z : State) (q1 : Int64) (q2 : Int64) (h0 : Heap) (n0 : Nat) (v : Option Value) (h : Heap) (L : List Loc) : Prop := v = some (.int 1) ∧ Fr n0 L
theorem ef_rm0 (m : MethodId) (x0 : Int64) (x1 : Int64) : entryFrame m #[(.long x0), (.long x1)] maxLocals = mkF m 0 #[.val (.long x0), .second, .val (.long x1), .second, .unset, .unset, .unset, .unset, .unset, .unset, .unset, .unset, .unset, .unset, .unset, .unset, .unset] [] := by first | (simp [entryFrame, mkF, argsToLocals, Value.category, maxLocals]; done) | rfl
theorem pn_1 : plainName "com/example/outlyr/outlyr/detect/SplitMixNextPinLaw" = true := by first | (simp [plainName, overriddenIn]; done) | decide +kernel
set_option maxRecDepth 65536 in
set_option maxHeartbeats 40000000 in
theorem rm0 (l : Launch) (Z : State) (a0 : Array Value) (hw : ∀ d ∈ tables_1, d.before a0 Z = true) (ws : List Jvm.Cond) (q1 : Int64) (q2 : Int64) (h0 : Heap) (n0 : Nat) (Z0 : n0 ≤ h0.size)  :
    MetFree l x (head1 (Jvm.Cond.code x code maxLocals ret :: ws) room_1) (fun a U => a = #[(.long q1), (.long q2)] ∧ Z.Warmed39 U.vm ∧ U.heap = h0) (fun _ _ _ _ _ => True) (fun _ U o U' => ∃ v L, o = .returned v ∧ Q_rm0 Z q1 q2 h0 n0 v U'.heap L ∧ FrameEnd U o U' L 2 2) := by
  refine MetFree.of_bodySF (plainFor_of_name pn_1) hisR ?_
  intro p e s m args below meth c s₁ Bd hml0 hP hK
  obtain ⟨rfl, hZ, hh⟩ := hP
  have hx := Bd.exec
  have hby := Bd.bytes
  have hml : c.maxLocals = 17 := hml0
  have hown : s.vm.findClass "com/example/outlyr/outlyr/detect/SplitMixNextPinLaw" = some m.cls := findClass_of_methodNamed Bd.named
  have hnm := (name_of_methodNamed Bd.named Bd.method).1
  have X0 : Stand p l e room_1 s m #[(.long q1), (.long q2)] below meth c s₁ [] 0 0 := Stand.of_body Bd
  have e0 : s₁.heap = h0 := by rw [← hh, Bd.state]; rfl
  have N0 := Fr.nil n0
  show Run p e below s 2 2 (Q_rm0 Z q1 q2 h0 n0) (s₁.setTop (entryFrame m #[(.long q1), (.long q2)] maxLocals))
  refine Run.go (fun _ k => castTop (ef_rm0 m q1 q2) k) ?_
  show Run p e below s 2 2 (Q_rm0 Z q1 q2 h0 n0) (s₁.setTop (mkF m 0 #[.val (.long q1), .second, .val (.long q2), .second, .unset, .unset, .unset, .unset, .unset, .unset, .unset, .unset, .unset, .unset, .unset, .unset, .unset] []))
  refine Run.go (fun _ k => X0.ldc2Long hx hown (mvT hZ (hw _ (List.mem_of_getElem? (i := 0) rfl))) (g := (mkF m 0 #[.val (.long q1), .second, .val (.long q2), .second, .unset, .unset, .unset, .unset, .unset, .unset, .unset, .unset, .unset, .unset, .unset, .unset, .unset] [])) rfl (hb hby at_0) _ k) ?_
  show Run p e below s 2 2 (Q_rm0 Z q1 q2 h0 n0) (s₁.setTop (mkF m 3 #[.val (.long q1), .second, .val (.long q2), .second, .unset, .unset, .unset, .unset, .unset, .unset, .unset, .unset, .unset, .unset, .unset, .unset, .unset] [(.long (-7046029254386353131 : Int64))]))
  refine Run.go (fun _ k => XS.lstore X0.here hx rfl (hb hby at_3) rfl (l' := #[.val (.long q1), .second, .val (.long q2), .second, .val (.long (-7046029254386353131 : Int64)), .second, .unset, .unset, .unset, .unset, .unset, .unset, .unset, .unset, .unset, .unset, .unset]) rfl k) ?_
  show Run p e below s 2 2 (Q_rm0 Z q1 q2 h0 n0) (s₁.setTop (mkF m 5 #[.val (.long q1), .second, .val (.long q2), .second, .val (.long (-7046029254386353131 : Int64)), .second, .unset, .unset, .unset, .unset, .unset, .unset, .unset, .unset, .unset, .unset, .unset] []))
  obtain ⟨T3, h3, X3, e3, E3, A3, D3, -, st3⟩ := newO X0 hx hZ hown (hw _ (List.mem_of_getElem? (i := 1) rfl)) (hw _ (List.mem_of_getElem? (i := 2) rfl)) (hw _ (List.mem_of_getElem? (i := 3) rfl)) e0 (g := (mkF m 5 #[.val (.long q1), .second, .val (.long q2), .second, .val (.long (-7046029254386353131 : Int64)), .second, .unset, .unset, .unset, .unset, .unset, .unset, .unset, .unset, .unset, .unset, .unset] [])) rfl (hb hby at_5) (by decide) (by decide)
  obtain ⟨b3, g3⟩ : ∃ z, z = h0.size := ⟨_, rfl⟩
  rw [← g3] at A3 D3 st3
  have g_b3 : n0 ≤ b3 := Nat.le_trans Z0 (Nat.le_of_eq g3.symm)
  have Z3 : n0 ≤ h3.size := Nat.le_trans Z0 E3.1
  have fx4 : Fld Z h3 b3 "com/example/outlyr/outlyr/detect/SplitMix" "state" "J" (.long (0 : Int64)) := D3 (Or.inl (hw _ (List.mem_of_getElem? (i := 11) rfl))) (ty := .long) (by decide)
  refine Run.go st3 ?_
  show Run p e below s 2 2 (Q_rm0 Z q1 q2 h0 n0) (T3.setTop (mkF m 8 #[.val (.long q1), .second, .val (.long q2), .second, .val (.long (-7046029254386353131 : Int64)), .second, .unset, .unset, .unset, .unset, .unset, .unset, .unset, .unset, .unset, .unset, .unset] [(.ref b3)]))
  refine Run.go (fun _ k => XS.dup X3.here hx rfl (hb hby at_8) rfl rfl k) ?_
  show Run p e below s 2 2 (Q_rm0 Z q1 q2 h0 n0) (T3.setTop (mkF m 9 #[.val (.long q1), .second, .val (.long q2), .second, .val (.long (-7046029254386353131 : Int64)), .second, .unset, .unset, .unset, .unset, .unset, .unset, .unset, .unset, .unset, .unset, .unset] [(.ref b3), (.ref b3)]))
  refine Run.go (fun _ k => XS.lloadN X3.here hx rfl (hb hby at_9) rfl  k) ?_
  show Run p e below s 2 2 (Q_rm0 Z q1 q2 h0 n0) (T3.setTop (mkF m 10 #[.val (.long q1), .second, .val (.long q2), .second, .val (.long (-7046029254386353131 : Int64)), .second, .unset, .unset, .unset, .unset, .unset, .unset, .unset, .unset, .unset, .unset, .unset] [(.long q1), (.ref b3), (.ref b3)]))
  obtain ⟨_, _, ⟨T5, L5, k5, n5⟩, -, X5, ⟨Lc5, hQ5, l5, y5, z5⟩, st5⟩ := X3.specialBack hx (y := (⟨"com/example/outlyr/outlyr/detect/SplitMix", "<init>", "(J)V"⟩ : MethodName)) rfl hown (mvT hZ (hw _ (List.mem_of_getElem? (i := 4) rfl))) (mvT hZ (hw _ (List.mem_of_getElem? (i := 5) rfl))) (mvT hZ (hw _ (List.mem_of_getElem? (i := 6) rfl))) (by decide) (backOf (W := 1) (rm1 l Z a0 hw [] b3 q1 (.long (0 : Int64)) h3 n0 Z3 A3 fx4 g_b3) hZ (hw _ (List.mem_of_getElem? (i := 6) rfl)) (hw _ (List.mem_of_getElem? (i := 3) rfl)) (by decide) (by decide)) (g := (mkF m 10 #[.val (.long q1), .second, .val (.long q2), .second, .val (.long (-7046029254386353131 : Int64)), .second, .unset, .unset, .unset, .unset, .unset, .unset, .unset, .unset, .unset, .unset, .unset] [(.long q1), (.ref b3), (.ref b3)])) rfl (by rw [hml]; rfl) (Steps.refl _) (a := b3) (argsL := [(.long q1)]) (rest := [(.ref b3)]) (lenOf pd_1 rfl) rfl (by show 2 * 0 + _ ≤ _; exact Nat.le_of_eq rfl) (hb hby at_10) (fun _ _ => ⟨rfl, e3, (by decide : 1 + 0 ≤ _), (by decide : 1 + 0 ≤ _)⟩)
  dsimp only [Pt.U, Pt.locs, Pt.cells, Pt.slots] at X5 l5 y5 z5 st5 hQ5
  subst l5 y5 z5
  obtain ⟨rfl, N5q, K5q, fq5_0, fq5_1⟩ := hQ5
  have N5 := Fr.app N0 N5q
  have Z5 : n0 ≤ T5.heap.size := Nat.le_trans Z3 K5q.1
  refine Run.tr st5 ?_
  show Run p e below s 2 2 (Q_rm0 Z q1 q2 h0 n0) (T5.setTop (mkF m 13 #[.val (.long q1), .second, .val (.long q2), .second, .val (.long (-7046029254386353131 : Int64)), .second, .unset, .unset, .unset, .unset, .unset, .unset, .unset, .unset, .unset, .unset, .unset] [(.ref b3)]))
  refine Run.go (fun _ k => XS.astore X5.here hx rfl (hb hby at_13) rfl rfl (l' := #[.val (.long q1), .second, .val (.long q2), .second, .val (.long (-7046029254386353131 : Int64)), .second, .val (.ref b3), .unset, .unset, .unset, .unset, .unset, .unset, .unset, .unset, .unset, .unset]) rfl k) ?_
  show Run p e below s 2 2 (Q_rm0 Z q1 q2 h0 n0) (T5.setTop (mkF m 15 #[.val (.long q1), .second, .val (.long q2), .second, .val (.long (-7046029254386353131 : Int64)), .second, .val (.ref b3), .unset, .unset, .unset, .unset, .unset, .unset, .unset, .unset, .unset, .unset] []))
  obtain ⟨T6, h6, X6, e6, E6, A6, D6, -, st6⟩ := newO X5 hx hZ hown (hw _ (List.mem_of_getElem? (i := 1) rfl)) (hw _ (List.mem_of_getElem? (i := 2) rfl)) (hw _ (List.mem_of_getElem? (i := 3) rfl)) rfl (g := (mkF m 15 #[.val (.long q1), .second, .val (.long q2), .second, .val (.long (-7046029254386353131 : Int64)), .second, .val (.ref b3), .unset, .unset, .unset, .unset, .unset, .unset, .unset, .unset, .unset, .unset] [])) rfl (hb hby at_15) (by decide) (by decide)
  obtain ⟨b6, g6⟩ : ∃ z, z = T5.heap.size := ⟨_, rfl⟩
  rw [← g6] at A6 D6 st6
  have g_b6 : n0 ≤ b6 := Nat.le_trans Z5 (Nat.le_of_eq g6.symm)
  have Z6 : n0 ≤ h6.size := Nat.le_trans Z5 E6.1
  have ne_b3_b6 : b3 ≠ b6 := Nat.ne_of_lt (Nat.lt_of_lt_of_le fq5_0.lt (Nat.le_of_eq g6.symm))
  have fx7 : Fld Z h6 b6 "com/example/outlyr/outlyr/detect/SplitMix" "state" "J" (.long (0 : Int64)) := D6 (Or.inl (hw _ (List.mem_of_getElem? (i := 11) rfl))) (ty := .long) (by decide)
  refine Run.go st6 ?_
  show Run p e below s 2 2 (Q_rm0 Z q1 q2 h0 n0) (T6.setTop (mkF m 18 #[.val (.long q1), .second, .val (.long q2), .second, .val (.long (-7046029254386353131 : Int64)), .second, .val (.ref b3), .unset, .unset, .unset, .unset, .unset, .unset, .unset, .unset, .unset, .unset] [(.ref b6)]))
  refine Run.go (fun _ k => XS.dup X6.here hx rfl (hb hby at_18) rfl rfl k) ?_
  show Run p e below s 2 2 (Q_rm0 Z q1 q2 h0 n0) (T6.setTop (mkF m 19 #[.val (.long q1), .second, .val (.long q2), .second, .val (.long (-7046029254386353131 : Int64)), .second, .val (.ref b3), .unset, .unset, .unset, .unset, .unset, .unset, .unset, .unset, .unset, .unset] [(.ref b6), (.ref b6)]))
  refine Run.go (fun _ k => XS.lloadN X6.here hx rfl (hb hby at_19) rfl  k) ?_
  show Run p e below s 2 2 (Q_rm0 Z q1 q2 h0 n0) (T6.setTop (mkF m 20 #[.val (.long q1), .second, .val (.long q2), .second, .val (.long (-7046029254386353131 : Int64)), .second, .val (.ref b3), .unset, .unset, .unset, .unset, .unset, .unset, .unset, .unset, .unset, .unset] [(.long q2), (.ref b6), (.ref b6)]))
  obtain ⟨_, _, ⟨T8, L8, k8, n8⟩, -, X8, ⟨Lc8, hQ8, l8, y8, z8⟩, st8⟩ := X6.specialBack hx (y := (⟨"com/example/outlyr/outlyr/detect/SplitMix", "<init>", "(J)V"⟩ : MethodName)) rfl hown (mvT hZ (hw _ (List.mem_of_getElem? (i := 4) rfl))) (mvT hZ (hw _ (List.mem_of_getElem? (i := 5) rfl))) (mvT hZ (hw _ (List.mem_of_getElem? (i := 6) rfl))) (by decide) (backOf (W := 1) (rm1 l Z a0 hw [] b6 q2 (.long (0 : Int64)) h6 n0 Z6 A6 fx7 g_b6) hZ (hw _ (List.mem_of_getElem? (i := 6) rfl)) (hw _ (List.mem_of_getElem? (i := 3) rfl)) (by decide) (by decide)) (g := (mkF m 20 #[.val (.long q1), .second, .val (.long q2), .second, .val (.long (-7046029254386353131 : Int64)), .second, .val (.ref b3), .unset, .unset, .unset, .unset, .unset, .unset, .unset, .unset, .unset, .unset] [(.long q2), (.ref b6), (.ref b6)])) rfl (by rw [hml]; rfl) (Steps.refl _) (a := b6) (argsL := [(.long q2)]) (rest := [(.ref b6)]) (lenOf pd_1 rfl) rfl (by show 2 * 0 + _ ≤ _; exact Nat.le_of_eq rfl) (hb hby at_20) (fun _ _ => ⟨rfl, e6, (by decide : 2 + 0 ≤ _), (by decide : 2 + 0 ≤ _)⟩)
  dsimp only [Pt.U, Pt.locs, Pt.cells, Pt.slots] at X8 l8 y8 z8 st8 hQ8
  subst l8 y8 z8
  obtain ⟨rfl, N8q, K8q, fq8_0, fq8_1⟩ := hQ8
  have N8 := Fr.app N5 N8q
  have Z8 : n0 ≤ T8.heap.size := Nat.le_trans Z6 K8q.1
  refine Run.tr st8 ?_
  show Run p e below s 2 2 (Q_rm0 Z q1 q2 h0 n0) (T8.setTop (mkF m 23 #[.val (.long q1), .second, .val (.long q2), .second, .val (.long (-7046029254386353131 : Int64)), .second, .val (.ref b3), .unset, .unset, .unset, .unset, .unset, .unset, .unset, .unset, .unset, .unset] [(.ref b6)]))
  refine Run.go (fun _ k => XS.astore X8.here hx rfl (hb hby at_23) rfl rfl (l' := #[.val (.long q1), .second, .val (.long q2), .second, .val (.long (-7046029254386353131 : Int64)), .second, .val (.ref b3), .val (.ref b6), .unset, .unset, .unset, .unset, .unset, .unset, .unset, .unset, .unset]) rfl k) ?_
  show Run p e below s 2 2 (Q_rm0 Z q1 q2 h0 n0) (T8.setTop (mkF m 25 #[.val (.long q1), .second, .val (.long q2), .second, .val (.long (-7046029254386353131 : Int64)), .second, .val (.ref b3), .val (.ref b6), .unset, .unset, .unset, .unset, .unset, .unset, .unset, .unset, .unset] []))
  refine Run.go (fun _ k => XS.aload X8.here hx rfl (hb hby at_25) rfl rfl k) ?_
  show Run p e below s 2 2 (Q_rm0 Z q1 q2 h0 n0) (T8.setTop (mkF m 27 #[.val (.long q1), .second, .val (.long q2), .second, .val (.long (-7046029254386353131 : Int64)), .second, .val (.ref b3), .val (.ref b6), .unset, .unset, .unset, .unset, .unset, .unset, .unset, .unset, .unset] [(.ref b3)]))
  have fx10 := ((fq5_1.ext E6).keep K8q (ninS ne_b3_b6 nin0))
  have fx11 := ((fq5_0.ext E6).keep K8q)
  obtain ⟨cq9, kq9, q9a, q9b, q9c⟩ := isOf hZ rfl fx11
  obtain ⟨_, _, ⟨T9, L9, k9, n9⟩, -, X9, ⟨Lc9, hQ9, l9, y9, z9⟩, st9⟩ := X8.virtualBack hx (y := (⟨"com/example/outlyr/outlyr/detect/SplitMix", "next", "()J"⟩ : MethodName)) (z := (⟨"com/example/outlyr/outlyr/detect/SplitMix", "next", "()J"⟩ : MethodName)) hown (mvT hZ (hw _ (List.mem_of_getElem? (i := 12) rfl))) (mvT hZ (hw _ (List.mem_of_getElem? (i := 13) rfl))) (notFace_of_selects (args := #[]) (mvT hZ (hw _ (List.mem_of_getElem? (i := 15) rfl)))) (mvT hZ (hw _ (List.mem_of_getElem? (i := 15) rfl))) (mvT hZ (hw _ (List.mem_of_getElem? (i := 14) rfl))) (by decide) (backOf (W := 0) (rm3 l Z a0 hw [] b3 q1 T8.heap n0 Z8 fx10 fx11 g_b3) hZ (hw _ (List.mem_of_getElem? (i := 16) rfl)) (hw _ (List.mem_of_getElem? (i := 3) rfl)) (by decide) (by decide)) q9a q9c (g := (mkF m 27 #[.val (.long q1), .second, .val (.long q2), .second, .val (.long (-7046029254386353131 : Int64)), .second, .val (.ref b3), .val (.ref b6), .unset, .unset, .unset, .unset, .unset, .unset, .unset, .unset, .unset] [(.ref b3)])) rfl (by rw [hml]; rfl) (Steps.refl _) (argsL := []) (rest := []) (lenOf pd_2 rfl) rfl (by show 2 * 0 + _ ≤ _; exact Nat.le_of_eq rfl) (hb hby at_27) (fun _ _ => ⟨rfl, rfl, (by decide : 2 + 0 ≤ _), (by decide : 2 + 0 ≤ _)⟩)
  dsimp only [Pt.U, Pt.locs, Pt.cells, Pt.slots] at X9 l9 y9 z9 st9 hQ9
  subst l9 y9 z9
  obtain ⟨rfl, N9q, K9q, fq9_0, fq9_1⟩ := hQ9
  have N9 := Fr.app N8 N9q
  have Z9 : n0 ≤ T9.heap.size := Nat.le_trans Z8 K9q.1
  refine Run.tr st9 ?_
  show Run p e below s 2 2 (Q_rm0 Z q1 q2 h0 n0) (T9.setTop (mkF m 30 #[.val (.long q1), .second, .val (.long q2), .second, .val (.long (-7046029254386353131 : Int64)), .second, .val (.ref b3), .val (.ref b6), .unset, .unset, .unset, .unset, .unset, .unset, .unset, .unset, .unset] [(.long (F_rm4 (q1 + (-7046029254386353131 : Int64))))]))
  refine Run.go (fun _ k => XS.lstore X9.here hx rfl (hb hby at_30) rfl (l' := #[.val (.long q1), .second, .val (.long q2), .second, .val (.long (-7046029254386353131 : Int64)), .second, .val (.ref b3), .val (.ref b6), .val (.long (F_rm4 (q1 + (-7046029254386353131 : Int64)))), .second, .unset, .unset, .unset, .unset, .unset, .unset, .unset]) rfl k) ?_
  show Run p e below s 2 2 (Q_rm0 Z q1 q2 h0 n0) (T9.setTop (mkF m 32 #[.val (.long q1), .second, .val (.long q2), .second, .val (.long (-7046029254386353131 : Int64)), .second, .val (.ref b3), .val (.ref b6), .val (.long (F_rm4 (q1 + (-7046029254386353131 : Int64)))), .second, .unset, .unset, .unset, .unset, .unset, .unset, .unset] []))
  refine Run.go (fun _ k => XS.aload X9.here hx rfl (hb hby at_32) rfl rfl k) ?_
  show Run p e below s 2 2 (Q_rm0 Z q1 q2 h0 n0) (T9.setTop (mkF m 34 #[.val (.long q1), .second, .val (.long q2), .second, .val (.long (-7046029254386353131 : Int64)), .second, .val (.ref b3), .val (.ref b6), .val (.long (F_rm4 (q1 + (-7046029254386353131 : Int64)))), .second, .unset, .unset, .unset, .unset, .unset, .unset, .unset] [(.ref b6)]))
  have fx13 := (fq8_1.keep K9q (ninS (Ne.symm ne_b3_b6) nin0))
  have fx14 := (fq8_0.keep K9q)
  obtain ⟨cq12, kq12, q12a, q12b, q12c⟩ := isOf hZ rfl fx14
  obtain ⟨_, _, ⟨T12, L12, k12, n12⟩, -, X12, ⟨Lc12, hQ12, l12, y12, z12⟩, st12⟩ := X9.virtualBack hx (y := (⟨"com/example/outlyr/outlyr/detect/SplitMix", "next", "()J"⟩ : MethodName)) (z := (⟨"com/example/outlyr/outlyr/detect/SplitMix", "next", "()J"⟩ : MethodName)) hown (mvT hZ (hw _ (List.mem_of_getElem? (i := 12) rfl))) (mvT hZ (hw _ (List.mem_of_getElem? (i := 13) rfl))) (notFace_of_selects (args := #[]) (mvT hZ (hw _ (List.mem_of_getElem? (i := 15) rfl)))) (mvT hZ (hw _ (List.mem_of_getElem? (i := 15) rfl))) (mvT hZ (hw _ (List.mem_of_getElem? (i := 14) rfl))) (by decide) (backOf (W := 0) (rm3 l Z a0 hw [] b6 q2 T9.heap n0 Z9 fx13 fx14 g_b6) hZ (hw _ (List.mem_of_getElem? (i := 16) rfl)) (hw _ (List.mem_of_getElem? (i := 3) rfl)) (by decide) (by decide)) q12a q12c (g := (mkF m 34 #[.val (.long q1), .second, .val (.long q2), .second, .val (.long (-7046029254386353131 : Int64)), .second, .val (.ref b3), .val (.ref b6), .val (.long (F_rm4 (q1 + (-7046029254386353131 : Int64)))), .second, .unset, .unset, .unset, .unset, .unset, .unset, .unset] [(.ref b6)])) rfl (by rw [hml]; rfl) (Steps.refl _) (argsL := []) (rest := []) (lenOf pd_2 rfl) rfl (by show 2 * 0 + _ ≤ _; exact Nat.le_of_eq rfl) (hb hby at_34) (fun _ _ => ⟨rfl, rfl, (by decide : 2 + 0 ≤ _), (by decide : 2 + 0 ≤ _)⟩)
  dsimp only [Pt.U, Pt.locs, Pt.cells, Pt.slots] at X12 l12 y12 z12 st12 hQ12
  subst l12 y12 z12
  obtain ⟨rfl, N12q, K12q, fq12_0, fq12_1⟩ := hQ12
  have N12 := Fr.app N9 N12q
  have Z12 : n0 ≤ T12.heap.size := Nat.le_trans Z9 K12q.1
  refine Run.tr st12 ?_
  show Run p e below s 2 2 (Q_rm0 Z q1 q2 h0 n0) (T12.setTop (mkF m 37 #[.val (.long q1), .second, .val (.long q2), .second, .val (.long (-7046029254386353131 : Int64)), .second, .val (.ref b3), .val (.ref b6), .val (.long (F_rm4 (q1 + (-7046029254386353131 : Int64)))), .second, .unset, .unset, .unset, .unset, .unset, .unset, .unset] [(.long (F_rm4 (q2 + (-7046029254386353131 : Int64))))]))
  refine Run.go (fun _ k => XS.lstore X12.here hx rfl (hb hby at_37) rfl (l' := #[.val (.long q1), .second, .val (.long q2), .second, .val (.long (-7046029254386353131 : Int64)), .second, .val (.ref b3), .val (.ref b6), .val (.long (F_rm4 (q1 + (-7046029254386353131 : Int64)))), .second, .val (.long (F_rm4 (q2 + (-7046029254386353131 : Int64)))), .second, .unset, .unset, .unset, .unset, .unset]) rfl k) ?_
  show Run p e below s 2 2 (Q_rm0 Z q1 q2 h0 n0) (T12.setTop (mkF m 39 #[.val (.long q1), .second, .val (.long q2), .second, .val (.long (-7046029254386353131 : Int64)), .second, .val (.ref b3), .val (.ref b6), .val (.long (F_rm4 (q1 + (-7046029254386353131 : Int64)))), .second, .val (.long (F_rm4 (q2 + (-7046029254386353131 : Int64)))), .second, .unset, .unset, .unset, .unset, .unset] []))
  refine Run.go (fun _ k => XS.aload X12.here hx rfl (hb hby at_39) rfl rfl k) ?_
  show Run p e below s 2 2 (Q_rm0 Z q1 q2 h0 n0) (T12.setTop (mkF m 41 #[.val (.long q1), .second, .val (.long q2), .second, .val (.long (-7046029254386353131 : Int64)), .second, .val (.ref b3), .val (.ref b6), .val (.long (F_rm4 (q1 + (-7046029254386353131 : Int64)))), .second, .val (.long (F_rm4 (q2 + (-7046029254386353131 : Int64)))), .second, .unset, .unset, .unset, .unset, .unset] [(.ref b3)]))
  have fx16 := (fq9_0.keep K12q (ninS ne_b3_b6 nin0))
  have fx17 := (fq9_1.keep K12q)
  obtain ⟨cq15, kq15, q15a, q15b, q15c⟩ := isOf hZ rfl fx17
  obtain ⟨_, _, ⟨T15, L15, k15, n15⟩, -, X15, ⟨Lc15, hQ15, l15, y15, z15⟩, st15⟩ := X12.virtualBack hx (y := (⟨"com/example/outlyr/outlyr/detect/SplitMix", "next", "()J"⟩ : MethodName)) (z := (⟨"com/example/outlyr/outlyr/detect/SplitMix", "next", "()J"⟩ : MethodName)) hown (mvT hZ (hw _ (List.mem_of_getElem? (i := 12) rfl))) (mvT hZ (hw _ (List.mem_of_getElem? (i := 13) rfl))) (notFace_of_selects (args := #[]) (mvT hZ (hw _ (List.mem_of_getElem? (i := 15) rfl)))) (mvT hZ (hw _ (List.mem_of_getElem? (i := 15) rfl))) (mvT hZ (hw _ (List.mem_of_getElem? (i := 14) rfl))) (by decide) (backOf (W := 0) (rm3 l Z a0 hw [] b3 (q1 + (-7046029254386353131 : Int64)) T12.heap n0 Z12 fx16 fx17 g_b3) hZ (hw _ (List.mem_of_getElem? (i := 16) rfl)) (hw _ (List.mem_of_getElem? (i := 3) rfl)) (by decide) (by decide)) q15a q15c (g := (mkF m 41 #[.val (.long q1), .second, .val (.long q2), .second, .val (.long (-7046029254386353131 : Int64)), .second, .val (.ref b3), .val (.ref b6), .val (.long (F_rm4 (q1 + (-7046029254386353131 : Int64)))), .second, .val (.long (F_rm4 (q2 + (-7046029254386353131 : Int64)))), .second, .unset, .unset, .unset, .unset, .unset] [(.ref b3)])) rfl (by rw [hml]; rfl) (Steps.refl _) (argsL := []) (rest := []) (lenOf pd_2 rfl) rfl (by show 2 * 0 + _ ≤ _; exact Nat.le_of_eq rfl) (hb hby at_41) (fun _ _ => ⟨rfl, rfl, (by decide : 2 + 0 ≤ _), (by decide : 2 + 0 ≤ _)⟩)
  dsimp only [Pt.U, Pt.locs, Pt.cells, Pt.slots] at X15 l15 y15 z15 st15 hQ15
  subst l15 y15 z15
  obtain ⟨rfl, N15q, K15q, fq15_0, fq15_1⟩ := hQ15
  have N15 := Fr.app N12 N15q
  have Z15 : n0 ≤ T15.heap.size := Nat.le_trans Z12 K15q.1
  refine Run.tr st15 ?_
  show Run p e below s 2 2 (Q_rm0 Z q1 q2 h0 n0) (T15.setTop (mkF m 44 #[.val (.long q1), .second, .val (.long q2), .second, .val (.long (-7046029254386353131 : Int64)), .second, .val (.ref b3), .val (.ref b6), .val (.long (F_rm4 (q1 + (-7046029254386353131 : Int64)))), .second, .val (.long (F_rm4 (q2 + (-7046029254386353131 : Int64)))), .second, .unset, .unset, .unset, .unset, .unset] [(.long (F_rm4 ((q1 + (-7046029254386353131 : Int64)) + (-7046029254386353131 : Int64))))]))
  refine Run.go (fun _ k => XS.lstore X15.here hx rfl (hb hby at_44) rfl (l' := #[.val (.long q1), .second, .val (.long q2), .second, .val (.long (-7046029254386353131 : Int64)), .second, .val (.ref b3), .val (.ref b6), .val (.long (F_rm4 (q1 + (-7046029254386353131 : Int64)))), .second, .val (.long (F_rm4 (q2 + (-7046029254386353131 : Int64)))), .second, .val (.long (F_rm4 ((q1 + (-7046029254386353131 : Int64)) + (-7046029254386353131 : Int64)))), .second, .unset, .unset, .unset]) rfl k) ?_
  show Run p e below s 2 2 (Q_rm0 Z q1 q2 h0 n0) (T15.setTop (mkF m 46 #[.val (.long q1), .second, .val (.long q2), .second, .val (.long (-7046029254386353131 : Int64)), .second, .val (.ref b3), .val (.ref b6), .val (.long (F_rm4 (q1 + (-7046029254386353131 : Int64)))), .second, .val (.long (F_rm4 (q2 + (-7046029254386353131 : Int64)))), .second, .val (.long (F_rm4 ((q1 + (-7046029254386353131 : Int64)) + (-7046029254386353131 : Int64)))), .second, .unset, .unset, .unset] []))
  refine Run.go (fun _ k => XS.aload X15.here hx rfl (hb hby at_46) rfl rfl k) ?_
  show Run p e below s 2 2 (Q_rm0 Z q1 q2 h0 n0) (T15.setTop (mkF m 48 #[.val (.long q1), .second, .val (.long q2), .second, .val (.long (-7046029254386353131 : Int64)), .second, .val (.ref b3), .val (.ref b6), .val (.long (F_rm4 (q1 + (-7046029254386353131 : Int64)))), .second, .val (.long (F_rm4 (q2 + (-7046029254386353131 : Int64)))), .second, .val (.long (F_rm4 ((q1 + (-7046029254386353131 : Int64)) + (-7046029254386353131 : Int64)))), .second, .unset, .unset, .unset] [(.ref b3)]))
  obtain ⟨cq18, kq18, q18a, q18b, q18c⟩ := isOf hZ rfl fq15_1
  obtain ⟨_, _, ⟨T18, L18, k18, n18⟩, -, X18, ⟨Lc18, hQ18, l18, y18, z18⟩, st18⟩ := X15.virtualBack hx (y := (⟨"com/example/outlyr/outlyr/detect/SplitMix", "next", "()J"⟩ : MethodName)) (z := (⟨"com/example/outlyr/outlyr/detect/SplitMix", "next", "()J"⟩ : MethodName)) hown (mvT hZ (hw _ (List.mem_of_getElem? (i := 12) rfl))) (mvT hZ (hw _ (List.mem_of_getElem? (i := 13) rfl))) (notFace_of_selects (args := #[]) (mvT hZ (hw _ (List.mem_of_getElem? (i := 15) rfl)))) (mvT hZ (hw _ (List.mem_of_getElem? (i := 15) rfl))) (mvT hZ (hw _ (List.mem_of_getElem? (i := 14) rfl))) (by decide) (backOf (W := 0) (rm3 l Z a0 hw [] b3 ((q1 + (-7046029254386353131 : Int64)) + (-7046029254386353131 : Int64)) T15.heap n0 Z15 fq15_0 fq15_1 g_b3) hZ (hw _ (List.mem_of_getElem? (i := 16) rfl)) (hw _ (List.mem_of_getElem? (i := 3) rfl)) (by decide) (by decide)) q18a q18c (g := (mkF m 48 #[.val (.long q1), .second, .val (.long q2), .second, .val (.long (-7046029254386353131 : Int64)), .second, .val (.ref b3), .val (.ref b6), .val (.long (F_rm4 (q1 + (-7046029254386353131 : Int64)))), .second, .val (.long (F_rm4 (q2 + (-7046029254386353131 : Int64)))), .second, .val (.long (F_rm4 ((q1 + (-7046029254386353131 : Int64)) + (-7046029254386353131 : Int64)))), .second, .unset, .unset, .unset] [(.ref b3)])) rfl (by rw [hml]; rfl) (Steps.refl _) (argsL := []) (rest := []) (lenOf pd_2 rfl) rfl (by show 2 * 0 + _ ≤ _; exact Nat.le_of_eq rfl) (hb hby at_48) (fun _ _ => ⟨rfl, rfl, (by decide : 2 + 0 ≤ _), (by decide : 2 + 0 ≤ _)⟩)
  dsimp only [Pt.U, Pt.locs, Pt.cells, Pt.slots] at X18 l18 y18 z18 st18 hQ18
  subst l18 y18 z18
  obtain ⟨rfl, N18q, K18q, fq18_0, fq18_1⟩ := hQ18
  have N18 := Fr.app N15 N18q
  have Z18 : n0 ≤ T18.heap.size := Nat.le_trans Z15 K18q.1
  refine Run.tr st18 ?_
  show Run p e below s 2 2 (Q_rm0 Z q1 q2 h0 n0) (T18.setTop (mkF m 51 #[.val (.long q1), .second, .val (.long q2), .second, .val (.long (-7046029254386353131 : Int64)), .second, .val (.ref b3), .val (.ref b6), .val (.long (F_rm4 (q1 + (-7046029254386353131 : Int64)))), .second, .val (.long (F_rm4 (q2 + (-7046029254386353131 : Int64)))), .second, .val (.long (F_rm4 ((q1 + (-7046029254386353131 : Int64)) + (-7046029254386353131 : Int64)))), .second, .unset, .unset, .unset] [(.long (F_rm4 (((q1 + (-7046029254386353131 : Int64)) + (-7046029254386353131 : Int64)) + (-7046029254386353131 : Int64))))]))
  refine Run.go (fun _ k => XS.lstore X18.here hx rfl (hb hby at_51) rfl (l' := #[.val (.long q1), .second, .val (.long q2), .second, .val (.long (-7046029254386353131 : Int64)), .second, .val (.ref b3), .val (.ref b6), .val (.long (F_rm4 (q1 + (-7046029254386353131 : Int64)))), .second, .val (.long (F_rm4 (q2 + (-7046029254386353131 : Int64)))), .second, .val (.long (F_rm4 ((q1 + (-7046029254386353131 : Int64)) + (-7046029254386353131 : Int64)))), .second, .val (.long (F_rm4 (((q1 + (-7046029254386353131 : Int64)) + (-7046029254386353131 : Int64)) + (-7046029254386353131 : Int64)))), .second, .unset]) rfl k) ?_
  show Run p e below s 2 2 (Q_rm0 Z q1 q2 h0 n0) (T18.setTop (mkF m 53 #[.val (.long q1), .second, .val (.long q2), .second, .val (.long (-7046029254386353131 : Int64)), .second, .val (.ref b3), .val (.ref b6), .val (.long (F_rm4 (q1 + (-7046029254386353131 : Int64)))), .second, .val (.long (F_rm4 (q2 + (-7046029254386353131 : Int64)))), .second, .val (.long (F_rm4 ((q1 + (-7046029254386353131 : Int64)) + (-7046029254386353131 : Int64)))), .second, .val (.long (F_rm4 (((q1 + (-7046029254386353131 : Int64)) + (-7046029254386353131 : Int64)) + (-7046029254386353131 : Int64)))), .second, .unset] []))
  refine Run.go (fun _ k => XS.lload X18.here hx rfl (hb hby at_53) rfl  k) ?_
  show Run p e below s 2 2 (Q_rm0 Z q1 q2 h0 n0) (T18.setTop (mkF m 55 #[.val (.long q1), .second, .val (.long q2), .second, .val (.long (-7046029254386353131 : Int64)), .second, .val (.ref b3), .val (.ref b6), .val (.long (F_rm4 (q1 + (-7046029254386353131 : Int64)))), .second, .val (.long (F_rm4 (q2 + (-7046029254386353131 : Int64)))), .second, .val (.long (F_rm4 ((q1 + (-7046029254386353131 : Int64)) + (-7046029254386353131 : Int64)))), .second, .val (.long (F_rm4 (((q1 + (-7046029254386353131 : Int64)) + (-7046029254386353131 : Int64)) + (-7046029254386353131 : Int64)))), .second, .unset] [(.long (F_rm4 (q1 + (-7046029254386353131 : Int64))))]))
  refine Run.go (fun _ k => XS.lloadN X18.here hx rfl (hb hby at_55) rfl  k) ?_
  show Run p e below s 2 2 (Q_rm0 Z q1 q2 h0 n0) (T18.setTop (mkF m 56 #[.val (.long q1), .second, .val (.long q2), .second, .val (.long (-7046029254386353131 : Int64)), .second, .val (.ref b3), .val (.ref b6), .val (.long (F_rm4 (q1 + (-7046029254386353131 : Int64)))), .second, .val (.long (F_rm4 (q2 + (-7046029254386353131 : Int64)))), .second, .val (.long (F_rm4 ((q1 + (-7046029254386353131 : Int64)) + (-7046029254386353131 : Int64)))), .second, .val (.long (F_rm4 (((q1 + (-7046029254386353131 : Int64)) + (-7046029254386353131 : Int64)) + (-7046029254386353131 : Int64)))), .second, .unset] [(.long q1), (.long (F_rm4 (q1 + (-7046029254386353131 : Int64))))]))
  refine Run.go (fun _ k => XS.lload X18.here hx rfl (hb hby at_56) rfl  k) ?_
  show Run p e below s 2 2 (Q_rm0 Z q1 q2 h0 n0) (T18.setTop (mkF m 58 #[.val (.long q1), .second, .val (.long q2), .second, .val (.long (-7046029254386353131 : Int64)), .second, .val (.ref b3), .val (.ref b6), .val (.long (F_rm4 (q1 + (-7046029254386353131 : Int64)))), .second, .val (.long (F_rm4 (q2 + (-7046029254386353131 : Int64)))), .second, .val (.long (F_rm4 ((q1 + (-7046029254386353131 : Int64)) + (-7046029254386353131 : Int64)))), .second, .val (.long (F_rm4 (((q1 + (-7046029254386353131 : Int64)) + (-7046029254386353131 : Int64)) + (-7046029254386353131 : Int64)))), .second, .unset] [(.long (-7046029254386353131 : Int64)), (.long q1), (.long (F_rm4 (q1 + (-7046029254386353131 : Int64))))]))
  refine Run.go (fun _ k => XS.ladd X18.here hx rfl (hb hby at_58) rfl k) ?_
  show Run p e below s 2 2 (Q_rm0 Z q1 q2 h0 n0) (T18.setTop (mkF m 59 #[.val (.long q1), .second, .val (.long q2), .second, .val (.long (-7046029254386353131 : Int64)), .second, .val (.ref b3), .val (.ref b6), .val (.long (F_rm4 (q1 + (-7046029254386353131 : Int64)))), .second, .val (.long (F_rm4 (q2 + (-7046029254386353131 : Int64)))), .second, .val (.long (F_rm4 ((q1 + (-7046029254386353131 : Int64)) + (-7046029254386353131 : Int64)))), .second, .val (.long (F_rm4 (((q1 + (-7046029254386353131 : Int64)) + (-7046029254386353131 : Int64)) + (-7046029254386353131 : Int64)))), .second, .unset] [(.long (q1 + (-7046029254386353131 : Int64))), (.long (F_rm4 (q1 + (-7046029254386353131 : Int64))))]))
  obtain ⟨_, _, ⟨T19, L19, k19, n19⟩, -, X19, ⟨Lc19, hQ19, l19, y19, z19⟩, st19⟩ := Jvm.LawKit.callS X18 hx (y := (⟨"com/example/outlyr/outlyr/detect/SplitMix", "mix", "(J)J"⟩ : MethodName)) hown (mvT hZ (hw _ (List.mem_of_getElem? (i := 23) rfl))) (mvT hZ (hw _ (List.mem_of_getElem? (i := 19) rfl))) (mvT hZ (hw _ (List.mem_of_getElem? (i := 3) rfl))) (mvT hZ (hw _ (List.mem_of_getElem? (i := 20) rfl))) (by decide) (backOf (W := 2) (rm4 l Z a0 hw [] (q1 + (-7046029254386353131 : Int64)) T18.heap n0 Z18 ) hZ (hw _ (List.mem_of_getElem? (i := 20) rfl)) (hw _ (List.mem_of_getElem? (i := 3) rfl)) (by decide) (by decide)) (g := (mkF m 59 #[.val (.long q1), .second, .val (.long q2), .second, .val (.long (-7046029254386353131 : Int64)), .second, .val (.ref b3), .val (.ref b6), .val (.long (F_rm4 (q1 + (-7046029254386353131 : Int64)))), .second, .val (.long (F_rm4 (q2 + (-7046029254386353131 : Int64)))), .second, .val (.long (F_rm4 ((q1 + (-7046029254386353131 : Int64)) + (-7046029254386353131 : Int64)))), .second, .val (.long (F_rm4 (((q1 + (-7046029254386353131 : Int64)) + (-7046029254386353131 : Int64)) + (-7046029254386353131 : Int64)))), .second, .unset] [(.long (q1 + (-7046029254386353131 : Int64))), (.long (F_rm4 (q1 + (-7046029254386353131 : Int64))))])) rfl (by rw [hml]; rfl) (argsL := [(.long (q1 + (-7046029254386353131 : Int64)))]) (rest := [(.long (F_rm4 (q1 + (-7046029254386353131 : Int64))))]) (lenOf pd_0 rfl) rfl (by show 2 * 0 + _ ≤ _; exact Nat.le_of_eq rfl) (hb hby at_59) (fun _ _ => ⟨rfl, rfl, (by decide : 2 + 0 ≤ _), (by decide : 2 + 0 ≤ _)⟩)
  dsimp only [Pt.U, Pt.locs, Pt.cells, Pt.slots] at X19 l19 y19 z19 st19 hQ19
  subst l19 y19 z19
  obtain ⟨rfl, N19q, e19q⟩ := hQ19
  have N19 := Fr.app N18 N19q
  refine Run.go st19 ?_
  show Run p e below s 2 2 (Q_rm0 Z q1 q2 h0 n0) (T19.setTop (mkF m 62 #[.val (.long q1), .second, .val (.long q2), .second, .val (.long (-7046029254386353131 : Int64)), .second, .val (.ref b3), .val (.ref b6), .val (.long (F_rm4 (q1 + (-7046029254386353131 : Int64)))), .second, .val (.long (F_rm4 (q2 + (-7046029254386353131 : Int64)))), .second, .val (.long (F_rm4 ((q1 + (-7046029254386353131 : Int64)) + (-7046029254386353131 : Int64)))), .second, .val (.long (F_rm4 (((q1 + (-7046029254386353131 : Int64)) + (-7046029254386353131 : Int64)) + (-7046029254386353131 : Int64)))), .second, .unset] [(.long (F_rm4 (q1 + (-7046029254386353131 : Int64)))), (.long (F_rm4 (q1 + (-7046029254386353131 : Int64))))]))
  refine Run.go (fun _ k => XS.lcmp X19.here hx rfl (hb hby at_62) rfl k) ?_
  show Run p e below s 2 2 (Q_rm0 Z q1 q2 h0 n0) (T19.setTop (mkF m 63 #[.val (.long q1), .second, .val (.long q2), .second, .val (.long (-7046029254386353131 : Int64)), .second, .val (.ref b3), .val (.ref b6), .val (.long (F_rm4 (q1 + (-7046029254386353131 : Int64)))), .second, .val (.long (F_rm4 (q2 + (-7046029254386353131 : Int64)))), .second, .val (.long (F_rm4 ((q1 + (-7046029254386353131 : Int64)) + (-7046029254386353131 : Int64)))), .second, .val (.long (F_rm4 (((q1 + (-7046029254386353131 : Int64)) + (-7046029254386353131 : Int64)) + (-7046029254386353131 : Int64)))), .second, .unset] [(.int (lcmpW (F_rm4 (q1 + (-7046029254386353131 : Int64))) (F_rm4 (q1 + (-7046029254386353131 : Int64)))))]))
  refine Run.go (fun _ k => XS.ifNo X19.here hx rfl (hb hby at_63) rfl ((if0 _ _).trans (teq ((lw_eq (F_rm4 (q1 + (-7046029254386353131 : Int64))) (F_rm4 (q1 + (-7046029254386353131 : Int64)))).mpr rfl)).2) k) ?_
  show Run p e below s 2 2 (Q_rm0 Z q1 q2 h0 n0) (T19.setTop (mkF m 66 #[.val (.long q1), .second, .val (.long q2), .second, .val (.long (-7046029254386353131 : Int64)), .second, .val (.ref b3), .val (.ref b6), .val (.long (F_rm4 (q1 + (-7046029254386353131 : Int64)))), .second, .val (.long (F_rm4 (q2 + (-7046029254386353131 : Int64)))), .second, .val (.long (F_rm4 ((q1 + (-7046029254386353131 : Int64)) + (-7046029254386353131 : Int64)))), .second, .val (.long (F_rm4 (((q1 + (-7046029254386353131 : Int64)) + (-7046029254386353131 : Int64)) + (-7046029254386353131 : Int64)))), .second, .unset] []))
  refine Run.go (fun _ k => XS.iconst X19.here hx rfl (hb hby at_66) k) ?_
  show Run p e below s 2 2 (Q_rm0 Z q1 q2 h0 n0) (T19.setTop (mkF m 67 #[.val (.long q1), .second, .val (.long q2), .second, .val (.long (-7046029254386353131 : Int64)), .second, .val (.ref b3), .val (.ref b6), .val (.long (F_rm4 (q1 + (-7046029254386353131 : Int64)))), .second, .val (.long (F_rm4 (q2 + (-7046029254386353131 : Int64)))), .second, .val (.long (F_rm4 ((q1 + (-7046029254386353131 : Int64)) + (-7046029254386353131 : Int64)))), .second, .val (.long (F_rm4 (((q1 + (-7046029254386353131 : Int64)) + (-7046029254386353131 : Int64)) + (-7046029254386353131 : Int64)))), .second, .unset] [(.int (1 : Int32))]))
  refine Run.go (fun _ k => XS.goto X19.here hx rfl (pc0 := 67) (pc' := 71) rfl (hb hby at_67) (by decide) (by decide) k) ?_
  show Run p e below s 2 2 (Q_rm0 Z q1 q2 h0 n0) (T19.setTop (mkF m 71 #[.val (.long q1), .second, .val (.long q2), .second, .val (.long (-7046029254386353131 : Int64)), .second, .val (.ref b3), .val (.ref b6), .val (.long (F_rm4 (q1 + (-7046029254386353131 : Int64)))), .second, .val (.long (F_rm4 (q2 + (-7046029254386353131 : Int64)))), .second, .val (.long (F_rm4 ((q1 + (-7046029254386353131 : Int64)) + (-7046029254386353131 : Int64)))), .second, .val (.long (F_rm4 (((q1 + (-7046029254386353131 : Int64)) + (-7046029254386353131 : Int64)) + (-7046029254386353131 : Int64)))), .second, .unset] [(.int (1 : Int32))]))
  refine Run.go (fun _ k => XS.istore X19.here hx rfl (hb hby at_71) rfl (l' := #[.val (.long q1), .second, .val (.long q2), .second, .val (.long (-7046029254386353131 : Int64)), .second, .val (.ref b3), .val (.ref b6), .val (.long (F_rm4 (q1 + (-7046029254386353131 : Int64)))), .second, .val (.long (F_rm4 (q2 + (-7046029254386353131 : Int64)))), .second, .val (.long (F_rm4 ((q1 + (-7046029254386353131 : Int64)) + (-7046029254386353131 : Int64)))), .second, .val (.long (F_rm4 (((q1 + (-7046029254386353131 : Int64)) + (-7046029254386353131 : Int64)) + (-7046029254386353131 : Int64)))), .second, .val (.int (1 : Int32))]) rfl k) ?_
  show Run p e below s 2 2 (Q_rm0 Z q1 q2 h0 n0) (T19.setTop (mkF m 73 #[.val (.long q1), .second, .val (.long q2), .second, .val (.long (-7046029254386353131 : Int64)), .second, .val (.ref b3), .val (.ref b6), .val (.long (F_rm4 (q1 + (-7046029254386353131 : Int64)))), .second, .val (.long (F_rm4 (q2 + (-7046029254386353131 : Int64)))), .second, .val (.long (F_rm4 ((q1 + (-7046029254386353131 : Int64)) + (-7046029254386353131 : Int64)))), .second, .val (.long (F_rm4 (((q1 + (-7046029254386353131 : Int64)) + (-7046029254386353131 : Int64)) + (-7046029254386353131 : Int64)))), .second, .val (.int (1 : Int32))] []))
  refine Run.go (fun _ k => XS.iload X19.here hx rfl (hb hby at_73) rfl  k) ?_
  show Run p e below s 2 2 (Q_rm0 Z q1 q2 h0 n0) (T19.setTop (mkF m 75 #[.val (.long q1), .second, .val (.long q2), .second, .val (.long (-7046029254386353131 : Int64)), .second, .val (.ref b3), .val (.ref b6), .val (.long (F_rm4 (q1 + (-7046029254386353131 : Int64)))), .second, .val (.long (F_rm4 (q2 + (-7046029254386353131 : Int64)))), .second, .val (.long (F_rm4 ((q1 + (-7046029254386353131 : Int64)) + (-7046029254386353131 : Int64)))), .second, .val (.long (F_rm4 (((q1 + (-7046029254386353131 : Int64)) + (-7046029254386353131 : Int64)) + (-7046029254386353131 : Int64)))), .second, .val (.int (1 : Int32))] [(.int (1 : Int32))]))
  refine Run.go (fun _ k => XS.ifNo X19.here hx rfl (hb hby at_75) rfl ((if0 _ _).trans (feq (by decide)).1) k) ?_
  show Run p e below s 2 2 (Q_rm0 Z q1 q2 h0 n0) (T19.setTop (mkF m 78 #[.val (.long q1), .second, .val (.long q2), .second, .val (.long (-7046029254386353131 : Int64)), .second, .val (.ref b3), .val (.ref b6), .val (.long (F_rm4 (q1 + (-7046029254386353131 : Int64)))), .second, .val (.long (F_rm4 (q2 + (-7046029254386353131 : Int64)))), .second, .val (.long (F_rm4 ((q1 + (-7046029254386353131 : Int64)) + (-7046029254386353131 : Int64)))), .second, .val (.long (F_rm4 (((q1 + (-7046029254386353131 : Int64)) + (-7046029254386353131 : Int64)) + (-7046029254386353131 : Int64)))), .second, .val (.int (1 : Int32))] []))
  refine Run.go (fun _ k => XS.lload X19.here hx rfl (hb hby at_78) rfl  k) ?_
  show Run p e below s 2 2 (Q_rm0 Z q1 q2 h0 n0) (T19.setTop (mkF m 80 #[.val (.long q1), .second, .val (.long q2), .second, .val (.long (-7046029254386353131 : Int64)), .second, .val (.ref b3), .val (.ref b6), .val (.long (F_rm4 (q1 + (-7046029254386353131 : Int64)))), .second, .val (.long (F_rm4 (q2 + (-7046029254386353131 : Int64)))), .second, .val (.long (F_rm4 ((q1 + (-7046029254386353131 : Int64)) + (-7046029254386353131 : Int64)))), .second, .val (.long (F_rm4 (((q1 + (-7046029254386353131 : Int64)) + (-7046029254386353131 : Int64)) + (-7046029254386353131 : Int64)))), .second, .val (.int (1 : Int32))] [(.long (F_rm4 (q2 + (-7046029254386353131 : Int64))))]))
  refine Run.go (fun _ k => XS.lloadN X19.here hx rfl (hb hby at_80) rfl  k) ?_
  show Run p e below s 2 2 (Q_rm0 Z q1 q2 h0 n0) (T19.setTop (mkF m 81 #[.val (.long q1), .second, .val (.long q2), .second, .val (.long (-7046029254386353131 : Int64)), .second, .val (.ref b3), .val (.ref b6), .val (.long (F_rm4 (q1 + (-7046029254386353131 : Int64)))), .second, .val (.long (F_rm4 (q2 + (-7046029254386353131 : Int64)))), .second, .val (.long (F_rm4 ((q1 + (-7046029254386353131 : Int64)) + (-7046029254386353131 : Int64)))), .second, .val (.long (F_rm4 (((q1 + (-7046029254386353131 : Int64)) + (-7046029254386353131 : Int64)) + (-7046029254386353131 : Int64)))), .second, .val (.int (1 : Int32))] [(.long q2), (.long (F_rm4 (q2 + (-7046029254386353131 : Int64))))]))
  refine Run.go (fun _ k => XS.lload X19.here hx rfl (hb hby at_81) rfl  k) ?_
  show Run p e below s 2 2 (Q_rm0 Z q1 q2 h0 n0) (T19.setTop (mkF m 83 #[.val (.long q1), .second, .val (.long q2), .second, .val (.long (-7046029254386353131 : Int64)), .second, .val (.ref b3), .val (.ref b6), .val (.long (F_rm4 (q1 + (-7046029254386353131 : Int64)))), .second, .val (.long (F_rm4 (q2 + (-7046029254386353131 : Int64)))), .second, .val (.long (F_rm4 ((q1 + (-7046029254386353131 : Int64)) + (-7046029254386353131 : Int64)))), .second, .val (.long (F_rm4 (((q1 + (-7046029254386353131 : Int64)) + (-7046029254386353131 : Int64)) + (-7046029254386353131 : Int64)))), .second, .val (.int (1 : Int32))] [(.long (-7046029254386353131 : Int64)), (.long q2), (.long (F_rm4 (q2 + (-7046029254386353131 : Int64))))]))
  refine Run.go (fun _ k => XS.ladd X19.here hx rfl (hb hby at_83) rfl k) ?_
  show Run p e below s 2 2 (Q_rm0 Z q1 q2 h0 n0) (T19.setTop (mkF m 84 #[.val (.long q1), .second, .val (.long q2), .second, .val (.long (-7046029254386353131 : Int64)), .second, .val (.ref b3), .val (.ref b6), .val (.long (F_rm4 (q1 + (-7046029254386353131 : Int64)))), .second, .val (.long (F_rm4 (q2 + (-7046029254386353131 : Int64)))), .second, .val (.long (F_rm4 ((q1 + (-7046029254386353131 : Int64)) + (-7046029254386353131 : Int64)))), .second, .val (.long (F_rm4 (((q1 + (-7046029254386353131 : Int64)) + (-7046029254386353131 : Int64)) + (-7046029254386353131 : Int64)))), .second, .val (.int (1 : Int32))] [(.long (q2 + (-7046029254386353131 : Int64))), (.long (F_rm4 (q2 + (-7046029254386353131 : Int64))))]))
  obtain ⟨_, _, ⟨T20, L20, k20, n20⟩, -, X20, ⟨Lc20, hQ20, l20, y20, z20⟩, st20⟩ := Jvm.LawKit.callS X19 hx (y := (⟨"com/example/outlyr/outlyr/detect/SplitMix", "mix", "(J)J"⟩ : MethodName)) hown (mvT hZ (hw _ (List.mem_of_getElem? (i := 23) rfl))) (mvT hZ (hw _ (List.mem_of_getElem? (i := 19) rfl))) (mvT hZ (hw _ (List.mem_of_getElem? (i := 3) rfl))) (mvT hZ (hw _ (List.mem_of_getElem? (i := 20) rfl))) (by decide) (backOf (W := 2) (rm4 l Z a0 hw [] (q2 + (-7046029254386353131 : Int64)) T18.heap n0 Z18 ) hZ (hw _ (List.mem_of_getElem? (i := 20) rfl)) (hw _ (List.mem_of_getElem? (i := 3) rfl)) (by decide) (by decide)) (g := (mkF m 84 #[.val (.long q1), .second, .val (.long q2), .second, .val (.long (-7046029254386353131 : Int64)), .second, .val (.ref b3), .val (.ref b6), .val (.long (F_rm4 (q1 + (-7046029254386353131 : Int64)))), .second, .val (.long (F_rm4 (q2 + (-7046029254386353131 : Int64)))), .second, .val (.long (F_rm4 ((q1 + (-7046029254386353131 : Int64)) + (-7046029254386353131 : Int64)))), .second, .val (.long (F_rm4 (((q1 + (-7046029254386353131 : Int64)) + (-7046029254386353131 : Int64)) + (-7046029254386353131 : Int64)))), .second, .val (.int (1 : Int32))] [(.long (q2 + (-7046029254386353131 : Int64))), (.long (F_rm4 (q2 + (-7046029254386353131 : Int64))))])) rfl (by rw [hml]; rfl) (argsL := [(.long (q2 + (-7046029254386353131 : Int64)))]) (rest := [(.long (F_rm4 (q2 + (-7046029254386353131 : Int64))))]) (lenOf pd_0 rfl) rfl (by show 2 * 0 + _ ≤ _; exact Nat.le_of_eq rfl) (hb hby at_84) (fun _ _ => ⟨rfl, e19q, (by decide : 2 + 0 ≤ _), (by decide : 2 + 0 ≤ _)⟩)
  dsimp only [Pt.U, Pt.locs, Pt.cells, Pt.slots] at X20 l20 y20 z20 st20 hQ20
  subst l20 y20 z20
  obtain ⟨rfl, N20q, e20q⟩ := hQ20
  have N20 := Fr.app N19 N20q
  refine Run.go st20 ?_
  show Run p e below s 2 2 (Q_rm0 Z q1 q2 h0 n0) (T20.setTop (mkF m 87 #[.val (.long q1), .second, .val (.long q2), .second, .val (.long (-7046029254386353131 : Int64)), .second, .val (.ref b3), .val (.ref b6), .val (.long (F_rm4 (q1 + (-7046029254386353131 : Int64)))), .second, .val (.long (F_rm4 (q2 + (-7046029254386353131 : Int64)))), .second, .val (.long (F_rm4 ((q1 + (-7046029254386353131 : Int64)) + (-7046029254386353131 : Int64)))), .second, .val (.long (F_rm4 (((q1 + (-7046029254386353131 : Int64)) + (-7046029254386353131 : Int64)) + (-7046029254386353131 : Int64)))), .second, .val (.int (1 : Int32))] [(.long (F_rm4 (q2 + (-7046029254386353131 : Int64)))), (.long (F_rm4 (q2 + (-7046029254386353131 : Int64))))]))
  refine Run.go (fun _ k => XS.lcmp X20.here hx rfl (hb hby at_87) rfl k) ?_
  show Run p e below s 2 2 (Q_rm0 Z q1 q2 h0 n0) (T20.setTop (mkF m 88 #[.val (.long q1), .second, .val (.long q2), .second, .val (.long (-7046029254386353131 : Int64)), .second, .val (.ref b3), .val (.ref b6), .val (.long (F_rm4 (q1 + (-7046029254386353131 : Int64)))), .second, .val (.long (F_rm4 (q2 + (-7046029254386353131 : Int64)))), .second, .val (.long (F_rm4 ((q1 + (-7046029254386353131 : Int64)) + (-7046029254386353131 : Int64)))), .second, .val (.long (F_rm4 (((q1 + (-7046029254386353131 : Int64)) + (-7046029254386353131 : Int64)) + (-7046029254386353131 : Int64)))), .second, .val (.int (1 : Int32))] [(.int (lcmpW (F_rm4 (q2 + (-7046029254386353131 : Int64))) (F_rm4 (q2 + (-7046029254386353131 : Int64)))))]))
  refine Run.go (fun _ k => XS.ifNo X20.here hx rfl (hb hby at_88) rfl ((if0 _ _).trans (teq ((lw_eq (F_rm4 (q2 + (-7046029254386353131 : Int64))) (F_rm4 (q2 + (-7046029254386353131 : Int64)))).mpr rfl)).2) k) ?_
  show Run p e below s 2 2 (Q_rm0 Z q1 q2 h0 n0) (T20.setTop (mkF m 91 #[.val (.long q1), .second, .val (.long q2), .second, .val (.long (-7046029254386353131 : Int64)), .second, .val (.ref b3), .val (.ref b6), .val (.long (F_rm4 (q1 + (-7046029254386353131 : Int64)))), .second, .val (.long (F_rm4 (q2 + (-7046029254386353131 : Int64)))), .second, .val (.long (F_rm4 ((q1 + (-7046029254386353131 : Int64)) + (-7046029254386353131 : Int64)))), .second, .val (.long (F_rm4 (((q1 + (-7046029254386353131 : Int64)) + (-7046029254386353131 : Int64)) + (-7046029254386353131 : Int64)))), .second, .val (.int (1 : Int32))] []))
  refine Run.go (fun _ k => XS.iconst X20.here hx rfl (hb hby at_91) k) ?_
  show Run p e below s 2 2 (Q_rm0 Z q1 q2 h0 n0) (T20.setTop (mkF m 92 #[.val (.long q1), .second, .val (.long q2), .second, .val (.long (-7046029254386353131 : Int64)), .second, .val (.ref b3), .val (.ref b6), .val (.long (F_rm4 (q1 + (-7046029254386353131 : Int64)))), .second, .val (.long (F_rm4 (q2 + (-7046029254386353131 : Int64)))), .second, .val (.long (F_rm4 ((q1 + (-7046029254386353131 : Int64)) + (-7046029254386353131 : Int64)))), .second, .val (.long (F_rm4 (((q1 + (-7046029254386353131 : Int64)) + (-7046029254386353131 : Int64)) + (-7046029254386353131 : Int64)))), .second, .val (.int (1 : Int32))] [(.int (1 : Int32))]))
  refine Run.go (fun _ k => XS.goto X20.here hx rfl (pc0 := 92) (pc' := 96) rfl (hb hby at_92) (by decide) (by decide) k) ?_
  show Run p e below s 2 2 (Q_rm0 Z q1 q2 h0 n0) (T20.setTop (mkF m 96 #[.val (.long q1), .second, .val (.long q2), .second, .val (.long (-7046029254386353131 : Int64)), .second, .val (.ref b3), .val (.ref b6), .val (.long (F_rm4 (q1 + (-7046029254386353131 : Int64)))), .second, .val (.long (F_rm4 (q2 + (-7046029254386353131 : Int64)))), .second, .val (.long (F_rm4 ((q1 + (-7046029254386353131 : Int64)) + (-7046029254386353131 : Int64)))), .second, .val (.long (F_rm4 (((q1 + (-7046029254386353131 : Int64)) + (-7046029254386353131 : Int64)) + (-7046029254386353131 : Int64)))), .second, .val (.int (1 : Int32))] [(.int (1 : Int32))]))
  refine Run.go (fun _ k => XS.istore X20.here hx rfl (hb hby at_96) rfl (l' := #[.val (.long q1), .second, .val (.long q2), .second, .val (.long (-7046029254386353131 : Int64)), .second, .val (.ref b3), .val (.ref b6), .val (.long (F_rm4 (q1 + (-7046029254386353131 : Int64)))), .second, .val (.long (F_rm4 (q2 + (-7046029254386353131 : Int64)))), .second, .val (.long (F_rm4 ((q1 + (-7046029254386353131 : Int64)) + (-7046029254386353131 : Int64)))), .second, .val (.long (F_rm4 (((q1 + (-7046029254386353131 : Int64)) + (-7046029254386353131 : Int64)) + (-7046029254386353131 : Int64)))), .second, .val (.int (1 : Int32))]) rfl k) ?_
  show Run p e below s 2 2 (Q_rm0 Z q1 q2 h0 n0) (T20.setTop (mkF m 98 #[.val (.long q1), .second, .val (.long q2), .second, .val (.long (-7046029254386353131 : Int64)), .second, .val (.ref b3), .val (.ref b6), .val (.long (F_rm4 (q1 + (-7046029254386353131 : Int64)))), .second, .val (.long (F_rm4 (q2 + (-7046029254386353131 : Int64)))), .second, .val (.long (F_rm4 ((q1 + (-7046029254386353131 : Int64)) + (-7046029254386353131 : Int64)))), .second, .val (.long (F_rm4 (((q1 + (-7046029254386353131 : Int64)) + (-7046029254386353131 : Int64)) + (-7046029254386353131 : Int64)))), .second, .val (.int (1 : Int32))] []))
  refine Run.go (fun _ k => XS.iload X20.here hx rfl (hb hby at_98) rfl  k) ?_
  show Run p e below s 2 2 (Q_rm0 Z q1 q2 h0 n0) (T20.setTop (mkF m 100 #[.val (.long q1), .second, .val (.long q2), .second, .val (.long (-7046029254386353131 : Int64)), .second, .val (.ref b3), .val (.ref b6), .val (.long (F_rm4 (q1 + (-7046029254386353131 : Int64)))), .second, .val (.long (F_rm4 (q2 + (-7046029254386353131 : Int64)))), .second, .val (.long (F_rm4 ((q1 + (-7046029254386353131 : Int64)) + (-7046029254386353131 : Int64)))), .second, .val (.long (F_rm4 (((q1 + (-7046029254386353131 : Int64)) + (-7046029254386353131 : Int64)) + (-7046029254386353131 : Int64)))), .second, .val (.int (1 : Int32))] [(.int (1 : Int32))]))
  refine Run.go (fun _ k => XS.ifNo X20.here hx rfl (hb hby at_100) rfl ((if0 _ _).trans (feq (by decide)).1) k) ?_
  show Run p e below s 2 2 (Q_rm0 Z q1 q2 h0 n0) (T20.setTop (mkF m 103 #[.val (.long q1), .second, .val (.long q2), .second, .val (.long (-7046029254386353131 : Int64)), .second, .val (.ref b3), .val (.ref b6), .val (.long (F_rm4 (q1 + (-7046029254386353131 : Int64)))), .second, .val (.long (F_rm4 (q2 + (-7046029254386353131 : Int64)))), .second, .val (.long (F_rm4 ((q1 + (-7046029254386353131 : Int64)) + (-7046029254386353131 : Int64)))), .second, .val (.long (F_rm4 (((q1 + (-7046029254386353131 : Int64)) + (-7046029254386353131 : Int64)) + (-7046029254386353131 : Int64)))), .second, .val (.int (1 : Int32))] []))
  refine Run.go (fun _ k => XS.lload X20.here hx rfl (hb hby at_103) rfl  k) ?_
  show Run p e below s 2 2 (Q_rm0 Z q1 q2 h0 n0) (T20.setTop (mkF m 105 #[.val (.long q1), .second, .val (.long q2), .second, .val (.long (-7046029254386353131 : Int64)), .second, .val (.ref b3), .val (.ref b6), .val (.long (F_rm4 (q1 + (-7046029254386353131 : Int64)))), .second, .val (.long (F_rm4 (q2 + (-7046029254386353131 : Int64)))), .second, .val (.long (F_rm4 ((q1 + (-7046029254386353131 : Int64)) + (-7046029254386353131 : Int64)))), .second, .val (.long (F_rm4 (((q1 + (-7046029254386353131 : Int64)) + (-7046029254386353131 : Int64)) + (-7046029254386353131 : Int64)))), .second, .val (.int (1 : Int32))] [(.long (F_rm4 ((q1 + (-7046029254386353131 : Int64)) + (-7046029254386353131 : Int64))))]))
  refine Run.go (fun _ k => XS.lloadN X20.here hx rfl (hb hby at_105) rfl  k) ?_
  show Run p e below s 2 2 (Q_rm0 Z q1 q2 h0 n0) (T20.setTop (mkF m 106 #[.val (.long q1), .second, .val (.long q2), .second, .val (.long (-7046029254386353131 : Int64)), .second, .val (.ref b3), .val (.ref b6), .val (.long (F_rm4 (q1 + (-7046029254386353131 : Int64)))), .second, .val (.long (F_rm4 (q2 + (-7046029254386353131 : Int64)))), .second, .val (.long (F_rm4 ((q1 + (-7046029254386353131 : Int64)) + (-7046029254386353131 : Int64)))), .second, .val (.long (F_rm4 (((q1 + (-7046029254386353131 : Int64)) + (-7046029254386353131 : Int64)) + (-7046029254386353131 : Int64)))), .second, .val (.int (1 : Int32))] [(.long q1), (.long (F_rm4 ((q1 + (-7046029254386353131 : Int64)) + (-7046029254386353131 : Int64))))]))
  refine Run.go (fun _ k => X20.ldc2Long hx hown (mvT hZ (hw _ (List.mem_of_getElem? (i := 24) rfl))) (g := (mkF m 106 #[.val (.long q1), .second, .val (.long q2), .second, .val (.long (-7046029254386353131 : Int64)), .second, .val (.ref b3), .val (.ref b6), .val (.long (F_rm4 (q1 + (-7046029254386353131 : Int64)))), .second, .val (.long (F_rm4 (q2 + (-7046029254386353131 : Int64)))), .second, .val (.long (F_rm4 ((q1 + (-7046029254386353131 : Int64)) + (-7046029254386353131 : Int64)))), .second, .val (.long (F_rm4 (((q1 + (-7046029254386353131 : Int64)) + (-7046029254386353131 : Int64)) + (-7046029254386353131 : Int64)))), .second, .val (.int (1 : Int32))] [(.long q1), (.long (F_rm4 ((q1 + (-7046029254386353131 : Int64)) + (-7046029254386353131 : Int64))))])) rfl (hb hby at_106) _ k) ?_
  show Run p e below s 2 2 (Q_rm0 Z q1 q2 h0 n0) (T20.setTop (mkF m 109 #[.val (.long q1), .second, .val (.long q2), .second, .val (.long (-7046029254386353131 : Int64)), .second, .val (.ref b3), .val (.ref b6), .val (.long (F_rm4 (q1 + (-7046029254386353131 : Int64)))), .second, .val (.long (F_rm4 (q2 + (-7046029254386353131 : Int64)))), .second, .val (.long (F_rm4 ((q1 + (-7046029254386353131 : Int64)) + (-7046029254386353131 : Int64)))), .second, .val (.long (F_rm4 (((q1 + (-7046029254386353131 : Int64)) + (-7046029254386353131 : Int64)) + (-7046029254386353131 : Int64)))), .second, .val (.int (1 : Int32))] [(.long (2 : Int64)), (.long q1), (.long (F_rm4 ((q1 + (-7046029254386353131 : Int64)) + (-7046029254386353131 : Int64))))]))
  refine Run.go (fun _ k => XS.lload X20.here hx rfl (hb hby at_109) rfl  k) ?_
  show Run p e below s 2 2 (Q_rm0 Z q1 q2 h0 n0) (T20.setTop (mkF m 111 #[.val (.long q1), .second, .val (.long q2), .second, .val (.long (-7046029254386353131 : Int64)), .second, .val (.ref b3), .val (.ref b6), .val (.long (F_rm4 (q1 + (-7046029254386353131 : Int64)))), .second, .val (.long (F_rm4 (q2 + (-7046029254386353131 : Int64)))), .second, .val (.long (F_rm4 ((q1 + (-7046029254386353131 : Int64)) + (-7046029254386353131 : Int64)))), .second, .val (.long (F_rm4 (((q1 + (-7046029254386353131 : Int64)) + (-7046029254386353131 : Int64)) + (-7046029254386353131 : Int64)))), .second, .val (.int (1 : Int32))] [(.long (-7046029254386353131 : Int64)), (.long (2 : Int64)), (.long q1), (.long (F_rm4 ((q1 + (-7046029254386353131 : Int64)) + (-7046029254386353131 : Int64))))]))
  refine Run.go (fun _ k => XS.lmul X20.here hx rfl (hb hby at_111) rfl k) ?_
  show Run p e below s 2 2 (Q_rm0 Z q1 q2 h0 n0) (T20.setTop (mkF m 112 #[.val (.long q1), .second, .val (.long q2), .second, .val (.long (-7046029254386353131 : Int64)), .second, .val (.ref b3), .val (.ref b6), .val (.long (F_rm4 (q1 + (-7046029254386353131 : Int64)))), .second, .val (.long (F_rm4 (q2 + (-7046029254386353131 : Int64)))), .second, .val (.long (F_rm4 ((q1 + (-7046029254386353131 : Int64)) + (-7046029254386353131 : Int64)))), .second, .val (.long (F_rm4 (((q1 + (-7046029254386353131 : Int64)) + (-7046029254386353131 : Int64)) + (-7046029254386353131 : Int64)))), .second, .val (.int (1 : Int32))] [(.long (4354685564936845354 : Int64)), (.long q1), (.long (F_rm4 ((q1 + (-7046029254386353131 : Int64)) + (-7046029254386353131 : Int64))))]))
  refine Run.go (fun _ k => XS.ladd X20.here hx rfl (hb hby at_112) rfl k) ?_
  show Run p e below s 2 2 (Q_rm0 Z q1 q2 h0 n0) (T20.setTop (mkF m 113 #[.val (.long q1), .second, .val (.long q2), .second, .val (.long (-7046029254386353131 : Int64)), .second, .val (.ref b3), .val (.ref b6), .val (.long (F_rm4 (q1 + (-7046029254386353131 : Int64)))), .second, .val (.long (F_rm4 (q2 + (-7046029254386353131 : Int64)))), .second, .val (.long (F_rm4 ((q1 + (-7046029254386353131 : Int64)) + (-7046029254386353131 : Int64)))), .second, .val (.long (F_rm4 (((q1 + (-7046029254386353131 : Int64)) + (-7046029254386353131 : Int64)) + (-7046029254386353131 : Int64)))), .second, .val (.int (1 : Int32))] [(.long (q1 + (4354685564936845354 : Int64))), (.long (F_rm4 ((q1 + (-7046029254386353131 : Int64)) + (-7046029254386353131 : Int64))))]))
  obtain ⟨_, _, ⟨T21, L21, k21, n21⟩, -, X21, ⟨Lc21, hQ21, l21, y21, z21⟩, st21⟩ := Jvm.LawKit.callS X20 hx (y := (⟨"com/example/outlyr/outlyr/detect/SplitMix", "mix", "(J)J"⟩ : MethodName)) hown (mvT hZ (hw _ (List.mem_of_getElem? (i := 23) rfl))) (mvT hZ (hw _ (List.mem_of_getElem? (i := 19) rfl))) (mvT hZ (hw _ (List.mem_of_getElem? (i := 3) rfl))) (mvT hZ (hw _ (List.mem_of_getElem? (i := 20) rfl))) (by decide) (backOf (W := 2) (rm4 l Z a0 hw [] (q1 + (4354685564936845354 : Int64)) T18.heap n0 Z18 ) hZ (hw _ (List.mem_of_getElem? (i := 20) rfl)) (hw _ (List.mem_of_getElem? (i := 3) rfl)) (by decide) (by decide)) (g := (mkF m 113 #[.val (.long q1), .second, .val (.long q2), .second, .val (.long (-7046029254386353131 : Int64)), .second, .val (.ref b3), .val (.ref b6), .val (.long (F_rm4 (q1 + (-7046029254386353131 : Int64)))), .second, .val (.long (F_rm4 (q2 + (-7046029254386353131 : Int64)))), .second, .val (.long (F_rm4 ((q1 + (-7046029254386353131 : Int64)) + (-7046029254386353131 : Int64)))), .second, .val (.long (F_rm4 (((q1 + (-7046029254386353131 : Int64)) + (-7046029254386353131 : Int64)) + (-7046029254386353131 : Int64)))), .second, .val (.int (1 : Int32))] [(.long (q1 + (4354685564936845354 : Int64))), (.long (F_rm4 ((q1 + (-7046029254386353131 : Int64)) + (-7046029254386353131 : Int64))))])) rfl (by rw [hml]; rfl) (argsL := [(.long (q1 + (4354685564936845354 : Int64)))]) (rest := [(.long (F_rm4 ((q1 + (-7046029254386353131 : Int64)) + (-7046029254386353131 : Int64))))]) (lenOf pd_0 rfl) rfl (by show 2 * 0 + _ ≤ _; exact Nat.le_of_eq rfl) (hb hby at_113) (fun _ _ => ⟨rfl, e20q, (by decide : 2 + 0 ≤ _), (by decide : 2 + 0 ≤ _)⟩)
  dsimp only [Pt.U, Pt.locs, Pt.cells, Pt.slots] at X21 l21 y21 z21 st21 hQ21
  subst l21 y21 z21
  obtain ⟨rfl, N21q, e21q⟩ := hQ21
  have N21 := Fr.app N20 N21q
  refine Run.go st21 ?_
  show Run p e below s 2 2 (Q_rm0 Z q1 q2 h0 n0) (T21.setTop (mkF m 116 #[.val (.long q1), .second, .val (.long q2), .second, .val (.long (-7046029254386353131 : Int64)), .second, .val (.ref b3), .val (.ref b6), .val (.long (F_rm4 (q1 + (-7046029254386353131 : Int64)))), .second, .val (.long (F_rm4 (q2 + (-7046029254386353131 : Int64)))), .second, .val (.long (F_rm4 ((q1 + (-7046029254386353131 : Int64)) + (-7046029254386353131 : Int64)))), .second, .val (.long (F_rm4 (((q1 + (-7046029254386353131 : Int64)) + (-7046029254386353131 : Int64)) + (-7046029254386353131 : Int64)))), .second, .val (.int (1 : Int32))] [(.long (F_rm4 (q1 + (4354685564936845354 : Int64)))), (.long (F_rm4 ((q1 + (-7046029254386353131 : Int64)) + (-7046029254386353131 : Int64))))]))
  refine Run.go (fun _ k => XS.lcmp X21.here hx rfl (hb hby at_116) rfl k) ?_
  show Run p e below s 2 2 (Q_rm0 Z q1 q2 h0 n0) (T21.setTop (mkF m 117 #[.val (.long q1), .second, .val (.long q2), .second, .val (.long (-7046029254386353131 : Int64)), .second, .val (.ref b3), .val (.ref b6), .val (.long (F_rm4 (q1 + (-7046029254386353131 : Int64)))), .second, .val (.long (F_rm4 (q2 + (-7046029254386353131 : Int64)))), .second, .val (.long (F_rm4 ((q1 + (-7046029254386353131 : Int64)) + (-7046029254386353131 : Int64)))), .second, .val (.long (F_rm4 (((q1 + (-7046029254386353131 : Int64)) + (-7046029254386353131 : Int64)) + (-7046029254386353131 : Int64)))), .second, .val (.int (1 : Int32))] [(.int (lcmpW (F_rm4 ((q1 + (-7046029254386353131 : Int64)) + (-7046029254386353131 : Int64))) (F_rm4 (q1 + (4354685564936845354 : Int64)))))]))
  refine Run.go (fun _ k => XS.ifNo X21.here hx rfl (hb hby at_117) rfl ((if0 _ _).trans (teq ((lw_eq (F_rm4 ((q1 + (-7046029254386353131 : Int64)) + (-7046029254386353131 : Int64))) (F_rm4 (q1 + (4354685564936845354 : Int64)))).mpr (congrArg F_rm4 (own_g2 q1)))).2) k) ?_
  show Run p e below s 2 2 (Q_rm0 Z q1 q2 h0 n0) (T21.setTop (mkF m 120 #[.val (.long q1), .second, .val (.long q2), .second, .val (.long (-7046029254386353131 : Int64)), .second, .val (.ref b3), .val (.ref b6), .val (.long (F_rm4 (q1 + (-7046029254386353131 : Int64)))), .second, .val (.long (F_rm4 (q2 + (-7046029254386353131 : Int64)))), .second, .val (.long (F_rm4 ((q1 + (-7046029254386353131 : Int64)) + (-7046029254386353131 : Int64)))), .second, .val (.long (F_rm4 (((q1 + (-7046029254386353131 : Int64)) + (-7046029254386353131 : Int64)) + (-7046029254386353131 : Int64)))), .second, .val (.int (1 : Int32))] []))
  refine Run.go (fun _ k => XS.iconst X21.here hx rfl (hb hby at_120) k) ?_
  show Run p e below s 2 2 (Q_rm0 Z q1 q2 h0 n0) (T21.setTop (mkF m 121 #[.val (.long q1), .second, .val (.long q2), .second, .val (.long (-7046029254386353131 : Int64)), .second, .val (.ref b3), .val (.ref b6), .val (.long (F_rm4 (q1 + (-7046029254386353131 : Int64)))), .second, .val (.long (F_rm4 (q2 + (-7046029254386353131 : Int64)))), .second, .val (.long (F_rm4 ((q1 + (-7046029254386353131 : Int64)) + (-7046029254386353131 : Int64)))), .second, .val (.long (F_rm4 (((q1 + (-7046029254386353131 : Int64)) + (-7046029254386353131 : Int64)) + (-7046029254386353131 : Int64)))), .second, .val (.int (1 : Int32))] [(.int (1 : Int32))]))
  refine Run.go (fun _ k => XS.goto X21.here hx rfl (pc0 := 121) (pc' := 125) rfl (hb hby at_121) (by decide) (by decide) k) ?_
  show Run p e below s 2 2 (Q_rm0 Z q1 q2 h0 n0) (T21.setTop (mkF m 125 #[.val (.long q1), .second, .val (.long q2), .second, .val (.long (-7046029254386353131 : Int64)), .second, .val (.ref b3), .val (.ref b6), .val (.long (F_rm4 (q1 + (-7046029254386353131 : Int64)))), .second, .val (.long (F_rm4 (q2 + (-7046029254386353131 : Int64)))), .second, .val (.long (F_rm4 ((q1 + (-7046029254386353131 : Int64)) + (-7046029254386353131 : Int64)))), .second, .val (.long (F_rm4 (((q1 + (-7046029254386353131 : Int64)) + (-7046029254386353131 : Int64)) + (-7046029254386353131 : Int64)))), .second, .val (.int (1 : Int32))] [(.int (1 : Int32))]))
  refine Run.go (fun _ k => XS.istore X21.here hx rfl (hb hby at_125) rfl (l' := #[.val (.long q1), .second, .val (.long q2), .second, .val (.long (-7046029254386353131 : Int64)), .second, .val (.ref b3), .val (.ref b6), .val (.long (F_rm4 (q1 + (-7046029254386353131 : Int64)))), .second, .val (.long (F_rm4 (q2 + (-7046029254386353131 : Int64)))), .second, .val (.long (F_rm4 ((q1 + (-7046029254386353131 : Int64)) + (-7046029254386353131 : Int64)))), .second, .val (.long (F_rm4 (((q1 + (-7046029254386353131 : Int64)) + (-7046029254386353131 : Int64)) + (-7046029254386353131 : Int64)))), .second, .val (.int (1 : Int32))]) rfl k) ?_
  show Run p e below s 2 2 (Q_rm0 Z q1 q2 h0 n0) (T21.setTop (mkF m 127 #[.val (.long q1), .second, .val (.long q2), .second, .val (.long (-7046029254386353131 : Int64)), .second, .val (.ref b3), .val (.ref b6), .val (.long (F_rm4 (q1 + (-7046029254386353131 : Int64)))), .second, .val (.long (F_rm4 (q2 + (-7046029254386353131 : Int64)))), .second, .val (.long (F_rm4 ((q1 + (-7046029254386353131 : Int64)) + (-7046029254386353131 : Int64)))), .second, .val (.long (F_rm4 (((q1 + (-7046029254386353131 : Int64)) + (-7046029254386353131 : Int64)) + (-7046029254386353131 : Int64)))), .second, .val (.int (1 : Int32))] []))
  refine Run.go (fun _ k => XS.iload X21.here hx rfl (hb hby at_127) rfl  k) ?_
  show Run p e below s 2 2 (Q_rm0 Z q1 q2 h0 n0) (T21.setTop (mkF m 129 #[.val (.long q1), .second, .val (.long q2), .second, .val (.long (-7046029254386353131 : Int64)), .second, .val (.ref b3), .val (.ref b6), .val (.long (F_rm4 (q1 + (-7046029254386353131 : Int64)))), .second, .val (.long (F_rm4 (q2 + (-7046029254386353131 : Int64)))), .second, .val (.long (F_rm4 ((q1 + (-7046029254386353131 : Int64)) + (-7046029254386353131 : Int64)))), .second, .val (.long (F_rm4 (((q1 + (-7046029254386353131 : Int64)) + (-7046029254386353131 : Int64)) + (-7046029254386353131 : Int64)))), .second, .val (.int (1 : Int32))] [(.int (1 : Int32))]))
  refine Run.go (fun _ k => XS.ifNo X21.here hx rfl (hb hby at_129) rfl ((if0 _ _).trans (feq (by decide)).1) k) ?_
  show Run p e below s 2 2 (Q_rm0 Z q1 q2 h0 n0) (T21.setTop (mkF m 132 #[.val (.long q1), .second, .val (.long q2), .second, .val (.long (-7046029254386353131 : Int64)), .second, .val (.ref b3), .val (.ref b6), .val (.long (F_rm4 (q1 + (-7046029254386353131 : Int64)))), .second, .val (.long (F_rm4 (q2 + (-7046029254386353131 : Int64)))), .second, .val (.long (F_rm4 ((q1 + (-7046029254386353131 : Int64)) + (-7046029254386353131 : Int64)))), .second, .val (.long (F_rm4 (((q1 + (-7046029254386353131 : Int64)) + (-7046029254386353131 : Int64)) + (-7046029254386353131 : Int64)))), .second, .val (.int (1 : Int32))] []))
  refine Run.go (fun _ k => XS.lload X21.here hx rfl (hb hby at_132) rfl  k) ?_
  show Run p e below s 2 2 (Q_rm0 Z q1 q2 h0 n0) (T21.setTop (mkF m 134 #[.val (.long q1), .second, .val (.long q2), .second, .val (.long (-7046029254386353131 : Int64)), .second, .val (.ref b3), .val (.ref b6), .val (.long (F_rm4 (q1 + (-7046029254386353131 : Int64)))), .second, .val (.long (F_rm4 (q2 + (-7046029254386353131 : Int64)))), .second, .val (.long (F_rm4 ((q1 + (-7046029254386353131 : Int64)) + (-7046029254386353131 : Int64)))), .second, .val (.long (F_rm4 (((q1 + (-7046029254386353131 : Int64)) + (-7046029254386353131 : Int64)) + (-7046029254386353131 : Int64)))), .second, .val (.int (1 : Int32))] [(.long (F_rm4 (((q1 + (-7046029254386353131 : Int64)) + (-7046029254386353131 : Int64)) + (-7046029254386353131 : Int64))))]))
  refine Run.go (fun _ k => XS.lloadN X21.here hx rfl (hb hby at_134) rfl  k) ?_
  show Run p e below s 2 2 (Q_rm0 Z q1 q2 h0 n0) (T21.setTop (mkF m 135 #[.val (.long q1), .second, .val (.long q2), .second, .val (.long (-7046029254386353131 : Int64)), .second, .val (.ref b3), .val (.ref b6), .val (.long (F_rm4 (q1 + (-7046029254386353131 : Int64)))), .second, .val (.long (F_rm4 (q2 + (-7046029254386353131 : Int64)))), .second, .val (.long (F_rm4 ((q1 + (-7046029254386353131 : Int64)) + (-7046029254386353131 : Int64)))), .second, .val (.long (F_rm4 (((q1 + (-7046029254386353131 : Int64)) + (-7046029254386353131 : Int64)) + (-7046029254386353131 : Int64)))), .second, .val (.int (1 : Int32))] [(.long q1), (.long (F_rm4 (((q1 + (-7046029254386353131 : Int64)) + (-7046029254386353131 : Int64)) + (-7046029254386353131 : Int64))))]))
  refine Run.go (fun _ k => X21.ldc2Long hx hown (mvT hZ (hw _ (List.mem_of_getElem? (i := 25) rfl))) (g := (mkF m 135 #[.val (.long q1), .second, .val (.long q2), .second, .val (.long (-7046029254386353131 : Int64)), .second, .val (.ref b3), .val (.ref b6), .val (.long (F_rm4 (q1 + (-7046029254386353131 : Int64)))), .second, .val (.long (F_rm4 (q2 + (-7046029254386353131 : Int64)))), .second, .val (.long (F_rm4 ((q1 + (-7046029254386353131 : Int64)) + (-7046029254386353131 : Int64)))), .second, .val (.long (F_rm4 (((q1 + (-7046029254386353131 : Int64)) + (-7046029254386353131 : Int64)) + (-7046029254386353131 : Int64)))), .second, .val (.int (1 : Int32))] [(.long q1), (.long (F_rm4 (((q1 + (-7046029254386353131 : Int64)) + (-7046029254386353131 : Int64)) + (-7046029254386353131 : Int64))))])) rfl (hb hby at_135) _ k) ?_
  show Run p e below s 2 2 (Q_rm0 Z q1 q2 h0 n0) (T21.setTop (mkF m 138 #[.val (.long q1), .second, .val (.long q2), .second, .val (.long (-7046029254386353131 : Int64)), .second, .val (.ref b3), .val (.ref b6), .val (.long (F_rm4 (q1 + (-7046029254386353131 : Int64)))), .second, .val (.long (F_rm4 (q2 + (-7046029254386353131 : Int64)))), .second, .val (.long (F_rm4 ((q1 + (-7046029254386353131 : Int64)) + (-7046029254386353131 : Int64)))), .second, .val (.long (F_rm4 (((q1 + (-7046029254386353131 : Int64)) + (-7046029254386353131 : Int64)) + (-7046029254386353131 : Int64)))), .second, .val (.int (1 : Int32))] [(.long (3 : Int64)), (.long q1), (.long (F_rm4 (((q1 + (-7046029254386353131 : Int64)) + (-7046029254386353131 : Int64)) + (-7046029254386353131 : Int64))))]))
  refine Run.go (fun _ k => XS.lload X21.here hx rfl (hb hby at_138) rfl  k) ?_
  show Run p e below s 2 2 (Q_rm0 Z q1 q2 h0 n0) (T21.setTop (mkF m 140 #[.val (.long q1), .second, .val (.long q2), .second, .val (.long (-7046029254386353131 : Int64)), .second, .val (.ref b3), .val (.ref b6), .val (.long (F_rm4 (q1 + (-7046029254386353131 : Int64)))), .second, .val (.long (F_rm4 (q2 + (-7046029254386353131 : Int64)))), .second, .val (.long (F_rm4 ((q1 + (-7046029254386353131 : Int64)) + (-7046029254386353131 : Int64)))), .second, .val (.long (F_rm4 (((q1 + (-7046029254386353131 : Int64)) + (-7046029254386353131 : Int64)) + (-7046029254386353131 : Int64)))), .second, .val (.int (1 : Int32))] [(.long (-7046029254386353131 : Int64)), (.long (3 : Int64)), (.long q1), (.long (F_rm4 (((q1 + (-7046029254386353131 : Int64)) + (-7046029254386353131 : Int64)) + (-7046029254386353131 : Int64))))]))
  refine Run.go (fun _ k => XS.lmul X21.here hx rfl (hb hby at_140) rfl k) ?_
  show Run p e below s 2 2 (Q_rm0 Z q1 q2 h0 n0) (T21.setTop (mkF m 141 #[.val (.long q1), .second, .val (.long q2), .second, .val (.long (-7046029254386353131 : Int64)), .second, .val (.ref b3), .val (.ref b6), .val (.long (F_rm4 (q1 + (-7046029254386353131 : Int64)))), .second, .val (.long (F_rm4 (q2 + (-7046029254386353131 : Int64)))), .second, .val (.long (F_rm4 ((q1 + (-7046029254386353131 : Int64)) + (-7046029254386353131 : Int64)))), .second, .val (.long (F_rm4 (((q1 + (-7046029254386353131 : Int64)) + (-7046029254386353131 : Int64)) + (-7046029254386353131 : Int64)))), .second, .val (.int (1 : Int32))] [(.long (-2691343689449507777 : Int64)), (.long q1), (.long (F_rm4 (((q1 + (-7046029254386353131 : Int64)) + (-7046029254386353131 : Int64)) + (-7046029254386353131 : Int64))))]))
  refine Run.go (fun _ k => XS.ladd X21.here hx rfl (hb hby at_141) rfl k) ?_
  show Run p e below s 2 2 (Q_rm0 Z q1 q2 h0 n0) (T21.setTop (mkF m 142 #[.val (.long q1), .second, .val (.long q2), .second, .val (.long (-7046029254386353131 : Int64)), .second, .val (.ref b3), .val (.ref b6), .val (.long (F_rm4 (q1 + (-7046029254386353131 : Int64)))), .second, .val (.long (F_rm4 (q2 + (-7046029254386353131 : Int64)))), .second, .val (.long (F_rm4 ((q1 + (-7046029254386353131 : Int64)) + (-7046029254386353131 : Int64)))), .second, .val (.long (F_rm4 (((q1 + (-7046029254386353131 : Int64)) + (-7046029254386353131 : Int64)) + (-7046029254386353131 : Int64)))), .second, .val (.int (1 : Int32))] [(.long (q1 + (-2691343689449507777 : Int64))), (.long (F_rm4 (((q1 + (-7046029254386353131 : Int64)) + (-7046029254386353131 : Int64)) + (-7046029254386353131 : Int64))))]))
  obtain ⟨_, _, ⟨T22, L22, k22, n22⟩, -, X22, ⟨Lc22, hQ22, l22, y22, z22⟩, st22⟩ := Jvm.LawKit.callS X21 hx (y := (⟨"com/example/outlyr/outlyr/detect/SplitMix", "mix", "(J)J"⟩ : MethodName)) hown (mvT hZ (hw _ (List.mem_of_getElem? (i := 23) rfl))) (mvT hZ (hw _ (List.mem_of_getElem? (i := 19) rfl))) (mvT hZ (hw _ (List.mem_of_getElem? (i := 3) rfl))) (mvT hZ (hw _ (List.mem_of_getElem? (i := 20) rfl))) (by decide) (backOf (W := 2) (rm4 l Z a0 hw [] (q1 + (-2691343689449507777 : Int64)) T18.heap n0 Z18 ) hZ (hw _ (List.mem_of_getElem? (i := 20) rfl)) (hw _ (List.mem_of_getElem? (i := 3) rfl)) (by decide) (by decide)) (g := (mkF m 142 #[.val (.long q1), .second, .val (.long q2), .second, .val (.long (-7046029254386353131 : Int64)), .second, .val (.ref b3), .val (.ref b6), .val (.long (F_rm4 (q1 + (-7046029254386353131 : Int64)))), .second, .val (.long (F_rm4 (q2 + (-7046029254386353131 : Int64)))), .second, .val (.long (F_rm4 ((q1 + (-7046029254386353131 : Int64)) + (-7046029254386353131 : Int64)))), .second, .val (.long (F_rm4 (((q1 + (-7046029254386353131 : Int64)) + (-7046029254386353131 : Int64)) + (-7046029254386353131 : Int64)))), .second, .val (.int (1 : Int32))] [(.long (q1 + (-2691343689449507777 : Int64))), (.long (F_rm4 (((q1 + (-7046029254386353131 : Int64)) + (-7046029254386353131 : Int64)) + (-7046029254386353131 : Int64))))])) rfl (by rw [hml]; rfl) (argsL := [(.long (q1 + (-2691343689449507777 : Int64)))]) (rest := [(.long (F_rm4 (((q1 + (-7046029254386353131 : Int64)) + (-7046029254386353131 : Int64)) + (-7046029254386353131 : Int64))))]) (lenOf pd_0 rfl) rfl (by show 2 * 0 + _ ≤ _; exact Nat.le_of_eq rfl) (hb hby at_142) (fun _ _ => ⟨rfl, e21q, (by decide : 2 + 0 ≤ _), (by decide : 2 + 0 ≤ _)⟩)
  dsimp only [Pt.U, Pt.locs, Pt.cells, Pt.slots] at X22 l22 y22 z22 st22 hQ22
  subst l22 y22 z22
  obtain ⟨rfl, N22q, e22q⟩ := hQ22
  have N22 := Fr.app N21 N22q
  refine Run.go st22 ?_
  show Run p e below s 2 2 (Q_rm0 Z q1 q2 h0 n0) (T22.setTop (mkF m 145 #[.val (.long q1), .second, .val (.long q2), .second, .val (.long (-7046029254386353131 : Int64)), .second, .val (.ref b3), .val (.ref b6), .val (.long (F_rm4 (q1 + (-7046029254386353131 : Int64)))), .second, .val (.long (F_rm4 (q2 + (-7046029254386353131 : Int64)))), .second, .val (.long (F_rm4 ((q1 + (-7046029254386353131 : Int64)) + (-7046029254386353131 : Int64)))), .second, .val (.long (F_rm4 (((q1 + (-7046029254386353131 : Int64)) + (-7046029254386353131 : Int64)) + (-7046029254386353131 : Int64)))), .second, .val (.int (1 : Int32))] [(.long (F_rm4 (q1 + (-2691343689449507777 : Int64)))), (.long (F_rm4 (((q1 + (-7046029254386353131 : Int64)) + (-7046029254386353131 : Int64)) + (-7046029254386353131 : Int64))))]))
  refine Run.go (fun _ k => XS.lcmp X22.here hx rfl (hb hby at_145) rfl k) ?_
  show Run p e below s 2 2 (Q_rm0 Z q1 q2 h0 n0) (T22.setTop (mkF m 146 #[.val (.long q1), .second, .val (.long q2), .second, .val (.long (-7046029254386353131 : Int64)), .second, .val (.ref b3), .val (.ref b6), .val (.long (F_rm4 (q1 + (-7046029254386353131 : Int64)))), .second, .val (.long (F_rm4 (q2 + (-7046029254386353131 : Int64)))), .second, .val (.long (F_rm4 ((q1 + (-7046029254386353131 : Int64)) + (-7046029254386353131 : Int64)))), .second, .val (.long (F_rm4 (((q1 + (-7046029254386353131 : Int64)) + (-7046029254386353131 : Int64)) + (-7046029254386353131 : Int64)))), .second, .val (.int (1 : Int32))] [(.int (lcmpW (F_rm4 (((q1 + (-7046029254386353131 : Int64)) + (-7046029254386353131 : Int64)) + (-7046029254386353131 : Int64))) (F_rm4 (q1 + (-2691343689449507777 : Int64)))))]))
  refine Run.go (fun _ k => XS.ifNo X22.here hx rfl (hb hby at_146) rfl ((if0 _ _).trans (teq ((lw_eq (F_rm4 (((q1 + (-7046029254386353131 : Int64)) + (-7046029254386353131 : Int64)) + (-7046029254386353131 : Int64))) (F_rm4 (q1 + (-2691343689449507777 : Int64)))).mpr (congrArg F_rm4 (own_g3 q1)))).2) k) ?_
  show Run p e below s 2 2 (Q_rm0 Z q1 q2 h0 n0) (T22.setTop (mkF m 149 #[.val (.long q1), .second, .val (.long q2), .second, .val (.long (-7046029254386353131 : Int64)), .second, .val (.ref b3), .val (.ref b6), .val (.long (F_rm4 (q1 + (-7046029254386353131 : Int64)))), .second, .val (.long (F_rm4 (q2 + (-7046029254386353131 : Int64)))), .second, .val (.long (F_rm4 ((q1 + (-7046029254386353131 : Int64)) + (-7046029254386353131 : Int64)))), .second, .val (.long (F_rm4 (((q1 + (-7046029254386353131 : Int64)) + (-7046029254386353131 : Int64)) + (-7046029254386353131 : Int64)))), .second, .val (.int (1 : Int32))] []))
  refine Run.go (fun _ k => XS.iconst X22.here hx rfl (hb hby at_149) k) ?_
  show Run p e below s 2 2 (Q_rm0 Z q1 q2 h0 n0) (T22.setTop (mkF m 150 #[.val (.long q1), .second, .val (.long q2), .second, .val (.long (-7046029254386353131 : Int64)), .second, .val (.ref b3), .val (.ref b6), .val (.long (F_rm4 (q1 + (-7046029254386353131 : Int64)))), .second, .val (.long (F_rm4 (q2 + (-7046029254386353131 : Int64)))), .second, .val (.long (F_rm4 ((q1 + (-7046029254386353131 : Int64)) + (-7046029254386353131 : Int64)))), .second, .val (.long (F_rm4 (((q1 + (-7046029254386353131 : Int64)) + (-7046029254386353131 : Int64)) + (-7046029254386353131 : Int64)))), .second, .val (.int (1 : Int32))] [(.int (1 : Int32))]))
  refine Run.go (fun _ k => XS.goto X22.here hx rfl (pc0 := 150) (pc' := 154) rfl (hb hby at_150) (by decide) (by decide) k) ?_
  show Run p e below s 2 2 (Q_rm0 Z q1 q2 h0 n0) (T22.setTop (mkF m 154 #[.val (.long q1), .second, .val (.long q2), .second, .val (.long (-7046029254386353131 : Int64)), .second, .val (.ref b3), .val (.ref b6), .val (.long (F_rm4 (q1 + (-7046029254386353131 : Int64)))), .second, .val (.long (F_rm4 (q2 + (-7046029254386353131 : Int64)))), .second, .val (.long (F_rm4 ((q1 + (-7046029254386353131 : Int64)) + (-7046029254386353131 : Int64)))), .second, .val (.long (F_rm4 (((q1 + (-7046029254386353131 : Int64)) + (-7046029254386353131 : Int64)) + (-7046029254386353131 : Int64)))), .second, .val (.int (1 : Int32))] [(.int (1 : Int32))]))
  refine Run.go (fun _ k => XS.istore X22.here hx rfl (hb hby at_154) rfl (l' := #[.val (.long q1), .second, .val (.long q2), .second, .val (.long (-7046029254386353131 : Int64)), .second, .val (.ref b3), .val (.ref b6), .val (.long (F_rm4 (q1 + (-7046029254386353131 : Int64)))), .second, .val (.long (F_rm4 (q2 + (-7046029254386353131 : Int64)))), .second, .val (.long (F_rm4 ((q1 + (-7046029254386353131 : Int64)) + (-7046029254386353131 : Int64)))), .second, .val (.long (F_rm4 (((q1 + (-7046029254386353131 : Int64)) + (-7046029254386353131 : Int64)) + (-7046029254386353131 : Int64)))), .second, .val (.int (1 : Int32))]) rfl k) ?_
  show Run p e below s 2 2 (Q_rm0 Z q1 q2 h0 n0) (T22.setTop (mkF m 156 #[.val (.long q1), .second, .val (.long q2), .second, .val (.long (-7046029254386353131 : Int64)), .second, .val (.ref b3), .val (.ref b6), .val (.long (F_rm4 (q1 + (-7046029254386353131 : Int64)))), .second, .val (.long (F_rm4 (q2 + (-7046029254386353131 : Int64)))), .second, .val (.long (F_rm4 ((q1 + (-7046029254386353131 : Int64)) + (-7046029254386353131 : Int64)))), .second, .val (.long (F_rm4 (((q1 + (-7046029254386353131 : Int64)) + (-7046029254386353131 : Int64)) + (-7046029254386353131 : Int64)))), .second, .val (.int (1 : Int32))] []))
  refine Run.go (fun _ k => XS.iload X22.here hx rfl (hb hby at_156) rfl  k) ?_
  show Run p e below s 2 2 (Q_rm0 Z q1 q2 h0 n0) (T22.setTop (mkF m 158 #[.val (.long q1), .second, .val (.long q2), .second, .val (.long (-7046029254386353131 : Int64)), .second, .val (.ref b3), .val (.ref b6), .val (.long (F_rm4 (q1 + (-7046029254386353131 : Int64)))), .second, .val (.long (F_rm4 (q2 + (-7046029254386353131 : Int64)))), .second, .val (.long (F_rm4 ((q1 + (-7046029254386353131 : Int64)) + (-7046029254386353131 : Int64)))), .second, .val (.long (F_rm4 (((q1 + (-7046029254386353131 : Int64)) + (-7046029254386353131 : Int64)) + (-7046029254386353131 : Int64)))), .second, .val (.int (1 : Int32))] [(.int (1 : Int32))]))
  exact Run.retN (y := 1) X22 hx (t := .boolean) Bd.returns (by simp) rfl Bd.notSynchronized (hb hby at_158) (by decide) (by decide) ⟨rfl, N22⟩
set_option maxRecDepth 65536 in
set_option maxHeartbeats 40000000 in
theorem comes_1 {Post : Tables → Env → Array Value → State → Outcome → State → Prop} (hpost : ∀ tb e args s v u, (limb_1_1.after args s (.returned v) u = true ∧ limb_1_2.after args s (.returned v) u = true ∧ True) → FrameEnd s (.returned v) u (Jvm.fieldLocs frame_1_writes args s ++ Jvm.arrayLocs frame_1_arrays args s ++ Jvm.staticLocs frame_1_statics s) 16 128 → Post tb e args s (.returned v) u) :
    ArmFor flags0 classFile x code maxLocals ret World_1 tables_1 room_1 Calls_1 rest_1 Pre_1 Post := by
  intro l hfl _ _ p e ha hc hk s m args below hf hA hF happ hP
  obtain ⟨hcalls, hrest, hpre⟩ := hP
  obtain ⟨-, -, -, hnamed, -, -, -, hat⟩ := (Spec.applies_iff hf).mp happ
  obtain ⟨hg, hn⟩ := and_e (Cond.before_iff.mp (show (Jvm.Cond.and given_1 narrow_1).before args s = true from hpre))
  obtain ⟨g1, g2⟩ := and_e hg
  obtain ⟨g3, g4⟩ := and_e g2
  obtain ⟨w0, w1, rfl⟩ : ∃ w0 w1 : Value, args = #[w0, w1] := by
    have hs : args.size = 2 := by simpa [Cond.value, given_1] using g1
    obtain ⟨L⟩ := args
    match L, hs with
    | [w0, w1], _ => exact ⟨w0, w1, rfl⟩
  have hw := fun d (hd : d ∈ tables_1) => atoms_spec (ws := Jvm.Cond.code x code maxLocals ret :: tables_1) hat d (List.mem_cons_of_mem _ hd)
  have hfit : Fit s := fun {y c} hc i hi => by
    obtain ⟨ha, rfl⟩ := Array.getElem?_eq_some_iff.mp hc
    have q := List.all_eq_true.mp ((Array.all_eq_true_iff_forall_mem.mp hF) _ (Array.getElem_mem ha)) i (List.mem_range.mpr hi)
    simpa [Array.getElem?_eq_getElem hi] using q
  obtain ⟨i0, ei0⟩ := isL_v g3
  obtain rfl : w0 = (.long i0) := Option.some.inj ei0
  obtain ⟨i1, ei1⟩ := isL_v g4
  obtain rfl : w1 = (.long i1) := Option.some.inj ei1
  obtain ⟨n, o, h1, h2, h3, _, L, rfl, ⟨rfl, N⟩, hq⟩ := rm0 l s _ hw tables_1 i0 i1 s.heap s.heap.size (Nat.le_refl _)  p e ha hc hk s m _ below hf ((Spec.applies_iff_loose hf).mp happ).1 ⟨rfl, State.Warmed39.refl s, rfl⟩ trivial
  refine ⟨n, _, h1, h2, h3, hpost _ _ _ _ _ _ ⟨Cond.after_iff.mpr rfl, Cond.after_iff.mpr (eq_i res_at (Term.int_eval (1)) rfl), trivial⟩ ⟨hq.1, hq.2.1, (hq.2.2.sift fun y hy => Or.inr (N y hy)).mono (by decide) (by decide)⟩⟩
theorem main_1_1 : Claimed_1_1 := comes_1 fun _ _ _ _ _ _ h hF => ⟨h.1, hF⟩
theorem main_1_2 : Claimed_1_2 := comes_1 fun _ _ _ _ _ _ h hF => ⟨h.2.1, hF⟩
end Jvm.Pilot.@@N@@
namespace Jvm.Pilot.@@N@@
open Jvm Jvm.ClassFile Sem Op Lib Jvm.Free Jvm.Stand Jvm.Pilot.@@N@@.Jvm.D
/-! MADE BY PROGRAM (witnessworld.py) out of the Statement's table words and the real class files: 9 classes; the members and pool entries that the words name. The judged class is class 1, her method 1. -/
namespace start1
open Jvm.ClassFile
def u (s : String) : CpInfo := .utf8 (stringToUtf16 s)
/-- a pool by its gaps: so many unusable entries, then the entry; so many at the end -/
def gap : Nat → List CpInfo → List CpInfo
  | 0, r => r
  | n + 1, r => .unusable :: gap n r
def poolList (es : List (Nat × CpInfo)) (last : Nat) : List CpInfo := es.foldr (fun e r => gap e.1 (e.2 :: r)) (gap last [])
def pool (es : List (Nat × CpInfo)) (last : Nat) : Array CpInfo := ⟨poolList es last⟩
def fileOf (pool : Array CpInfo) (this : Nat) (attrs : Array Attribute := #[]) (ms : Array MethodInfo := #[]) (fl : Nat := 33) (sup : Nat := 0) (ifs : Array Nat := #[]) (fds : Array FieldInfo := #[]) : ClassFile where
  minorVersion := 0
  majorVersion := 65
  constantPool := pool
  accessFlags := fl
  thisClass := this
  superClass := sup
  interfaces := ifs
  fields := fds
  methods := ms
  attributes := attrs
def plain (name : String) (sup : Option ClassId) : Class where
  name := name
  kind := .ordinary
  loader := none
  accessFlags := 33
  super := sup
  interfaces := #[]
  cf := none
  fields := #[]
  methods := #[]
  instanceTypes := #[]
  staticTypes := #[]
  resolved := #[]
  callSites := []
  init := .initialized
  statics := none
  mirror := none

def pool0 : Array CpInfo := pool [(5, u "<init>"), (0, u "()V"), (1, .class_ 10), (1, u "java/lang/Object")] 113

def k0c0 : Code := { maxStack := 0, maxLocals := 1, code := object_method_1_code, exceptionTable := #[], attributes := #[] }
def k0m0 : Method := { name := "<init>", desc := "()V", sig := { parameters := [], returnType := none }, accessFlags := 1, code := some k0c0 }
/-- java/lang/Object -/
def k0 : Class := { plain "java/lang/Object" none with
  accessFlags := 33
  interfaces := #[]
  cf := some (fileOf pool0 8 #[] #[{ accessFlags := 1, nameIndex := 5, descriptorIndex := 6, attributes := #[] }] 33 0 #[] #[])
  fields := #[]
  methods := #[k0m0]
  instanceTypes := #[]
  staticTypes := #[]
  resolved := Array.replicate 124 none
  statics := none }

def pool1 : Array CpInfo := pool [(2, .class_ 4), (1, u "java/lang/Object"), (0, u "<init>"), (0, u "()V"), (0, .long 11400714819323198485), (1, .class_ 10), (0, u "com/example/outlyr/outlyr/detect/SplitMix"), (0, .methodref 9 12), (0, .nameAndType 5 13), (0, u "(J)V"), (0, .methodref 9 15), (0, .nameAndType 16 17), (0, u "next"), (0, u "()J"), (0, .methodref 9 19), (0, .nameAndType 20 21), (0, u "mix"), (0, u "(J)J"), (0, .long 2), (1, .long 3), (1, .class_ 27), (0, u "com/example/outlyr/outlyr/detect/SplitMixNextPinLaw"), (2, u "law"), (0, u "(JJ)Z")] 3

def k1m0 : Method := { name := "<init>", desc := "()V", sig := { parameters := [], returnType := none }, accessFlags := 1, code := none }
def k1c1 : Code := { maxStack := 8, maxLocals := 17, code := code, exceptionTable := #[], attributes := #[] }
def k1m1 : Method := { name := "law", desc := "(JJ)Z", sig := { parameters := [.long, .long], returnType := some .boolean }, accessFlags := 9, code := some k1c1 }
/-- com/example/outlyr/outlyr/detect/SplitMixNextPinLaw -/
def k1 : Class := { plain "com/example/outlyr/outlyr/detect/SplitMixNextPinLaw" (some 0) with
  accessFlags := 49
  interfaces := #[]
  cf := some (fileOf pool1 26 #[] #[{ accessFlags := 1, nameIndex := 5, descriptorIndex := 6, attributes := #[] }, { accessFlags := 9, nameIndex := 30, descriptorIndex := 31, attributes := #[] }] 49 2 #[] #[])
  fields := #[]
  methods := #[k1m0, k1m1]
  instanceTypes := #[]
  staticTypes := #[]
  resolved := Array.replicate 35 none
  statics := none }

def pool2 : Array CpInfo := pool [(1, .methodref 2 3), (0, .class_ 4), (0, .nameAndType 5 6), (0, u "java/lang/Object"), (0, u "<init>"), (0, u "()V"), (0, .fieldref 8 9), (0, .class_ 10), (0, .nameAndType 11 12), (0, u "com/example/outlyr/outlyr/detect/SplitMix"), (0, u "state"), (0, u "J"), (0, .long 11400714819323198485), (1, .methodref 8 16), (0, .nameAndType 17 18), (0, u "mix"), (0, u "(J)J"), (15, u "next"), (0, u "()J"), (0, .long 13787848793156543929), (1, .long 10723151780598845931), (1, u "GOLDEN"), (1, u "(J)V")] 22

def k2c0 : Code := { maxStack := 3, maxLocals := 3, code := prog_11_method_1_code, exceptionTable := #[], attributes := #[] }
def k2m0 : Method := { name := "<init>", desc := "(J)V", sig := { parameters := [.long], returnType := none }, accessFlags := 1, code := some k2c0 }
def k2c1 : Code := { maxStack := 5, maxLocals := 1, code := prog_11_method_2_code, exceptionTable := #[], attributes := #[] }
def k2m1 : Method := { name := "next", desc := "()J", sig := { parameters := [], returnType := some .long }, accessFlags := 1, code := some k2c1 }
def k2c2 : Code := { maxStack := 5, maxLocals := 4, code := prog_11_method_4_code, exceptionTable := #[], attributes := #[] }
def k2m2 : Method := { name := "mix", desc := "(J)J", sig := { parameters := [.long], returnType := some .long }, accessFlags := 8, code := some k2c2 }
/-- com/example/outlyr/outlyr/detect/SplitMix -/
def k2 : Class := { plain "com/example/outlyr/outlyr/detect/SplitMix" (some 0) with
  accessFlags := 33
  interfaces := #[]
  cf := some (fileOf pool2 8 #[] #[{ accessFlags := 1, nameIndex := 5, descriptorIndex := 42, attributes := #[] }, { accessFlags := 1, nameIndex := 34, descriptorIndex := 35, attributes := #[] }, { accessFlags := 8, nameIndex := 17, descriptorIndex := 18, attributes := #[] }] 33 2 #[] #[{ accessFlags := 24, nameIndex := 40, descriptorIndex := 12, attributes := #[] }, { accessFlags := 2, nameIndex := 11, descriptorIndex := 12, attributes := #[] }])
  fields := #[{ name := "GOLDEN", type := .long, accessFlags := 24, slot := 0, constantValue := 0 }, { name := "state", type := .long, accessFlags := 2, slot := 0, constantValue := 0 }]
  methods := #[k2m0, k2m1, k2m2]
  instanceTypes := #[.long]
  staticTypes := #[.long]
  resolved := Array.replicate 65 none
  statics := none }

def pool3 : Array CpInfo := pool [(1, u "java/lang/Cloneable"), (0, .class_ 1), (0, u "java/lang/Object"), (0, .class_ 3)] 3

/-- java/lang/Cloneable -/
def k3 : Class := { plain "java/lang/Cloneable" (some 0) with
  accessFlags := 1537
  interfaces := #[]
  cf := some (fileOf pool3 2 #[] #[] 1537 4 #[] #[])
  fields := #[]
  methods := #[]
  instanceTypes := #[]
  staticTypes := #[]
  resolved := Array.replicate 8 none
  statics := none }

def pool4 : Array CpInfo := pool [(1, u "java/io/Serializable"), (0, .class_ 1), (0, u "java/lang/Object"), (0, .class_ 3)] 3

/-- java/io/Serializable -/
def k4 : Class := { plain "java/io/Serializable" (some 0) with
  accessFlags := 1537
  interfaces := #[]
  cf := some (fileOf pool4 2 #[] #[] 1537 4 #[] #[])
  fields := #[]
  methods := #[]
  instanceTypes := #[]
  staticTypes := #[]
  resolved := Array.replicate 8 none
  statics := none }

/-- the primitive byte -/
def k5 : Class := { plain "byte" none with kind := .primitive 'B', accessFlags := 0x411 }
/-- [B -/
def k6 : Class := { plain "[B" (some 0) with kind := .array 5 .byte, interfaces := #[3, 4], accessFlags := 1041 }

/-- the primitive int -/
def k7 : Class := { plain "int" none with kind := .primitive 'I', accessFlags := 0x411 }
/-- [I -/
def k8 : Class := { plain "[I" (some 0) with kind := .array 7 .int, interfaces := #[3, 4], accessFlags := 1041 }

def heap : Heap := #[]
def classes : Array Class := #[k0, k1, k2, k3, k4, k5, k6, k7, k8]
def interned : List (Array UInt16 × Addr) := []
def slotsUsed : Nat := 0
def theMethod : MethodId := ⟨1, 1⟩
def args0 : Array Value := #[.long 5, .long 7]
def aboutOver (below : List Frame) : State where
  vm := { classes := classes, interned := interned.toArray }
  heap := heap
  slotsUsed := slotsUsed
  threads := #[{ frames := .invoking theMethod args0 :: below }]
def below0 : List Frame := [.native { method := ⟨0, 0⟩, args := #[] }]
def about1 : State := aboutOver below0
def p0 : Program := .bare "" "" ""
def e0 : Env := launch0.env 0 0 0
theorem w_frames : about1.frames = Frame.invoking theMethod args0 :: below0 := rfl
set_option maxRecDepth 65536 in
theorem w_args : argsFit about1.vm theMethod args0 = true := by decide +kernel
set_option maxRecDepth 65536 in
theorem w_heap : heapFits about1 = true := by decide +kernel
set_option maxRecDepth 65536 in
theorem w_runnable : about1.curStatus? = some .runnable := by decide +kernel
set_option maxRecDepth 65536 in
theorem w_alone : about1.alone = true := by decide +kernel
set_option maxRecDepth 65536 in
theorem w_named : about1.methodNamed? x = some theMethod := by decide +kernel
set_option maxRecDepth 65536 in
theorem w_hears : about1.hears theMethod below0 = true := by decide +kernel
set_option maxRecDepth 65536 in
theorem w_ripe : about1.ripe theMethod args0 below0 = true := by decide +kernel
theorem w_running : about1.status = .running := rfl
set_option maxRecDepth 65536 in
theorem w_room : about1.hasRoom e0.platform room_1 = true :=
  launch0.hasRoom_least _ room_1 (by decide +kernel) (by decide +kernel) (by decide +kernel) (by decide +kernel) (by decide +kernel) (by decide +kernel)
theorem allAtoms_all (ts : List Jvm.Cond) (a : Array Jvm.Value) (st : Jvm.State) : (allAtoms ts).before a st = ts.all (fun c => c.before a st) := by
  induction ts with
  | nil => rfl
  | cons c t ih =>
    show (Jvm.Cond.and c (allAtoms t)).before a st = _
    rw [Jvm.Cond.before_and, ih, List.all_cons]
def words1 : List Jvm.Cond := Jvm.Cond.code x code maxLocals ret :: tables_1
/-- a 'code' word, met by the world's own term for the bytes: nothing is compared byte by byte -/
theorem code_word {y : MethodName} {bytes : ByteArray} {mx : Nat} {rt : Option FieldType} {a : Array Value} {s : State} {m : MethodId} {meth : Method} {c : Code} (h1 : s.methodNamed? y = some m) (h2 : s.vm.method? m = some meth) (h3 : meth.code = some c) (h4 : c.code = bytes)
    (h5 : (c.maxLocals == mx && c.exceptionTable.isEmpty && decide (c.maxStack ≤ mostOperands) && decide (meth.sig.returnType = rt) && !meth.locks && decide (parseMethodDescriptor y.desc = some meth.sig)) = true) : (Jvm.Cond.code y bytes mx rt).before a s = true := by
  simp only [Bool.and_eq_true, beq_iff_eq, Bool.not_eq_true', decide_eq_true_eq] at h5
  obtain ⟨⟨⟨⟨⟨g1, g2⟩, g3⟩, g4⟩, g5⟩, g6⟩ := h5
  simp [Cond.before, Cond.holds, Cond.value, h1, h2, h3, h4, g1, g2, g3, g4, g5, g6]
def isCode : Jvm.Cond → Bool
  | .code _ _ _ _ => true
  | _ => false
theorem all_split {L : List Jvm.Cond} {P : Jvm.Cond → Bool} (h1 : L.all (fun c => isCode c || P c) = true) (h2 : ∀ c ∈ L.filter isCode, P c = true) : L.all P = true := by
  refine List.all_eq_true.mpr fun c hc => ?_
  have h := List.all_eq_true.mp h1 c hc
  rcases Bool.eq_false_or_eq_true (isCode c) with hi | hi
  · exact h2 c (List.mem_filter.mpr ⟨hc, hi⟩)
  · simpa [hi] using h
set_option maxRecDepth 65536 in
theorem w_c0 : (Jvm.Cond.code x code maxLocals ret).before args0 about1 = true := code_word (m := ⟨1, 1⟩) (meth := k1m1) (c := k1c1) (by decide +kernel) rfl rfl rfl (by decide +kernel)
set_option maxRecDepth 65536 in
theorem w_c1 : (Jvm.Cond.code ({ cls := "com/example/outlyr/outlyr/detect/SplitMix", name := "<init>", desc := "(J)V" } : Jvm.MethodName) prog_11_method_1_code (3 : Nat) (Option.none : Option Jvm.ClassFile.FieldType)).before args0 about1 = true := code_word (m := ⟨2, 0⟩) (meth := k2m0) (c := k2c0) (by decide +kernel) rfl rfl rfl (by decide +kernel)
set_option maxRecDepth 65536 in
theorem w_c2 : (Jvm.Cond.code ({ cls := "java/lang/Object", name := "<init>", desc := "()V" } : Jvm.MethodName) object_method_1_code (1 : Nat) (Option.none : Option Jvm.ClassFile.FieldType)).before args0 about1 = true := code_word (m := ⟨0, 0⟩) (meth := k0m0) (c := k0c0) (by decide +kernel) rfl rfl rfl (by decide +kernel)
set_option maxRecDepth 65536 in
theorem w_c3 : (Jvm.Cond.code ({ cls := "com/example/outlyr/outlyr/detect/SplitMix", name := "next", desc := "()J" } : Jvm.MethodName) prog_11_method_2_code (1 : Nat) (Option.some Jvm.ClassFile.FieldType.long)).before args0 about1 = true := code_word (m := ⟨2, 1⟩) (meth := k2m1) (c := k2c1) (by decide +kernel) rfl rfl rfl (by decide +kernel)
set_option maxRecDepth 65536 in
theorem w_c4 : (Jvm.Cond.code ({ cls := "com/example/outlyr/outlyr/detect/SplitMix", name := "mix", desc := "(J)J" } : Jvm.MethodName) prog_11_method_4_code (4 : Nat) (Option.some Jvm.ClassFile.FieldType.long)).before args0 about1 = true := code_word (m := ⟨2, 2⟩) (meth := k2m2) (c := k2c2) (by decide +kernel) rfl rfl rfl (by decide +kernel)
def codes1 : List Jvm.Cond := [Jvm.Cond.code x code maxLocals ret, Jvm.Cond.code ({ cls := "com/example/outlyr/outlyr/detect/SplitMix", name := "<init>", desc := "(J)V" } : Jvm.MethodName) prog_11_method_1_code (3 : Nat) (Option.none : Option Jvm.ClassFile.FieldType), Jvm.Cond.code ({ cls := "java/lang/Object", name := "<init>", desc := "()V" } : Jvm.MethodName) object_method_1_code (1 : Nat) (Option.none : Option Jvm.ClassFile.FieldType), Jvm.Cond.code ({ cls := "com/example/outlyr/outlyr/detect/SplitMix", name := "next", desc := "()J" } : Jvm.MethodName) prog_11_method_2_code (1 : Nat) (Option.some Jvm.ClassFile.FieldType.long), Jvm.Cond.code ({ cls := "com/example/outlyr/outlyr/detect/SplitMix", name := "mix", desc := "(J)J" } : Jvm.MethodName) prog_11_method_4_code (4 : Nat) (Option.some Jvm.ClassFile.FieldType.long)]
set_option maxRecDepth 65536 in
theorem codes_eq : words1.filter isCode = codes1 := rfl
theorem w_codes : ∀ c ∈ words1.filter isCode, c.before args0 about1 = true := by
  rw [codes_eq]
  intro c hc
  simp only [codes1, List.mem_cons, List.not_mem_nil, or_false] at hc
  rcases hc with rfl | rfl | rfl | rfl | rfl
  · exact w_c0
  · exact w_c1
  · exact w_c2
  · exact w_c3
  · exact w_c4
set_option maxRecDepth 65536 in
theorem w_t1 : (words1.take 24).all (fun c => isCode c || c.before args0 about1) = true := by decide +kernel
set_option maxRecDepth 65536 in
theorem w_t2 : (words1.drop 24).all (fun c => isCode c || c.before args0 about1) = true := by decide +kernel
theorem w_tables : (allAtoms (Jvm.Cond.code x code maxLocals ret :: tables_1)).before args0 about1 = true := by
  rw [allAtoms_all]
  show words1.all (fun c => c.before args0 about1) = true
  refine all_split ?_ w_codes
  rw [← List.take_append_drop 24 words1, List.all_append, w_t1, w_t2]
  rfl
set_option maxRecDepth 65536 in
theorem w_case : (Jvm.Cond.and given_1 narrow_1).before args0 about1 = true := by decide +kernel
theorem w_applies : (headSpec (Jvm.Cond.code x code maxLocals ret :: tables_1) room_1).applies x e0.platform about1 = true :=
  (Spec.applies_iff w_frames).mpr ⟨w_running, w_runnable, w_alone, w_named, w_hears, w_ripe, w_room, w_tables⟩
theorem atStart : AtStart classFile x code maxLocals ret World_1 tables_1 room_1 Calls_1 rest_1 Pre_1 launch0 p0 e0 about1 theMethod args0 below0 :=
  ⟨lists_1, trivial, launch0.admits_env _ _ _, launch0.least_env, fairChoices_fair.cas, fairChoices_fair.clock, w_frames, w_args, w_heap, w_applies, trivial, trivial, w_case⟩
end start1
theorem witness_1 : WitnessClaimed_1 := ⟨start1.p0, start1.e0, start1.about1, start1.theMethod, start1.args0, start1.below0, start1.atStart⟩
end Jvm.Pilot.@@N@@
