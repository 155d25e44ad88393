import JvmDerived
import JvmDerived.Pilot.@@N@@Statement
import JvmDerived.Pilot.@@N@@Code
set_option linter.unusedVariables false
set_option linter.unusedSimpArgs false
namespace Jvm.Pilot.@@N@@
open Jvm Jvm.ClassFile Sem Op Lib Jvm.Free Jvm.Stand Jvm.LawKit Jvm.RoadKit Bundle Jvm.Pilot.@@N@@.Jvm.D
section Own
variable {p : Program} {l : Launch} {e : Env} {R : Room} {s : State} {m : MethodId} {args : Array Value} {below : List Frame} {meth : Method} {c : Code} {T : State} {locs : List Loc} {cells slots : Nat} {Z : State} {h h' : Heap}
def Run (p : Program) (e : Env) (below : List Frame) (s : State) (C N : Nat) (Q : Option Value → Heap → List Loc → Prop) (S : State) : Prop :=
  ∃ s₂ o, Steps p.tables e below S s₂ ∧ s₂.status = .running ∧ Ended s₂ below o ∧ ∃ v L, o = .returned v ∧ Q v s₂.heap L ∧ FrameEnd s o s₂ L C N
variable {C N : Nat} {Q : Option Value → Heap → List Loc → Prop} {S S' : State}
theorem Run.go (k : ∀ t, Steps p.tables e below S' t → Steps p.tables e below S t) (r : Run p e below s C N Q S') : Run p e below s C N Q S := by
  obtain ⟨s₂, o, h1, r⟩ := r
  exact ⟨s₂, o, k _ h1, r⟩
theorem Run.tr (k : Steps p.tables e below S S') (r : Run p e below s C N Q S') : Run p e below s C N Q S := by
  obtain ⟨s₂, o, h1, r⟩ := r
  exact ⟨s₂, o, k.trans h1, r⟩
theorem Run.retI (X : Stand p l e R s m args below meth c T locs cells slots) (hx : p.tables.exec = Jvm.exec) {pc : Nat} {Ls : Array Slot} {z : Int32} {rest : List Value} (hret : meth.sig.returnType = some .int) (hlk : meth.locks = false) (hd : decode c.code pc = .ok (.ireturn, 1)) (hc : cells ≤ C) (hn : slots ≤ N)
    (hQ : Q (some (.int z)) T.heap locs) : Run p e below s C N Q (T.setTop (mkF m pc Ls (.int z :: rest))) := by
  obtain ⟨fs, hr, hrun, hended, hW, hsame⟩ := X.leave (v := some (.int z)) (fun q => by rw [hret] at q; cases q)
  refine ⟨_, _, ?_, hrun, hended, _, _, rfl, hQ, ⟨_, rfl⟩, hW, hsame.mono hc hn⟩
  have hm' : T.vm.method? m = some meth := X.method'
  have hn : narrow .int (.int z) = .int z := rfl
  show Steps p.tables e below (T.setTop { method := m, pc := pc, locals := Ls, stack := _ :: rest, locked := none }) _
  jvm_step X.here [X.here.top, hx, hd, hm', hret, hn]
  first | (intro acts; rw [hr _ acts rfl rfl rfl]) | rw [hr _ _ rfl rfl rfl]
  exact Steps.refl _
theorem Run.retN (X : Stand p l e R s m args below meth c T locs cells slots) (hx : p.tables.exec = Jvm.exec) {pc : Nat} {Ls : Array Slot} {z y : Int32} {t : FieldType} {rest : List Value} (hret : meth.sig.returnType = some t) (ht : t = .boolean ∨ t = .byte ∨ t = .char ∨ t = .short) (hy : nar t z = y) (hlk : meth.locks = false) (hd : decode c.code pc = .ok (.ireturn, 1)) (hc : cells ≤ C) (hn : slots ≤ N)
    (hQ : Q (some (.int y)) T.heap locs) : Run p e below s C N Q (T.setTop (mkF m pc Ls (.int z :: rest))) := by
  subst hy
  obtain ⟨fs, hr, hrun, hended, hW, hsame⟩ := X.leave (v := some (.int (nar t z))) (fun q => by rw [hret] at q; cases q)
  exact ⟨_, _, Jvm.RoadKit.retN X hx hret ht hd hr, hrun, hended, _, _, rfl, hQ, ⟨_, rfl⟩, hW, hsame.mono hc hn⟩
theorem Run.retJ (X : Stand p l e R s m args below meth c T locs cells slots) (hx : p.tables.exec = Jvm.exec) {pc : Nat} {Ls : Array Slot} {z : Int64} {rest : List Value} (hret : meth.sig.returnType = some .long) (hlk : meth.locks = false) (hd : decode c.code pc = .ok (.lreturn, 1)) (hc : cells ≤ C) (hn : slots ≤ N)
    (hQ : Q (some (.long z)) T.heap locs) : Run p e below s C N Q (T.setTop (mkF m pc Ls (.long z :: rest))) := by
  obtain ⟨fs, hr, hrun, hended, hW, hsame⟩ := X.leave (v := some (.long z)) (fun q => by rw [hret] at q; cases q)
  refine ⟨_, _, ?_, hrun, hended, _, _, rfl, hQ, ⟨_, rfl⟩, hW, hsame.mono hc hn⟩
  have hm' : T.vm.method? m = some meth := X.method'
  show Steps p.tables e below (T.setTop { method := m, pc := pc, locals := Ls, stack := _ :: rest, locked := none }) _
  jvm_step X.here [X.here.top, hx, hd, hm', hret, narrow]
  first | (intro acts; rw [hr _ acts rfl rfl rfl]) | rw [hr _ _ rfl rfl rfl]
  exact Steps.refl _
theorem Run.retA (X : Stand p l e R s m args below meth c T locs cells slots) (hx : p.tables.exec = Jvm.exec) {pc : Nat} {Ls : Array Slot} {w : Value} {t : FieldType} {rest : List Value} (hw : w.isRef = true) (hret : meth.sig.returnType = some t) (ht : t.isReference = true) (hlk : meth.locks = false) (hd : decode c.code pc = .ok (.areturn, 1)) (hc : cells ≤ C) (hn : slots ≤ N)
    (hQ : Q (some w) T.heap locs) : Run p e below s C N Q (T.setTop (mkF m pc Ls (w :: rest))) := by
  obtain ⟨fs, hr, hrun, hended, hW, hsame⟩ := X.leave (v := some w) (fun q => by rw [hret] at q; cases q)
  refine ⟨_, _, ?_, hrun, hended, _, _, rfl, hQ, ⟨_, rfl⟩, hW, hsame.mono hc hn⟩
  have hm' : T.vm.method? m = some meth := X.method'
  show Steps p.tables e below (T.setTop { method := m, pc := pc, locals := Ls, stack := _ :: rest, locked := none }) _
  rcases ref_cases hw with rfl | ⟨a, rfl⟩
  all_goals
    jvm_step X.here [X.here.top, hx, hd, hm', hret, Value.isRef, ht]
    first | (intro acts; rw [hr _ acts rfl rfl rfl]) | rw [hr _ _ rfl rfl rfl]
    exact Steps.refl _
theorem Run.ret0 (X : Stand p l e R s m args below meth c T locs cells slots) (hx : p.tables.exec = Jvm.exec) {pc : Nat} {Ls : Array Slot} (hret : meth.sig.returnType = none) (hlk : meth.locks = false) (hd : decode c.code pc = .ok (.return_, 1)) (hc : cells ≤ C) (hn : slots ≤ N)
    (hQ : Q none T.heap locs) : Run p e below s C N Q (T.setTop (mkF m pc Ls [])) := by
  obtain ⟨fs, hr, hrun, hended, hW, hsame⟩ := X.leave (v := none) (fun _ => rfl)
  exact ⟨_, _, X.returnOut hx hret hd hr, hrun, hended, _, _, rfl, hQ, ⟨_, rfl⟩, hW, hsame.mono hc hn⟩
theorem Stand_gen {k : Nat} (X : Stand p l e R s m args below meth c T locs cells slots) (F : Fr k locs) : ∃ L, Stand p l e R s m args below meth c T L cells slots ∧ Fr k L := ⟨_, X, F⟩
theorem Sta.keep {C n d : String} {w : Value} {ws : List Addr} (F : Sta Z h C n d w) (K : Keep h h' ws) (q : ∀ x ∈ ws, ∀ c : Cell, h[x]? = some c → c.vm.isStatics = false) : Sta Z h' C n d w := by
  obtain ⟨cf, i, k, f, st, cell, h1, h2, h3, h4, h5, h6, h7⟩ := F
  refine ⟨cf, i, k, f, st, cell, h1, h2, h3, h4, K.2.1 st cell h5 (fun hm => ?_), h6, h7⟩
  rw [q st hm cell h5] at h6; cases h6
theorem Exa.nst {a : Addr} {C : String} (F : Exa Z h a C) : ∀ c : Cell, h[a]? = some c → c.vm.isStatics = false := fun c q => by
  obtain ⟨cell, k, h1, -, -, h4, -⟩ := F
  cases h1.symm.trans q; exact h4
/-- an array of n elements, the i-th is f i -/
def Ary (Z : State) (h : Heap) (a : Addr) (ty : FieldType) (n : Nat) (f : Nat → Value) : Prop := ∃ c : Cell, Arr Z h a c ty ∧ c.slots.size = n ∧ ∀ i, i < n → c.slots[i]? = some (f i)
variable {a b : Addr} {ty : FieldType} {n sl : Nat} {f : Nat → Value} {v : Value} {ws : List Addr}
theorem Ary.lt (F : Ary Z h a ty n f) : a < h.size := by obtain ⟨c, A, -⟩ := F; exact A.lt
theorem Ary.ext (F : Ary Z h a ty n f) (E : Ext h h') : Ary Z h' a ty n f := by obtain ⟨c, A, r⟩ := F; exact ⟨c, A.ext E, r⟩
theorem Ary.other (F : Ary Z h b ty n f) (W : Wr h h' a sl v) (q : b ≠ a) : Ary Z h' b ty n f := by obtain ⟨c, A, r⟩ := F; exact ⟨c, A.other W q, r⟩
theorem Ary.keep (F : Ary Z h a ty n f) (K : Keep h h' ws) (q : a ∉ ws) : Ary Z h' a ty n f := by obtain ⟨c, A, r⟩ := F; exact ⟨c, ⟨K.2.1 a c A.1 q, A.2⟩, r⟩
theorem Ary.ne {C : String} {a0 : Array Value} {k : Nat} (F : Ary Z h a ty n f) (G : Exa Z h b C) (wi : (Jvm.Cond.instantiable C k).before a0 Z = true) : a ≠ b := by
  obtain ⟨c, A, r⟩ := F; exact (ne_arr G wi A).symm
theorem Ary.same (F : Ary Z h a ty n f) (W : Wr h h' a sl v) : Ary Z h' a ty n (fun i => if i = sl then v else f i) := by
  obtain ⟨c, A, hs, hf⟩ := F
  obtain ⟨c1, q1, q2, q3, q4⟩ := W
  obtain rfl := Option.some.inj (q1.symm.trans A.1)
  refine ⟨c1.setSlot sl v, A.same ⟨c1, q1, q2, q3, q4⟩, by simp [Cell.setSlot, hs], fun i hi => ?_⟩
  by_cases e : i = sl
  · subst e; simp [Cell.setSlot, q3]
  · simp only [if_neg e]; rw [← hf i hi]; exact Array.getElem?_setIfInBounds_ne (Ne.symm e)
theorem Ary.nst (F : Ary Z h a ty n f) : ∀ c : Cell, h[a]? = some c → c.vm.isStatics = false := fun c q => by
  obtain ⟨cl, A, -⟩ := F
  cases A.1.symm.trans q; exact A.plain
theorem Ary.congr {g : Nat → Value} (F : Ary Z h a ty n f) (q : ∀ i, i < n → f i = g i) : Ary Z h a ty n g := by
  obtain ⟨c, A, hs, hf⟩ := F; exact ⟨c, A, hs, fun i hi => by rw [hf i hi, q i hi]⟩
theorem Ary.new {k : ClassId} {z : Int32} (A : Arr Z h a (newA k ty z) ty) (q : z.toNatClampNeg = n) : Ary Z h a ty n (fun _ => defaultValue ty) := by
  subst q
  exact ⟨_, A, sz_new _ _ _, fun i hi => by simp [newA, hi]⟩
theorem out_of {j : Int32} {c : Cell} (hs : c.slots.size = n) (h0 : ¬ j < 0) (hj : j.toNatClampNeg < n) : ¬ (j < 0 ∨ c.slots.size ≤ j.toNatClampNeg) := by
  rw [hs]; exact fun q => q.elim h0 (fun q => absurd hj (Nat.not_lt.mpr q))
/-- an array of references: besides, its class is that of arrays over C -/
def ArR (Z : State) (h : Heap) (a : Addr) (C : String) (n : Nat) (f : Nat → Value) : Prop := ∃ c : Cell, Arr Z h a c (.object C) ∧ Ovr Z c.cls C ∧ c.slots.size = n ∧ ∀ i, i < n → c.slots[i]? = some (f i)
variable {K : String}
theorem ArR.lt (F : ArR Z h a K n f) : a < h.size := by obtain ⟨c, A, -⟩ := F; exact A.lt
theorem ArR.ext (F : ArR Z h a K n f) (E : Ext h h') : ArR Z h' a K n f := by obtain ⟨c, A, r⟩ := F; exact ⟨c, A.ext E, r⟩
theorem ArR.other (F : ArR Z h b K n f) (W : Wr h h' a sl v) (q : b ≠ a) : ArR Z h' b K n f := by obtain ⟨c, A, r⟩ := F; exact ⟨c, A.other W q, r⟩
theorem ArR.keep (F : ArR Z h a K n f) (k : Keep h h' ws) (q : a ∉ ws) : ArR Z h' a K n f := by obtain ⟨c, A, r⟩ := F; exact ⟨c, ⟨k.2.1 a c A.1 q, A.2⟩, r⟩
theorem ArR.ary (F : ArR Z h a K n f) : Ary Z h a (.object K) n f := by obtain ⟨c, A, -, r⟩ := F; exact ⟨c, A, r⟩
theorem ArR.same (F : ArR Z h a K n f) (W : Wr h h' a sl v) : ArR Z h' a K n (fun i => if i = sl then v else f i) := by
  obtain ⟨c, A, o, hs, hf⟩ := F
  obtain ⟨c1, q1, q2, q3, q4⟩ := W
  obtain rfl := Option.some.inj (q1.symm.trans A.1)
  refine ⟨c1.setSlot sl v, A.same ⟨c1, q1, q2, q3, q4⟩, o, by simp [Cell.setSlot, hs], fun i hi => ?_⟩
  by_cases e : i = sl
  · subst e; simp [Cell.setSlot, q3]
  · simp only [if_neg e]; rw [← hf i hi]; exact Array.getElem?_setIfInBounds_ne (Ne.symm e)
theorem ArR.new {k : ClassId} {z : Int32} (A : Arr Z h a (newA k (.object K) z) (.object K)) (O : Ovr Z k K) (q : z.toNatClampNeg = n) : ArR Z h a K n (fun _ => .null) := by
  subst q
  exact ⟨_, A, O, sz_new _ _ _, fun i hi => by simp [newA, hi]; rfl⟩
section Arrays
theorem ary_iget (X : Stand p l e R s m args below meth c T locs cells slots) (hx : p.tables.exec = Jvm.exec) (hZ : Z.Warmed39 s.vm) (eT : T.heap = h) (A : Ary Z h a .int n f) {j : Int32} (h0 : ¬ j < 0) (hj : j.toNatClampNeg < n) {g : JFrame} (hg : g.method = m) {rest : List Value} (hs : g.stack = .int j :: .ref a :: rest) (hd : decode c.code g.pc = .ok (.iaload, 1)) {v : Value} (hv : f j.toNatClampNeg = v) (target : State)
    (k : Steps p.tables e below (T.setTop { g with pc := g.pc + 1, stack := v :: rest }) target) : Steps p.tables e below (T.setTop g) target := by
  subst hv; obtain ⟨cl, A, q, F⟩ := A
  exact X.iaload hx (by rw [eT]; exact A.1) (State.isArrayOf_alike hZ.alike A.2.1) A.2.2 (out_of q h0 hj) (F _ hj) hg hs hd target k
theorem ary_lget (X : Stand p l e R s m args below meth c T locs cells slots) (hx : p.tables.exec = Jvm.exec) (hZ : Z.Warmed39 s.vm) (eT : T.heap = h) (A : Ary Z h a .long n f) {j : Int32} (h0 : ¬ j < 0) (hj : j.toNatClampNeg < n) {g : JFrame} (hg : g.method = m) {rest : List Value} (hs : g.stack = .int j :: .ref a :: rest) (hd : decode c.code g.pc = .ok (.laload, 1)) {v : Value} (hv : f j.toNatClampNeg = v) (target : State)
    (k : Steps p.tables e below (T.setTop { g with pc := g.pc + 1, stack := v :: rest }) target) : Steps p.tables e below (T.setTop g) target := by
  subst hv; obtain ⟨cl, A, q, F⟩ := A
  exact X.laload hx (by rw [eT]; exact A.1) (State.isArrayOf_alike hZ.alike A.2.1) A.2.2 (out_of q h0 hj) (F _ hj) hg hs hd target k
theorem ary_bget (X : Stand p l e R s m args below meth c T locs cells slots) (hx : p.tables.exec = Jvm.exec) (hZ : Z.Warmed39 s.vm) (eT : T.heap = h) (A : Ary Z h a .byte n f) {j : Int32} (h0 : ¬ j < 0) (hj : j.toNatClampNeg < n) {g : JFrame} (hg : g.method = m) {rest : List Value} (hs : g.stack = .int j :: .ref a :: rest) (hd : decode c.code g.pc = .ok (.baload, 1)) {v : Value} (hv : f j.toNatClampNeg = v) (target : State)
    (k : Steps p.tables e below (T.setTop { g with pc := g.pc + 1, stack := v :: rest }) target) : Steps p.tables e below (T.setTop g) target := by
  subst hv; obtain ⟨cl, A, q, F⟩ := A
  exact X.baloadBytes hx (by rw [eT]; exact A.1) (State.isArrayOf_alike hZ.alike A.2.1) A.2.2 (out_of q h0 hj) (F _ hj) hg hs hd target k
theorem ary_cget (X : Stand p l e R s m args below meth c T locs cells slots) (hx : p.tables.exec = Jvm.exec) (hZ : Z.Warmed39 s.vm) (eT : T.heap = h) (A : Ary Z h a .char n f) {j : Int32} (h0 : ¬ j < 0) (hj : j.toNatClampNeg < n) {g : JFrame} (hg : g.method = m) {rest : List Value} (hs : g.stack = .int j :: .ref a :: rest) (hd : decode c.code g.pc = .ok (.caload, 1)) {v : Value} (hv : f j.toNatClampNeg = v) (target : State)
    (k : Steps p.tables e below (T.setTop { g with pc := g.pc + 1, stack := v :: rest }) target) : Steps p.tables e below (T.setTop g) target := by
  subst hv; obtain ⟨cl, A, q, F⟩ := A
  exact X.caload hx (by rw [eT]; exact A.1) (State.isArrayOf_alike hZ.alike A.2.1) A.2.2 (out_of q h0 hj) (F _ hj) hg hs hd target k
theorem ary_aget (X : Stand p l e R s m args below meth c T locs cells slots) (hx : p.tables.exec = Jvm.exec) (hZ : Z.Warmed39 s.vm) (eT : T.heap = h) (A : Ary Z h a ty n f) (hr : ty.isReference = true) {j : Int32} (h0 : ¬ j < 0) (hj : j.toNatClampNeg < n) {g : JFrame} (hg : g.method = m) {rest : List Value} (hs : g.stack = .int j :: .ref a :: rest) (hd : decode c.code g.pc = .ok (.aaload, 1)) {v : Value} (hv : f j.toNatClampNeg = v) (target : State)
    (k : Steps p.tables e below (T.setTop { g with pc := g.pc + 1, stack := v :: rest }) target) : Steps p.tables e below (T.setTop g) target := by
  subst hv; obtain ⟨cl, A, q, F⟩ := A
  exact X.aaload hx (by rw [eT]; exact A.1) (State.isArrayOf_alike hZ.alike A.2.1) hr A.2.2 (out_of q h0 hj) (F _ hj) hg hs hd target k
theorem ary_len (X : Stand p l e R s m args below meth c T locs cells slots) (hx : p.tables.exec = Jvm.exec) (hZ : Z.Warmed39 s.vm) (eT : T.heap = h) (A : Ary Z h a ty n f) {g : JFrame} (hg : g.method = m) {rest : List Value} (hs : g.stack = .ref a :: rest) (hd : decode c.code g.pc = .ok (.arraylength, 1)) {z : Int32} (hv : n.toInt32 = z) (target : State)
    (k : Steps p.tables e below (T.setTop { g with pc := g.pc + 1, stack := .int z :: rest }) target) : Steps p.tables e below (T.setTop g) target := by
  subst hv; obtain ⟨cl, A, q, F⟩ := A
  subst q
  exact X.arraylength hx (by rw [eT]; exact A.1) (State.isArrayOf_alike hZ.alike A.2.1) hg hs hd target k
theorem ary_iset (X : Stand p l e R s m args below meth c T locs cells slots) (hx : p.tables.exec = Jvm.exec) (hZ : Z.Warmed39 s.vm) (eT : T.heap = h) (A : Ary Z h a .int n f) {j x : Int32} (h0 : ¬ j < 0) (hj : j.toNatClampNeg < n) {g : JFrame} (hg : g.method = m) {rest : List Value} (hs : g.stack = .int x :: .int j :: .ref a :: rest) (hd : decode c.code g.pc = .ok (.iastore, 1)) :
    ∃ T' h', Stand p l e R s m args below meth c T' (locs ++ [⟨a, j.toNatClampNeg⟩]) cells slots ∧ T'.heap = h' ∧ Wr h h' a j.toNatClampNeg (.int x) ∧ ∀ target, Steps p.tables e below (T'.setTop { g with pc := g.pc + 1, stack := rest }) target → Steps p.tables e below (T.setTop g) target := by
  obtain ⟨cl, A, q, F⟩ := A
  exact stI X hx hZ eT A (out_of q h0 hj) hg hs hd
theorem ary_lset (X : Stand p l e R s m args below meth c T locs cells slots) (hx : p.tables.exec = Jvm.exec) (hZ : Z.Warmed39 s.vm) (eT : T.heap = h) (A : Ary Z h a .long n f) {j : Int32} {x : Int64} (h0 : ¬ j < 0) (hj : j.toNatClampNeg < n) {g : JFrame} (hg : g.method = m) {rest : List Value} (hs : g.stack = .long x :: .int j :: .ref a :: rest) (hd : decode c.code g.pc = .ok (.lastore, 1)) :
    ∃ T' h', Stand p l e R s m args below meth c T' (locs ++ [⟨a, j.toNatClampNeg⟩]) cells slots ∧ T'.heap = h' ∧ Wr h h' a j.toNatClampNeg (.long x) ∧ ∀ target, Steps p.tables e below (T'.setTop { g with pc := g.pc + 1, stack := rest }) target → Steps p.tables e below (T.setTop g) target := by
  obtain ⟨cl, A, q, F⟩ := A
  exact stJ X hx hZ eT A (out_of q h0 hj) hg hs hd
theorem ary_bset (X : Stand p l e R s m args below meth c T locs cells slots) (hx : p.tables.exec = Jvm.exec) (hZ : Z.Warmed39 s.vm) (eT : T.heap = h) (A : Ary Z h a .byte n f) {j x y : Int32} (h0 : ¬ j < 0) (hj : j.toNatClampNeg < n) {g : JFrame} (hg : g.method = m) {rest : List Value} (hs : g.stack = .int x :: .int j :: .ref a :: rest) (hd : decode c.code g.pc = .ok (.bastore, 1)) (hy : x.toInt8.toInt32 = y) :
    ∃ T' h', Stand p l e R s m args below meth c T' (locs ++ [⟨a, j.toNatClampNeg⟩]) cells slots ∧ T'.heap = h' ∧ Wr h h' a j.toNatClampNeg (.int y) ∧ ∀ target, Steps p.tables e below (T'.setTop { g with pc := g.pc + 1, stack := rest }) target → Steps p.tables e below (T.setTop g) target := by
  subst hy; obtain ⟨cl, A, q, F⟩ := A
  exact stB X hx hZ eT A (out_of q h0 hj) hg hs hd
theorem ary_cset (X : Stand p l e R s m args below meth c T locs cells slots) (hx : p.tables.exec = Jvm.exec) (hZ : Z.Warmed39 s.vm) (eT : T.heap = h) (A : Ary Z h a .char n f) {j x y : Int32} (h0 : ¬ j < 0) (hj : j.toNatClampNeg < n) {g : JFrame} (hg : g.method = m) {rest : List Value} (hs : g.stack = .int x :: .int j :: .ref a :: rest) (hd : decode c.code g.pc = .ok (.castore, 1)) (hy : nar .char x = y) :
    ∃ T' h', Stand p l e R s m args below meth c T' (locs ++ [⟨a, j.toNatClampNeg⟩]) cells slots ∧ T'.heap = h' ∧ Wr h h' a j.toNatClampNeg (.int y) ∧ ∀ target, Steps p.tables e below (T'.setTop { g with pc := g.pc + 1, stack := rest }) target → Steps p.tables e below (T.setTop g) target := by
  subst hy; obtain ⟨cl, A, q, F⟩ := A
  exact stC X hx hZ eT A (out_of q h0 hj) hg hs hd
theorem arr_set (X : Stand p l e R s m args below meth c T locs cells slots) (hx : p.tables.exec = Jvm.exec) (hZ : Z.Warmed39 s.vm) (eT : T.heap = h) (A : ArR Z h a K n f) {j : Int32} {y : Addr} (I : Ins Z h y K true) (h0 : ¬ j < 0) (hj : j.toNatClampNeg < n) {g : JFrame} (hg : g.method = m) {rest : List Value} (hs : g.stack = .ref y :: .int j :: .ref a :: rest) (hd : decode c.code g.pc = .ok (.aastore, 1)) :
    ∃ T' h', Stand p l e R s m args below meth c T' (locs ++ [⟨a, j.toNatClampNeg⟩]) cells slots ∧ T'.heap = h' ∧ Wr h h' a j.toNatClampNeg (.ref y) ∧ ∀ target, Steps p.tables e below (T'.setTop { g with pc := g.pc + 1, stack := rest }) target → Steps p.tables e below (T.setTop g) target := by
  obtain ⟨cl, A, O, q, F⟩ := A
  exact stR X hx hZ eT A (out_of q h0 hj) rfl (Sto.of A O I) hg hs hd
end Arrays
theorem nar_ite (P : Prop) [Decidable P] : nar .boolean (if P then (1 : Int32) else 0) = if P then 1 else 0 := by by_cases q : P <;> simp [q] <;> rfl
theorem cat_ref {w : Value} (q : w.isRef = true) : w.category = 1 := by cases w <;> first | rfl | (simp [Value.isRef] at q)
theorem upd_hit {g f : Nat → Value} {k : Nat} {w : Value} (q : g = fun i => if i = k then w else f i) : g k = w := by rw [q]; exact if_pos rfl
theorem upd_miss {g f : Nat → Value} {k j : Nat} {w u : Value} (q : g = fun i => if i = k then w else f i) (ne : ¬ j = k) (r : f j = u) : g j = u := by rw [q]; exact (if_neg ne).trans r
theorem upd_c {g : Nat → Value} {j : Nat} {w : Value} (q : g = fun _ => w) : g j = w := by rw [q]
theorem b_idem (x : Int32) : x.toInt8.toInt32.toInt8.toInt32 = x.toInt8.toInt32 := by rw [Int8.toInt8_toInt32]
theorem isI_c (x : Int32) : ∀ n : Nat, ∃ y, (fun _ => Value.int x) n = Value.int y := fun _ => ⟨x, rfl⟩
theorem isI_s {f : Nat → Value} (q : ∀ n, ∃ y, f n = Value.int y) (k : Nat) (x : Int32) : ∀ n, ∃ y, (fun i => if i = k then Value.int x else f i) n = Value.int y := fun n => by
  by_cases e : n = k
  · exact ⟨x, if_pos e⟩
  · obtain ⟨y, hy⟩ := q n
    exact ⟨y, (if_neg e).trans hy⟩
end Own
section Own2
variable {p : Program} {l : Launch} {e : Env} {R : Room} {s : State} {m : MethodId} {args : Array Value} {below : List Frame} {meth : Method} {c : Code} {T : State} {locs : List Loc} {cells slots : Nat} {Z : State} {h h' : Heap}
variable {a b : Addr} {ty : FieldType} {n n' : Nat} {f f' : Nat → Value}
theorem getD_map (f : Nat → Value) (d : Value) (n i : Nat) (hi : i < n) : ((List.range n).map f).getD i d = f i := by
  simp [List.getD, hi]
theorem Ary.arv (A : Ary Z h a ty n f) (hn : n < 2147483648) (hf : ∀ i, i < n → fits ty (f i) = true) : ∃ k, Arv Z h a k ty n.toInt32 ((List.range n).map f) .null := by
  obtain ⟨c, A, hs, hv⟩ := A
  have hz : n.toInt32.toInt = n := len_toInt hn
  have hz2 : n.toInt32.toNatClampNeg = n := by rw [Int32.toNatClampNeg, hz]; omega
  refine ⟨c.cls, c, A, rfl, by rw [hs, hz2], ?_, fun k hk => ?_, fun i hi => ?_⟩
  · rw [Int32.lt_iff_toInt_lt, hz]; have : (0 : Int32).toInt = 0 := rfl; omega
  · rw [hs] at hk; rw [hv k hk, getD_map f _ n k hk]
  · rw [hs] at hi; rw [getD_map f _ n i hi]; exact hf i hi
theorem ary_copy (X : Stand p l e R s m args below meth c T locs cells slots) (hx : p.tables.exec = Jvm.exec) (hZ : Z.Warmed39 s.vm) {a0 : Array Value} {own : String} {index : Nat} (hown : s.vm.findClass own = some m.cls)
    (w1 : (Jvm.Cond.methodLink own index Jvm.Stand.acN).before a0 Z = true) (w2 : (Jvm.Cond.native Jvm.Stand.acN).before a0 Z = true) (w3 : (Jvm.Cond.static Jvm.Stand.acN).before a0 Z = true) (w4 : (Jvm.Cond.initialized "java/lang/System").before a0 Z = true) (eT : T.heap = h)
    (A : Ary Z h a ty n f) (B : Ary Z h b ty n' f') (hty : refKind ty = false) (hn : n < 2147483648) (hn' : n' < 2147483648) (hf : ∀ i, i < n → fits ty (f i) = true) (hf' : ∀ i, i < n' → fits ty (f' i) = true)
    {nn : Int32} (h3 : ¬ nn < 0) (h4 : nn.toNatClampNeg ≤ n) (h5 : nn.toNatClampNeg ≤ n') {n0 : Nat} (N : Fr n0 locs) (ge : n0 ≤ b)
    {g : JFrame} (hg : g.method = m) (hsize : g.locals.size = c.maxLocals) {rest : List Value} (hs : g.stack = .int nn :: .int 0 :: .ref b :: .int 0 :: .ref a :: rest) (hd : decode c.code g.pc = .ok (.invokestatic index, 3))
    (hf0 : 1 ≤ R.frames) {W : Nat} (hW : 2 * g.monitorRoom + (rest.map fun v => v.category).sum ≤ W) (hlo : W + 18 ≤ R.locals) :
    ∃ T' h' L, Stand p l e R s m args below meth c T' L cells slots ∧ T'.heap = h' ∧ Fr n0 L ∧ Keep h h' [b] ∧ Ary Z h' b ty n' (fun i => if i < nn.toNatClampNeg then f i else f' i) ∧
      ∀ target, Steps p.tables e below (T'.setTop { g with pc := g.pc + 3, stack := rest }) target → Steps p.tables e below (T.setTop g) target := by
  obtain ⟨k, A⟩ := A.arv hn hf
  obtain ⟨k', B⟩ := B.arv hn' hf'
  have z1 : n.toInt32.toNatClampNeg = n := by rw [Int32.toNatClampNeg, len_toInt hn]; omega
  have z2 : n'.toInt32.toNatClampNeg = n' := by rw [Int32.toNatClampNeg, len_toInt hn']; omega
  have e0 : (0 : Int32).toNatClampNeg = 0 := rfl
  obtain ⟨T', h', L, X', e', N', K', B', st⟩ := cpA X hx hZ hown w1 w2 w3 w4 eT A B (Or.inl ⟨rfl, hty⟩) (sp := 0) (dp := 0) (nn := nn) (by decide) (by decide) h3 (by rw [e0, z1]; omega) (by rw [e0, z2]; omega) rfl (by rw [e0]; simp; omega) N ge hg hsize hs hd hf0 hW hlo
  refine ⟨T', h', L, X', e', N', K', ?_, st⟩
  obtain ⟨cl, A1, -, S1, -, H1, -⟩ := B'
  rw [z2] at S1
  refine ⟨cl, A1, S1, fun i hi => ?_⟩
  rw [H1 i (by omega)]
  congr 1
  rw [e0]
  show _ = (if i < nn.toNatClampNeg then f i else f' i)
  by_cases q : i < nn.toNatClampNeg
  · rw [if_pos q]
    simp [List.getD, List.getElem?_append, q, show i < n from by omega]
  · rw [if_neg q]
    simp [List.getD, List.getElem?_append, q, hi, show nn.toNatClampNeg + (i - nn.toNatClampNeg) = i from by omega]
end Own2
def own_bit (w : Int64) (k : Nat) : Prop := w.toBitVec.getLsbD k = true
theorem own_sh (p : Int32) (k : Nat) (hk : p.toBitVec.toNat % 64 = k) : ((1 : Int64) <<< (p &&& 0x3f).toInt64).toBitVec = 1#64 <<< k := by
  obtain ⟨h1, h2⟩ := sm64 p k hk
  rw [Int64.toBitVec_shiftLeft, h1, BitVec.shiftLeft_eq', smod64 k h2]
  rfl
theorem own_one (k i : Nat) (hi : i < 64) : (1#64 <<< k).getLsbD i = decide (i = k) := by
  rw [BitVec.getLsbD_shiftLeft]
  by_cases h : i < k
  · have e : ¬ i = k := by omega
    simp [h, e]
  · by_cases h2 : i = k
    · subst h2; simp [hi]
    · have : ¬ i - k = 0 := by omega
      simp [h, h2, this]
theorem own_or (w : Int64) (p : Int32) (k : Nat) (hk : p.toBitVec.toNat % 64 = k) (i : Nat) (hi : i < 64) : own_bit (w ||| ((1 : Int64) <<< (p &&& 0x3f).toInt64)) i ↔ own_bit w i ∨ i = k := by
  unfold own_bit
  rw [Int64.toBitVec_or, own_sh p k hk, BitVec.getLsbD_or, own_one k i hi]
  simp
theorem own_and (w : Int64) (p : Int32) (k : Nat) (hk : p.toBitVec.toNat % 64 = k) : ((w &&& ((1 : Int64) <<< (p &&& 0x3f).toInt64)) = (0 : Int64)) ↔ ¬ own_bit w k := by
  have hk64 : k < 64 := by omega
  unfold own_bit
  constructor
  · intro h q
    have h2 : (w &&& ((1 : Int64) <<< (p &&& 0x3f).toInt64)).toBitVec.getLsbD k = (0 : Int64).toBitVec.getLsbD k := congrArg (fun x : Int64 => x.toBitVec.getLsbD k) h
    rw [Int64.toBitVec_and, own_sh p k hk, BitVec.getLsbD_and, own_one k k hk64, q] at h2
    simp at h2
  · intro h
    apply Int64.toBitVec_inj.mp
    rw [Int64.toBitVec_and, own_sh p k hk]
    apply BitVec.eq_of_getLsbD_eq
    intro i hi
    rw [BitVec.getLsbD_and, own_one k i hi]
    by_cases e : i = k
    · subst e; simp at h; simp [h]
    · simp [e]
theorem own_nn (p : Int32) (h : ¬ p < 0) : p.toBitVec.toNat = p.toNatClampNeg := by
  have e0 : (0 : Int32).toInt = 0 := rfl
  rw [Int32.lt_iff_toInt_lt] at h
  have q : p.toInt = p.toBitVec.toInt := rfl
  rw [BitVec.toInt_eq_toNat_cond] at q
  rw [Int32.toNatClampNeg]
  have := p.toBitVec.isLt
  split at q <;> omega
theorem own_ix (p : Int32) (h : ¬ p < (64 : Int32)) : ((p / (64 : Int32)) - (1 : Int32)).toInt = (p.toNatClampNeg / 64 : Nat) - 1 ∧ ¬ ((p / (64 : Int32)) - (1 : Int32)) < 0 ∧ ((p / (64 : Int32)) - (1 : Int32)).toNatClampNeg = p.toNatClampNeg / 64 - 1 ∧ 64 ≤ p.toNatClampNeg ∧ ¬ p < 0 := by
  have e0 : (0 : Int32).toInt = 0 := rfl
  have e1 : (1 : Int32).toInt = 1 := rfl
  have e64 : (64 : Int32).toInt = 64 := rfl
  rw [Int32.lt_iff_toInt_lt] at h
  have d := (c_idiv p 64 64 rfl (by decide)).1 (by omega)
  have s := c_isub (p / (64 : Int32)) 1
  have := rng32 p
  have := rng32 ((p / (64 : Int32)) - (1 : Int32))
  simp only [Int32.lt_iff_toInt_lt, Int32.toNatClampNeg]
  omega

theorem own_ltn {i : Int32} {n : Nat} (h0 : ¬ i < 0) (hn : n < 2147483648) : i < n.toInt32 ↔ i.toNatClampNeg < n := by
  have e0 : (0 : Int32).toInt = 0 := rfl
  rw [Int32.lt_iff_toInt_lt] at h0
  rw [Int32.lt_iff_toInt_lt, len_toInt hn, Int32.toNatClampNeg]
  omega
theorem own_in2 (p : Int32) (h : ¬ p < (64 : Int32)) (h2 : ¬ (1023 : Int32) < p) : ¬ (((p / (64 : Int32)) - (1 : Int32)) + (1 : Int32)) < 0 ∧ (((p / (64 : Int32)) - (1 : Int32)) + (1 : Int32)).toNatClampNeg = p.toNatClampNeg / 64 ∧ p.toNatClampNeg / 64 ≤ 15 ∧ ((p / (64 : Int32)) - (1 : Int32)).toNatClampNeg < (((p / (64 : Int32)) - (1 : Int32)) + (1 : Int32)).toNatClampNeg := by
  obtain ⟨q1, q2, q3, q4, q5⟩ := own_ix p h
  have e0 : (0 : Int32).toInt = 0 := rfl
  have e1 : (1 : Int32).toInt = 1 := rfl
  have e3 : (1023 : Int32).toInt = 1023 := rfl
  rw [Int32.lt_iff_toInt_lt] at h2 q2 q5
  have s := c_iadd ((p / (64 : Int32)) - (1 : Int32)) 1
  have := rng32 (((p / (64 : Int32)) - (1 : Int32)) + (1 : Int32))
  have := rng32 p
  simp only [Int32.lt_iff_toInt_lt, Int32.toNatClampNeg] at *
  omega
theorem own_ok (n k : Nat) (f : Nat → Value) (hL : ∀ i, i < n → ∃ x, f i = Value.long x) : ∀ i, i < n → fits .long (f i) = true := fun i hi => by obtain ⟨x, hx⟩ := hL i hi; rw [hx]; rfl
theorem d1_0 : decode method_2_code 0 = .ok (.iload_n 0, 1) := by decide +kernel
theorem d1_1 : decode method_2_code 1 = .ok (.sipush 1023, 3) := by decide +kernel
theorem d1_4 : decode method_2_code 4 = .ok (.iand, 1) := by decide +kernel
theorem d1_5 : decode method_2_code 5 = .ok (.istore_n 1, 1) := by decide +kernel
theorem d1_6 : decode method_2_code 6 = .ok (.iload_n 0, 1) := by decide +kernel
theorem d1_7 : decode method_2_code 7 = .ok (.bipush 10, 2) := by decide +kernel
theorem d1_9 : decode method_2_code 9 = .ok (.iushr, 1) := by decide +kernel
theorem d1_10 : decode method_2_code 10 = .ok (.iconst 1, 1) := by decide +kernel
theorem d1_11 : decode method_2_code 11 = .ok (.iand, 1) := by decide +kernel
theorem d1_12 : decode method_2_code 12 = .ok (.ifCond .eq 8, 3) := by decide +kernel
theorem d1_15 : decode method_2_code 15 = .ok (.iload_n 1, 1) := by decide +kernel
theorem d1_16 : decode method_2_code 16 = .ok (.bipush 63, 2) := by decide +kernel
theorem d1_18 : decode method_2_code 18 = .ok (.iand, 1) := by decide +kernel
theorem d1_19 : decode method_2_code 19 = .ok (.istore_n 1, 1) := by decide +kernel
theorem d1_20 : decode method_2_code 20 = .ok (.iload_n 1, 1) := by decide +kernel
theorem d1_21 : decode method_2_code 21 = .ok (.ireturn, 1) := by decide +kernel
def F_rm1 (p1 : Int32) : Int32 := let w3 : Int32 := (if ((((p1.toUInt32 >>> ((10 : Int32) &&& 31).toUInt32).toInt32) &&& (1 : Int32)) = (0 : Int32)) then (p1 &&& (1023 : Int32)) else ((p1 &&& (1023 : Int32)) &&& (63 : Int32))); w3
def Q_rm1 (Z : State) (p1 : Int32) (h0 : Heap) (n0 : Nat) (v : Option Value) (h : Heap) (L : List Loc) : Prop := v = some (.int (F_rm1 p1)) ∧ Fr n0 L ∧ h = h0
theorem ef_rm1 (m : MethodId) (x0 : Int32) : entryFrame m #[(.int x0)] 2 = mkF m 0 #[.val (.int x0), .unset] [] := by first | (simp [entryFrame, mkF, argsToLocals, Value.category]; done) | rfl
theorem pn_0 : plainName "murmuration/SourcesContainsPinLaw" = true := by first | (simp [plainName, overriddenIn]; done) | decide +kernel
set_option maxRecDepth 65536 in
set_option maxHeartbeats 40000000 in
theorem rm1 (l : Launch) (Z : State) (a0 : Array Value) (hw : ∀ d ∈ tables_1, d.before a0 Z = true) (ws : List Jvm.Cond) (p1 : Int32) (h0 : Heap) (n0 : Nat) (Z0 : n0 ≤ h0.size)  :
    MetFree l (⟨"murmuration/SourcesContainsPinLaw", "pick", "(I)I"⟩ : MethodName) (head1 (Jvm.Cond.code (⟨"murmuration/SourcesContainsPinLaw", "pick", "(I)I"⟩ : MethodName) method_2_code 2 (some .int) :: ws) ({ frames := 0, cells := 0, slots := 0, locals := 0 } : Room)) (fun a U => a = #[(.int p1)] ∧ Z.Warmed39 U.vm ∧ U.heap = h0) (fun _ _ _ _ _ => True) (fun _ U o U' => ∃ v L, o = .returned v ∧ Q_rm1 Z p1 h0 n0 v U'.heap L ∧ FrameEnd U o U' L ({ frames := 0, cells := 0, slots := 0, locals := 0 } : Room).cells ({ frames := 0, cells := 0, slots := 0, locals := 0 } : Room).slots) := by
  refine MetFree.of_bodySF (plainFor_of_name pn_0) hisR ?_
  intro p e s m args below meth c s₁ Bd hml0 hP hK
  obtain ⟨rfl, hZ, hh⟩ := hP
  have hx := Bd.exec
  have hby := Bd.bytes
  have hml : c.maxLocals = 2 := hml0
  have hown : s.vm.findClass "murmuration/SourcesContainsPinLaw" = some m.cls := findClass_of_methodNamed Bd.named
  have hnm := (name_of_methodNamed Bd.named Bd.method).1
  have X0 : Stand p l e ({ frames := 0, cells := 0, slots := 0, locals := 0 } : Room) s m #[(.int p1)] below meth c s₁ [] 0 0 := Stand.of_body Bd
  have e0 : s₁.heap = h0 := by rw [← hh, Bd.state]; rfl
  have N0 := Fr.nil n0
  show Run p e below s 0 0 (Q_rm1 Z p1 h0 n0) (s₁.setTop (entryFrame m #[(.int p1)] 2))
  refine Run.go (fun _ k => castTop (ef_rm1 m p1) k) ?_
  show Run p e below s 0 0 (Q_rm1 Z p1 h0 n0) (s₁.setTop (mkF m 0 #[.val (.int p1), .unset] []))
  refine Run.go (fun _ k => XS.iloadN X0.here hx rfl (hb hby d1_0) rfl  k) ?_
  show Run p e below s 0 0 (Q_rm1 Z p1 h0 n0) (s₁.setTop (mkF m 1 #[.val (.int p1), .unset] [(.int p1)]))
  refine Run.go (fun _ k => XS.sipush X0.here hx rfl (hb hby d1_1) k) ?_
  show Run p e below s 0 0 (Q_rm1 Z p1 h0 n0) (s₁.setTop (mkF m 4 #[.val (.int p1), .unset] [(.int (1023 : Int32)), (.int p1)]))
  refine Run.go (fun _ k => XS.iand X0.here hx rfl (hb hby d1_4) rfl k) ?_
  show Run p e below s 0 0 (Q_rm1 Z p1 h0 n0) (s₁.setTop (mkF m 5 #[.val (.int p1), .unset] [(.int (p1 &&& (1023 : Int32)))]))
  refine Run.go (fun _ k => XS.istoreN X0.here hx rfl (hb hby d1_5) rfl (l' := #[.val (.int p1), .val (.int (p1 &&& (1023 : Int32)))]) rfl k) ?_
  show Run p e below s 0 0 (Q_rm1 Z p1 h0 n0) (s₁.setTop (mkF m 6 #[.val (.int p1), .val (.int (p1 &&& (1023 : Int32)))] []))
  refine Run.go (fun _ k => XS.iloadN X0.here hx rfl (hb hby d1_6) rfl  k) ?_
  show Run p e below s 0 0 (Q_rm1 Z p1 h0 n0) (s₁.setTop (mkF m 7 #[.val (.int p1), .val (.int (p1 &&& (1023 : Int32)))] [(.int p1)]))
  refine Run.go (fun _ k => XS.bipush X0.here hx rfl (hb hby d1_7) k) ?_
  show Run p e below s 0 0 (Q_rm1 Z p1 h0 n0) (s₁.setTop (mkF m 9 #[.val (.int p1), .val (.int (p1 &&& (1023 : Int32)))] [(.int (10 : Int32)), (.int p1)]))
  refine Run.go (fun _ k => XS.iushr X0.here hx rfl (hb hby d1_9) rfl k) ?_
  show Run p e below s 0 0 (Q_rm1 Z p1 h0 n0) (s₁.setTop (mkF m 10 #[.val (.int p1), .val (.int (p1 &&& (1023 : Int32)))] [(.int ((p1.toUInt32 >>> ((10 : Int32) &&& 31).toUInt32).toInt32))]))
  refine Run.go (fun _ k => XS.iconst X0.here hx rfl (hb hby d1_10) k) ?_
  show Run p e below s 0 0 (Q_rm1 Z p1 h0 n0) (s₁.setTop (mkF m 11 #[.val (.int p1), .val (.int (p1 &&& (1023 : Int32)))] [(.int (1 : Int32)), (.int ((p1.toUInt32 >>> ((10 : Int32) &&& 31).toUInt32).toInt32))]))
  refine Run.go (fun _ k => XS.iand X0.here hx rfl (hb hby d1_11) rfl k) ?_
  show Run p e below s 0 0 (Q_rm1 Z p1 h0 n0) (s₁.setTop (mkF m 12 #[.val (.int p1), .val (.int (p1 &&& (1023 : Int32)))] [(.int (((p1.toUInt32 >>> ((10 : Int32) &&& 31).toUInt32).toInt32) &&& (1 : Int32)))]))
  have J2 : ∀ (w3 : Int32) (hw3 : w3 = (if ((((p1.toUInt32 >>> ((10 : Int32) &&& 31).toUInt32).toInt32) &&& (1 : Int32)) = (0 : Int32)) then (p1 &&& (1023 : Int32)) else ((p1 &&& (1023 : Int32)) &&& (63 : Int32)))) (T4 : State) (L4 : List Loc) (X4 : Stand p l e ({ frames := 0, cells := 0, slots := 0, locals := 0 } : Room) s m #[(.int p1)] below meth c T4 L4 0 0) (e4 : T4.heap = h0) (N4 : Fr n0 L4), Run p e below s 0 0 (Q_rm1 Z p1 h0 n0) (T4.setTop (mkF m 20 #[.val (.int p1), .val (.int w3)] [])) := by
    intro w3 hw3 T4 L4 X4 e4 N4
    show Run p e below s 0 0 (Q_rm1 Z p1 h0 n0) (T4.setTop (mkF m 20 #[.val (.int p1), .val (.int w3)] []))
    refine Run.go (fun _ k => XS.iloadN X4.here hx rfl (hb hby d1_20) rfl  k) ?_
    show Run p e below s 0 0 (Q_rm1 Z p1 h0 n0) (T4.setTop (mkF m 21 #[.val (.int p1), .val (.int w3)] [(.int w3)]))
    refine Run.retI X4 hx Bd.returns Bd.notSynchronized (hb hby d1_21) (by decide) (by decide) ?_
    show Q_rm1 Z p1 h0 n0 _ T4.heap _
    exact ⟨congrArg some (congrArg Value.int (show w3 = (F_rm1 p1) from (by subst hw3; unfold F_rm1; rfl))), N4, e4⟩
  by_cases hc5 : ((((p1.toUInt32 >>> ((10 : Int32) &&& 31).toUInt32).toInt32) &&& (1 : Int32)) = (0 : Int32))
  · refine Run.go (fun _ k => XS.ifYes X0.here hx rfl (pc0 := 12) (pc' := 20) rfl (hb hby d1_12) rfl ((if0 _ _).trans (teq hc5).1) (by decide) (by decide) k) ?_
    show Run p e below s 0 0 (Q_rm1 Z p1 h0 n0) (s₁.setTop (mkF m 20 #[.val (.int p1), .val (.int (p1 &&& (1023 : Int32)))] []))
    exact J2 _ (by rw [if_pos hc5]) _ _ X0 e0 N0
  · refine Run.go (fun _ k => XS.ifNo X0.here hx rfl (hb hby d1_12) rfl ((if0 _ _).trans (feq hc5).1) k) ?_
    show Run p e below s 0 0 (Q_rm1 Z p1 h0 n0) (s₁.setTop (mkF m 15 #[.val (.int p1), .val (.int (p1 &&& (1023 : Int32)))] []))
    refine Run.go (fun _ k => XS.iloadN X0.here hx rfl (hb hby d1_15) rfl  k) ?_
    show Run p e below s 0 0 (Q_rm1 Z p1 h0 n0) (s₁.setTop (mkF m 16 #[.val (.int p1), .val (.int (p1 &&& (1023 : Int32)))] [(.int (p1 &&& (1023 : Int32)))]))
    refine Run.go (fun _ k => XS.bipush X0.here hx rfl (hb hby d1_16) k) ?_
    show Run p e below s 0 0 (Q_rm1 Z p1 h0 n0) (s₁.setTop (mkF m 18 #[.val (.int p1), .val (.int (p1 &&& (1023 : Int32)))] [(.int (63 : Int32)), (.int (p1 &&& (1023 : Int32)))]))
    refine Run.go (fun _ k => XS.iand X0.here hx rfl (hb hby d1_18) rfl k) ?_
    show Run p e below s 0 0 (Q_rm1 Z p1 h0 n0) (s₁.setTop (mkF m 19 #[.val (.int p1), .val (.int (p1 &&& (1023 : Int32)))] [(.int ((p1 &&& (1023 : Int32)) &&& (63 : Int32)))]))
    refine Run.go (fun _ k => XS.istoreN X0.here hx rfl (hb hby d1_19) rfl (l' := #[.val (.int p1), .val (.int ((p1 &&& (1023 : Int32)) &&& (63 : Int32)))]) rfl k) ?_
    show Run p e below s 0 0 (Q_rm1 Z p1 h0 n0) (s₁.setTop (mkF m 20 #[.val (.int p1), .val (.int ((p1 &&& (1023 : Int32)) &&& (63 : Int32)))] []))
    exact J2 _ (by rw [if_neg hc5]) _ _ X0 e0 N0
theorem d2_0 : decode prog_57_method_1_code 0 = .ok (.aload_n 0, 1) := by decide +kernel
theorem d2_1 : decode prog_57_method_1_code 1 = .ok (.invokespecial 1, 3) := by decide +kernel
theorem d2_4 : decode prog_57_method_1_code 4 = .ok (.return_, 1) := by decide +kernel
def Q_rm2 (Z : State) (a1 : Addr) (h0 : Heap) (n0 : Nat) (v : Option Value) (h : Heap) (L : List Loc) : Prop := v = none ∧ Fr n0 L ∧ h = h0
theorem ef_rm2 (m : MethodId) (x0 : Addr) : entryFrame m #[(.ref x0)] 1 = mkF m 0 #[.val (.ref x0)] [] := by first | (simp [entryFrame, mkF, argsToLocals, Value.category]; done) | rfl
theorem pn_1 : plainName "murmuration/Sources" = true := by first | (simp [plainName, overriddenIn]; done) | decide +kernel
set_option maxRecDepth 65536 in
set_option maxHeartbeats 40000000 in
theorem rm2 (l : Launch) (Z : State) (a0 : Array Value) (hw : ∀ d ∈ tables_1, d.before a0 Z = true) (ws : List Jvm.Cond) (a1 : Addr) (h0 : Heap) (n0 : Nat) (Z0 : n0 ≤ h0.size)  :
    MetFree l (⟨"murmuration/Sources", "<init>", "()V"⟩ : MethodName) (head1 (Jvm.Cond.code (⟨"murmuration/Sources", "<init>", "()V"⟩ : MethodName) prog_57_method_1_code 1 none :: ws) ({ frames := 1, cells := 0, slots := 0, locals := 12 } : Room)) (fun a U => a = #[(.ref a1)] ∧ Z.Warmed39 U.vm ∧ U.heap = h0) (fun _ _ _ _ _ => True) (fun _ U o U' => ∃ v L, o = .returned v ∧ Q_rm2 Z a1 h0 n0 v U'.heap L ∧ FrameEnd U o U' L ({ frames := 1, cells := 0, slots := 0, locals := 12 } : Room).cells ({ frames := 1, cells := 0, slots := 0, locals := 12 } : Room).slots) := by
  refine MetFree.of_bodySF (plainFor_of_name pn_1) hisR ?_
  intro p e s m args below meth c s₁ Bd hml0 hP hK
  obtain ⟨rfl, hZ, hh⟩ := hP
  have hx := Bd.exec
  have hby := Bd.bytes
  have hml : c.maxLocals = 1 := hml0
  have hown : s.vm.findClass "murmuration/Sources" = some m.cls := findClass_of_methodNamed Bd.named
  have hnm := (name_of_methodNamed Bd.named Bd.method).1
  have X0 : Stand p l e ({ frames := 1, cells := 0, slots := 0, locals := 12 } : Room) s m #[(.ref a1)] below meth c s₁ [] 0 0 := Stand.of_body Bd
  have e0 : s₁.heap = h0 := by rw [← hh, Bd.state]; rfl
  have N0 := Fr.nil n0
  show Run p e below s 0 0 (Q_rm2 Z a1 h0 n0) (s₁.setTop (entryFrame m #[(.ref a1)] 1))
  refine Run.go (fun _ k => castTop (ef_rm2 m a1) k) ?_
  show Run p e below s 0 0 (Q_rm2 Z a1 h0 n0) (s₁.setTop (mkF m 0 #[.val (.ref a1)] []))
  refine Run.go (fun _ k => XS.aloadN X0.here hx rfl (hb hby d2_0) rfl rfl k) ?_
  show Run p e below s 0 0 (Q_rm2 Z a1 h0 n0) (s₁.setTop (mkF m 1 #[.val (.ref a1)] [(.ref a1)]))
  obtain ⟨T2, X2, e2, st2⟩ := initO X0 hx hZ hown (hw _ (List.mem_of_getElem? (i := 10) rfl)) (hw _ (List.mem_of_getElem? (i := 11) rfl)) (hw _ (List.mem_of_getElem? (i := 12) rfl)) e0 (g := (mkF m 1 #[.val (.ref a1)] [(.ref a1)])) rfl (by rw [hml]; rfl) rfl (hb hby d2_1) (by decide) (W := 0) (by show 2 * 0 + _ ≤ _; exact Nat.le_of_eq rfl) (by decide)
  refine Run.go st2 ?_
  show Run p e below s 0 0 (Q_rm2 Z a1 h0 n0) (T2.setTop (mkF m 4 #[.val (.ref a1)] []))
  refine Run.ret0 X2 hx Bd.returns Bd.notSynchronized (hb hby d2_4) (by decide) (by decide) ?_
  show Q_rm2 Z a1 h0 n0 _ T2.heap _
  exact ⟨rfl, N0, e2⟩
theorem d7_0 : decode jdk_29_method_69_code 0 = .ok (.iload_n 0, 1) := by decide +kernel
theorem d7_1 : decode jdk_29_method_69_code 1 = .ok (.iload_n 1, 1) := by decide +kernel
theorem d7_2 : decode jdk_29_method_69_code 2 = .ok (.if_icmp .gt 7, 3) := by decide +kernel
theorem d7_9 : decode jdk_29_method_69_code 9 = .ok (.iload_n 1, 1) := by decide +kernel
theorem d7_5 : decode jdk_29_method_69_code 5 = .ok (.iload_n 0, 1) := by decide +kernel
theorem d7_6 : decode jdk_29_method_69_code 6 = .ok (.goto 4, 3) := by decide +kernel
theorem d7_10 : decode jdk_29_method_69_code 10 = .ok (.ireturn, 1) := by decide +kernel
def F_rm7 (p1 : Int32) (p2 : Int32) : Int32 := let w4 : Int32 := (if (p2 < p1) then p2 else p1); w4
def Q_rm7 (Z : State) (p1 : Int32) (p2 : Int32) (h0 : Heap) (n0 : Nat) (v : Option Value) (h : Heap) (L : List Loc) : Prop := v = some (.int (F_rm7 p1 p2)) ∧ Fr n0 L ∧ h = h0
theorem ef_rm7 (m : MethodId) (x0 : Int32) (x1 : Int32) : entryFrame m #[(.int x0), (.int x1)] 2 = mkF m 0 #[.val (.int x0), .val (.int x1)] [] := by first | (simp [entryFrame, mkF, argsToLocals, Value.category]; done) | rfl
set_option maxRecDepth 65536 in
set_option maxHeartbeats 40000000 in
theorem rm7 (l : Launch) (Z : State) (a0 : Array Value) (hw : ∀ d ∈ tables_1, d.before a0 Z = true) (ws : List Jvm.Cond) (p1 : Int32) (p2 : Int32) (h0 : Heap) (n0 : Nat) (Z0 : n0 ≤ h0.size)  :
    MetFree l (⟨"java/lang/Math", "min", "(II)I"⟩ : MethodName) (head1 (Jvm.Cond.code (⟨"java/lang/Math", "min", "(II)I"⟩ : MethodName) jdk_29_method_69_code 2 (some .int) :: ws) ({ frames := 0, cells := 0, slots := 0, locals := 0 } : Room)) (fun a U => a = #[(.int p1), (.int p2)] ∧ Z.Warmed39 U.vm ∧ U.heap = h0) (fun _ _ _ _ _ => True) (fun _ U o U' => ∃ v L, o = .returned v ∧ Q_rm7 Z p1 p2 h0 n0 v U'.heap L ∧ FrameEnd U o U' L ({ frames := 0, cells := 0, slots := 0, locals := 0 } : Room).cells ({ frames := 0, cells := 0, slots := 0, locals := 0 } : Room).slots) := by
  refine MetFree.of_bodySF (Jvm.Free.JP.mathPlain rfl (by decide +kernel)) hisR ?_
  intro p e s m args below meth c s₁ Bd hml0 hP hK
  obtain ⟨rfl, hZ, hh⟩ := hP
  have hx := Bd.exec
  have hby := Bd.bytes
  have hml : c.maxLocals = 2 := hml0
  have hown : s.vm.findClass "java/lang/Math" = some m.cls := findClass_of_methodNamed Bd.named
  have hnm := (name_of_methodNamed Bd.named Bd.method).1
  have X0 : Stand p l e ({ frames := 0, cells := 0, slots := 0, locals := 0 } : Room) s m #[(.int p1), (.int p2)] below meth c s₁ [] 0 0 := Stand.of_body Bd
  have e0 : s₁.heap = h0 := by rw [← hh, Bd.state]; rfl
  have N0 := Fr.nil n0
  show Run p e below s 0 0 (Q_rm7 Z p1 p2 h0 n0) (s₁.setTop (entryFrame m #[(.int p1), (.int p2)] 2))
  refine Run.go (fun _ k => castTop (ef_rm7 m p1 p2) k) ?_
  show Run p e below s 0 0 (Q_rm7 Z p1 p2 h0 n0) (s₁.setTop (mkF m 0 #[.val (.int p1), .val (.int p2)] []))
  refine Run.go (fun _ k => XS.iloadN X0.here hx rfl (hb hby d7_0) rfl  k) ?_
  show Run p e below s 0 0 (Q_rm7 Z p1 p2 h0 n0) (s₁.setTop (mkF m 1 #[.val (.int p1), .val (.int p2)] [(.int p1)]))
  refine Run.go (fun _ k => XS.iloadN X0.here hx rfl (hb hby d7_1) rfl  k) ?_
  show Run p e below s 0 0 (Q_rm7 Z p1 p2 h0 n0) (s₁.setTop (mkF m 2 #[.val (.int p1), .val (.int p2)] [(.int p2), (.int p1)]))
  have J3 : ∀ (w4 : Int32) (hw4 : w4 = (if (p2 < p1) then p2 else p1)) (T5 : State) (L5 : List Loc) (X5 : Stand p l e ({ frames := 0, cells := 0, slots := 0, locals := 0 } : Room) s m #[(.int p1), (.int p2)] below meth c T5 L5 0 0) (e5 : T5.heap = h0) (N5 : Fr n0 L5), Run p e below s 0 0 (Q_rm7 Z p1 p2 h0 n0) (T5.setTop (mkF m 10 #[.val (.int p1), .val (.int p2)] [(.int w4)])) := by
    intro w4 hw4 T5 L5 X5 e5 N5
    show Run p e below s 0 0 (Q_rm7 Z p1 p2 h0 n0) (T5.setTop (mkF m 10 #[.val (.int p1), .val (.int p2)] [(.int w4)]))
    refine Run.retI X5 hx Bd.returns Bd.notSynchronized (hb hby d7_10) (by decide) (by decide) ?_
    show Q_rm7 Z p1 p2 h0 n0 _ T5.heap _
    exact ⟨congrArg some (congrArg Value.int (show w4 = (F_rm7 p1 p2) from (by subst hw4; unfold F_rm7; rfl))), N5, e5⟩
  by_cases hc6 : (p2 < p1)
  · refine Run.go (fun _ k => XS.icmpYes X0.here hx rfl (pc0 := 2) (pc' := 9) rfl (hb hby d7_2) rfl (tlt hc6).2.2.1 (by decide) (by decide) k) ?_
    show Run p e below s 0 0 (Q_rm7 Z p1 p2 h0 n0) (s₁.setTop (mkF m 9 #[.val (.int p1), .val (.int p2)] []))
    refine Run.go (fun _ k => XS.iloadN X0.here hx rfl (hb hby d7_9) rfl  k) ?_
    show Run p e below s 0 0 (Q_rm7 Z p1 p2 h0 n0) (s₁.setTop (mkF m 10 #[.val (.int p1), .val (.int p2)] [(.int p2)]))
    exact J3 _ (by rw [if_pos hc6]) _ _ X0 e0 N0
  · refine Run.go (fun _ k => XS.icmpNo X0.here hx rfl (hb hby d7_2) rfl (flt hc6).2.2.1 k) ?_
    show Run p e below s 0 0 (Q_rm7 Z p1 p2 h0 n0) (s₁.setTop (mkF m 5 #[.val (.int p1), .val (.int p2)] []))
    refine Run.go (fun _ k => XS.iloadN X0.here hx rfl (hb hby d7_5) rfl  k) ?_
    show Run p e below s 0 0 (Q_rm7 Z p1 p2 h0 n0) (s₁.setTop (mkF m 6 #[.val (.int p1), .val (.int p2)] [(.int p1)]))
    refine Run.go (fun _ k => XS.goto X0.here hx rfl (pc0 := 6) (pc' := 10) rfl (hb hby d7_6) (by decide) (by decide) k) ?_
    show Run p e below s 0 0 (Q_rm7 Z p1 p2 h0 n0) (s₁.setTop (mkF m 10 #[.val (.int p1), .val (.int p2)] [(.int p1)]))
    exact J3 _ (by rw [if_neg hc6]) _ _ X0 e0 N0
theorem own_min (n : Nat) (p : Int32) (hp : ¬ p < 0) (hn : n ≤ 15) (h : n < p.toNatClampNeg) : F_rm7 (n.toInt32) p = n.toInt32 ∧ n.toInt32.toNatClampNeg = n ∧ ¬ n.toInt32 < 0 ∧ ¬ (p = n.toInt32) := by
  have hz : n.toInt32.toInt = n := len_toInt (by omega)
  have e0 : (0 : Int32).toInt = 0 := rfl
  have q : ¬ (p < n.toInt32) := by rw [Int32.lt_iff_toInt_lt, hz]; rw [Int32.toNatClampNeg] at h; omega
  refine ⟨by unfold F_rm7; simp [q], by rw [Int32.toNatClampNeg, hz]; omega, by rw [Int32.lt_iff_toInt_lt, hz]; omega, fun e => ?_⟩
  subst e; rw [Int32.toNatClampNeg, hz] at h; omega
theorem d6_0 : decode jdk_65_method_124_code 0 = .ok (.iload_n 1, 1) := by decide +kernel
theorem d6_1 : decode jdk_65_method_124_code 1 = .ok (.aload_n 0, 1) := by decide +kernel
theorem d6_2 : decode jdk_65_method_124_code 2 = .ok (.arraylength, 1) := by decide +kernel
theorem d6_3 : decode jdk_65_method_124_code 3 = .ok (.if_icmp .ne 11, 3) := by decide +kernel
theorem d6_14 : decode jdk_65_method_124_code 14 = .ok (.iload_n 1, 1) := by decide +kernel
theorem d6_15 : decode jdk_65_method_124_code 15 = .ok (.newarray .long, 2) := by decide +kernel
theorem d6_17 : decode jdk_65_method_124_code 17 = .ok (.astore_n 2, 1) := by decide +kernel
theorem d6_18 : decode jdk_65_method_124_code 18 = .ok (.aload_n 0, 1) := by decide +kernel
theorem d6_19 : decode jdk_65_method_124_code 19 = .ok (.iconst 0, 1) := by decide +kernel
theorem d6_20 : decode jdk_65_method_124_code 20 = .ok (.aload_n 2, 1) := by decide +kernel
theorem d6_21 : decode jdk_65_method_124_code 21 = .ok (.iconst 0, 1) := by decide +kernel
theorem d6_22 : decode jdk_65_method_124_code 22 = .ok (.aload_n 0, 1) := by decide +kernel
theorem d6_23 : decode jdk_65_method_124_code 23 = .ok (.arraylength, 1) := by decide +kernel
theorem d6_24 : decode jdk_65_method_124_code 24 = .ok (.iload_n 1, 1) := by decide +kernel
theorem d6_25 : decode jdk_65_method_124_code 25 = .ok (.invokestatic 304, 3) := by decide +kernel
theorem pd_0 : parseMethodDescriptor "(II)I" = some ⟨[.int, .int], some .int⟩ := by decide +kernel
theorem d6_28 : decode jdk_65_method_124_code 28 = .ok (.invokestatic 150, 3) := by decide +kernel
theorem d6_31 : decode jdk_65_method_124_code 31 = .ok (.aload_n 2, 1) := by decide +kernel
theorem d6_32 : decode jdk_65_method_124_code 32 = .ok (.areturn, 1) := by decide +kernel
def Q_rm6 (Z : State) (a1 : Addr) (p2 : Int32) (n_a1 : Nat) (f_a1 : Nat → Value) (h0 : Heap) (n0 : Nat) (v : Option Value) (h : Heap) (L : List Loc) : Prop := ∃ (b3 : Addr), v = some (.ref b3) ∧ Fr n0 L ∧ Keep h0 h [] ∧ h0.size ≤ b3 ∧ Ary Z h b3 .long p2.toNatClampNeg (fun i => if i < n_a1 then f_a1 i else (.long (0 : Int64)))
theorem ef_rm6 (m : MethodId) (x0 : Addr) (x1 : Int32) : entryFrame m #[(.ref x0), (.int x1)] 3 = mkF m 0 #[.val (.ref x0), .val (.int x1), .unset] [] := by first | (simp [entryFrame, mkF, argsToLocals, Value.category]; done) | rfl
theorem pn_2 : plainName "java/util/Arrays" = true := by first | (simp [plainName, overriddenIn]; done) | decide +kernel
set_option maxRecDepth 65536 in
set_option maxHeartbeats 40000000 in
theorem rm6 (l : Launch) (Z : State) (a0 : Array Value) (hw : ∀ d ∈ tables_1, d.before a0 Z = true) (ws : List Jvm.Cond) (a1 : Addr) (p2 : Int32) (n_a1 : Nat) (f_a1 : Nat → Value) (h0 : Heap) (n0 : Nat) (Z0 : n0 ≤ h0.size) (A_a1 : Ary Z h0 a1 .long n_a1 f_a1) (hp0 : ¬ p2 < 0) (hcap : p2.toNatClampNeg ≤ 16) (hn : n_a1 ≤ 15) (hlt : n_a1 < p2.toNatClampNeg) (hL : ∀ i, i < n_a1 → ∃ x, f_a1 i = Value.long x) :
    MetFree l (⟨"java/util/Arrays", "copyOf", "([JI)[J"⟩ : MethodName) (head1 (Jvm.Cond.code (⟨"java/util/Arrays", "copyOf", "([JI)[J"⟩ : MethodName) jdk_65_method_124_code 3 (some (.array .long)) :: ws) ({ frames := 1, cells := 1, slots := 16, locals := 18 } : Room)) (fun a U => a = #[(.ref a1), (.int p2)] ∧ Z.Warmed39 U.vm ∧ U.heap = h0) (fun _ _ _ _ _ => True) (fun _ U o U' => ∃ v L, o = .returned v ∧ Q_rm6 Z a1 p2 n_a1 f_a1 h0 n0 v U'.heap L ∧ FrameEnd U o U' L ({ frames := 1, cells := 1, slots := 16, locals := 18 } : Room).cells ({ frames := 1, cells := 1, slots := 16, locals := 18 } : Room).slots) := by
  refine MetFree.of_bodySF (plainFor_of_name pn_2) hisR ?_
  intro p e s m args below meth c s₁ Bd hml0 hP hK
  obtain ⟨rfl, hZ, hh⟩ := hP
  have hx := Bd.exec
  have hby := Bd.bytes
  have hml : c.maxLocals = 3 := hml0
  have hown : s.vm.findClass "java/util/Arrays" = some m.cls := findClass_of_methodNamed Bd.named
  have hnm := (name_of_methodNamed Bd.named Bd.method).1
  have X0 : Stand p l e ({ frames := 1, cells := 1, slots := 16, locals := 18 } : Room) s m #[(.ref a1), (.int p2)] below meth c s₁ [] 0 0 := Stand.of_body Bd
  have e0 : s₁.heap = h0 := by rw [← hh, Bd.state]; rfl
  have N0 := Fr.nil n0
  show Run p e below s 1 16 (Q_rm6 Z a1 p2 n_a1 f_a1 h0 n0) (s₁.setTop (entryFrame m #[(.ref a1), (.int p2)] 3))
  refine Run.go (fun _ k => castTop (ef_rm6 m a1 p2) k) ?_
  show Run p e below s 1 16 (Q_rm6 Z a1 p2 n_a1 f_a1 h0 n0) (s₁.setTop (mkF m 0 #[.val (.ref a1), .val (.int p2), .unset] []))
  refine Run.go (fun _ k => XS.iloadN X0.here hx rfl (hb hby d6_0) rfl  k) ?_
  show Run p e below s 1 16 (Q_rm6 Z a1 p2 n_a1 f_a1 h0 n0) (s₁.setTop (mkF m 1 #[.val (.ref a1), .val (.int p2), .unset] [(.int p2)]))
  refine Run.go (fun _ k => XS.aloadN X0.here hx rfl (hb hby d6_1) rfl rfl k) ?_
  show Run p e below s 1 16 (Q_rm6 Z a1 p2 n_a1 f_a1 h0 n0) (s₁.setTop (mkF m 2 #[.val (.ref a1), .val (.int p2), .unset] [(.ref a1), (.int p2)]))
  refine Run.go (fun _ k => ary_len X0 hx hZ e0 A_a1 (g := (mkF m 2 #[.val (.ref a1), .val (.int p2), .unset] [(.ref a1), (.int p2)])) rfl rfl (hb hby d6_2) (z := (n_a1.toInt32)) rfl _ k) ?_
  show Run p e below s 1 16 (Q_rm6 Z a1 p2 n_a1 f_a1 h0 n0) (s₁.setTop (mkF m 3 #[.val (.ref a1), .val (.int p2), .unset] [(.int (n_a1.toInt32)), (.int p2)]))
  refine Run.go (fun _ k => XS.icmpYes X0.here hx rfl (pc0 := 3) (pc' := 14) rfl (hb hby d6_3) rfl (feq (own_min _ _ hp0 hn hlt).2.2.2).2 (by decide) (by decide) k) ?_
  show Run p e below s 1 16 (Q_rm6 Z a1 p2 n_a1 f_a1 h0 n0) (s₁.setTop (mkF m 14 #[.val (.ref a1), .val (.int p2), .unset] []))
  refine Run.go (fun _ k => XS.iloadN X0.here hx rfl (hb hby d6_14) rfl  k) ?_
  show Run p e below s 1 16 (Q_rm6 Z a1 p2 n_a1 f_a1 h0 n0) (s₁.setTop (mkF m 15 #[.val (.ref a1), .val (.int p2), .unset] [(.int p2)]))
  obtain ⟨T3, h3, k3, X3, e3, E3, A3, st3⟩ := newP X0 hx hZ (hw _ (List.mem_of_getElem? (i := 27) rfl)) e0 (g := (mkF m 15 #[.val (.ref a1), .val (.int p2), .unset] [(.int p2)])) rfl (hb hby d6_15) rfl hp0 (cap := 16) hcap (by decide) (by decide) (by decide)
  obtain ⟨b3, g3⟩ : ∃ z, z = h0.size := ⟨_, rfl⟩
  rw [← g3] at A3 st3
  have g_b3 : n0 ≤ b3 := Nat.le_trans Z0 (Nat.le_of_eq g3.symm)
  have sz_b3 : h0.size ≤ b3 := Nat.le_trans (Keep.refl h0 []).1 (Nat.le_of_eq g3.symm)
  have Z3 : n0 ≤ h3.size := Nat.le_trans Z0 E3.1
  have K3 : Keep h0 h3 [] := (Keep.refl h0 []).ext E3
  have ne_a1_b3 : a1 ≠ b3 := Nat.ne_of_lt (Nat.lt_of_lt_of_le A_a1.lt (Nat.le_of_eq g3.symm))
  have fx4 : Ary Z h3 b3 .long p2.toNatClampNeg (fun _ => (.long (0 : Int64))) := Ary.new A3 rfl
  refine Run.go st3 ?_
  show Run p e below s 1 16 (Q_rm6 Z a1 p2 n_a1 f_a1 h0 n0) (T3.setTop (mkF m 17 #[.val (.ref a1), .val (.int p2), .unset] [(.ref b3)]))
  refine Run.go (fun _ k => XS.astoreN X3.here hx rfl (hb hby d6_17) rfl rfl (l' := #[.val (.ref a1), .val (.int p2), .val (.ref b3)]) rfl k) ?_
  show Run p e below s 1 16 (Q_rm6 Z a1 p2 n_a1 f_a1 h0 n0) (T3.setTop (mkF m 18 #[.val (.ref a1), .val (.int p2), .val (.ref b3)] []))
  refine Run.go (fun _ k => XS.aloadN X3.here hx rfl (hb hby d6_18) rfl rfl k) ?_
  show Run p e below s 1 16 (Q_rm6 Z a1 p2 n_a1 f_a1 h0 n0) (T3.setTop (mkF m 19 #[.val (.ref a1), .val (.int p2), .val (.ref b3)] [(.ref a1)]))
  refine Run.go (fun _ k => XS.iconst X3.here hx rfl (hb hby d6_19) k) ?_
  show Run p e below s 1 16 (Q_rm6 Z a1 p2 n_a1 f_a1 h0 n0) (T3.setTop (mkF m 20 #[.val (.ref a1), .val (.int p2), .val (.ref b3)] [(.int (0 : Int32)), (.ref a1)]))
  refine Run.go (fun _ k => XS.aloadN X3.here hx rfl (hb hby d6_20) rfl rfl k) ?_
  show Run p e below s 1 16 (Q_rm6 Z a1 p2 n_a1 f_a1 h0 n0) (T3.setTop (mkF m 21 #[.val (.ref a1), .val (.int p2), .val (.ref b3)] [(.ref b3), (.int (0 : Int32)), (.ref a1)]))
  refine Run.go (fun _ k => XS.iconst X3.here hx rfl (hb hby d6_21) k) ?_
  show Run p e below s 1 16 (Q_rm6 Z a1 p2 n_a1 f_a1 h0 n0) (T3.setTop (mkF m 22 #[.val (.ref a1), .val (.int p2), .val (.ref b3)] [(.int (0 : Int32)), (.ref b3), (.int (0 : Int32)), (.ref a1)]))
  refine Run.go (fun _ k => XS.aloadN X3.here hx rfl (hb hby d6_22) rfl rfl k) ?_
  show Run p e below s 1 16 (Q_rm6 Z a1 p2 n_a1 f_a1 h0 n0) (T3.setTop (mkF m 23 #[.val (.ref a1), .val (.int p2), .val (.ref b3)] [(.ref a1), (.int (0 : Int32)), (.ref b3), (.int (0 : Int32)), (.ref a1)]))
  have fx5 := (A_a1.ext E3)
  refine Run.go (fun _ k => ary_len X3 hx hZ e3 fx5 (g := (mkF m 23 #[.val (.ref a1), .val (.int p2), .val (.ref b3)] [(.ref a1), (.int (0 : Int32)), (.ref b3), (.int (0 : Int32)), (.ref a1)])) rfl rfl (hb hby d6_23) (z := (n_a1.toInt32)) rfl _ k) ?_
  show Run p e below s 1 16 (Q_rm6 Z a1 p2 n_a1 f_a1 h0 n0) (T3.setTop (mkF m 24 #[.val (.ref a1), .val (.int p2), .val (.ref b3)] [(.int (n_a1.toInt32)), (.int (0 : Int32)), (.ref b3), (.int (0 : Int32)), (.ref a1)]))
  refine Run.go (fun _ k => XS.iloadN X3.here hx rfl (hb hby d6_24) rfl  k) ?_
  show Run p e below s 1 16 (Q_rm6 Z a1 p2 n_a1 f_a1 h0 n0) (T3.setTop (mkF m 25 #[.val (.ref a1), .val (.int p2), .val (.ref b3)] [(.int p2), (.int (n_a1.toInt32)), (.int (0 : Int32)), (.ref b3), (.int (0 : Int32)), (.ref a1)]))
  obtain ⟨_, _, ⟨T6, L6, k6, n6⟩, -, X6, ⟨Lc6, hQ6, l6, y6, z6⟩, st6⟩ := Jvm.LawKit.callS X3 hx (y := (⟨"java/lang/Math", "min", "(II)I"⟩ : MethodName)) hown (mvT hZ (hw _ (List.mem_of_getElem? (i := 32) rfl))) (mvT hZ (hw _ (List.mem_of_getElem? (i := 33) rfl))) (mvT hZ (hw _ (List.mem_of_getElem? (i := 34) rfl))) (mvT hZ (hw _ (List.mem_of_getElem? (i := 35) rfl))) (by decide) (backOf (W := 4) (rm7 l Z a0 hw [] (n_a1.toInt32) p2 h3 n0 Z3 ) hZ (hw _ (List.mem_of_getElem? (i := 35) rfl)) (hw _ (List.mem_of_getElem? (i := 34) rfl)) (by decide) (by decide)) (g := (mkF m 25 #[.val (.ref a1), .val (.int p2), .val (.ref b3)] [(.int p2), (.int (n_a1.toInt32)), (.int (0 : Int32)), (.ref b3), (.int (0 : Int32)), (.ref a1)])) rfl (by rw [hml]; rfl) (argsL := [(.int (n_a1.toInt32)), (.int p2)]) (rest := [(.int (0 : Int32)), (.ref b3), (.int (0 : Int32)), (.ref a1)]) (lenOf pd_0 rfl) rfl (by show 2 * 0 + _ ≤ _; exact Nat.le_of_eq rfl) (hb hby d6_25) (fun _ _ => ⟨rfl, e3, (by decide : 1 + 0 ≤ _), (by decide : 16 + 0 ≤ _)⟩)
  dsimp only [Pt.U, Pt.locs, Pt.cells, Pt.slots] at X6 l6 y6 z6 st6 hQ6
  subst l6 y6 z6
  obtain ⟨rfl, N6q, e6q⟩ := hQ6
  have N6 := Fr.app N0 N6q
  obtain ⟨Lg6, Xg6, Ng6⟩ := Stand_gen X6 N6
  refine Run.go st6 ?_
  show Run p e below s 1 16 (Q_rm6 Z a1 p2 n_a1 f_a1 h0 n0) (T6.setTop (mkF m 28 #[.val (.ref a1), .val (.int p2), .val (.ref b3)] [(.int (F_rm7 (n_a1.toInt32) p2)), (.int (0 : Int32)), (.ref b3), (.int (0 : Int32)), (.ref a1)]))
  obtain ⟨T7, h7, L7, X7, e7, N7, K7q, B7, st7⟩ := ary_copy Xg6 hx hZ hown (hw _ (List.mem_of_getElem? (i := 36) rfl)) (hw _ (List.mem_of_getElem? (i := 39) rfl)) (hw _ (List.mem_of_getElem? (i := 37) rfl)) (hw _ (List.mem_of_getElem? (i := 38) rfl)) e6q fx5 fx4 rfl (by omega) (by omega) (own_ok _ 0 _ hL) (fun _ _ => rfl) (nn := (F_rm7 (n_a1.toInt32) p2)) (by rw [(own_min _ _ hp0 hn hlt).1]; exact (own_min _ _ hp0 hn hlt).2.2.1) (by rw [(own_min _ _ hp0 hn hlt).1, (own_min _ _ hp0 hn hlt).2.1]; exact Nat.le_refl _) (by rw [(own_min _ _ hp0 hn hlt).1, (own_min _ _ hp0 hn hlt).2.1]; omega) Ng6 g_b3 (g := (mkF m 28 #[.val (.ref a1), .val (.int p2), .val (.ref b3)] [(.int (F_rm7 (n_a1.toInt32) p2)), (.int (0 : Int32)), (.ref b3), (.int (0 : Int32)), (.ref a1)])) rfl (by rw [hml]; rfl) rfl (hb hby d6_28) (by decide) (W := 0) (by show 2 * 0 + _ ≤ _; exact Nat.le_of_eq rfl) (by decide)
  have fx8 : Ary Z h7 b3 .long p2.toNatClampNeg (fun i => if i < n_a1 then f_a1 i else (.long (0 : Int64))) := B7.congr (fun i _ => by rw [(own_min _ _ hp0 hn hlt).1, (own_min _ _ hp0 hn hlt).2.1])
  have K7 : Keep h0 h7 [] := K3.trans K7q (allS (Or.inr sz_b3) all0)
  have Z7 : n0 ≤ h7.size := Nat.le_trans Z3 K7q.1
  refine Run.go st7 ?_
  show Run p e below s 1 16 (Q_rm6 Z a1 p2 n_a1 f_a1 h0 n0) (T7.setTop (mkF m 31 #[.val (.ref a1), .val (.int p2), .val (.ref b3)] []))
  refine Run.go (fun _ k => XS.aloadN X7.here hx rfl (hb hby d6_31) rfl rfl k) ?_
  show Run p e below s 1 16 (Q_rm6 Z a1 p2 n_a1 f_a1 h0 n0) (T7.setTop (mkF m 32 #[.val (.ref a1), .val (.int p2), .val (.ref b3)] [(.ref b3)]))
  refine Run.retA X7 hx rfl Bd.returns rfl Bd.notSynchronized (hb hby d6_32) (by decide) (by decide) ?_
  show Q_rm6 Z a1 p2 n_a1 f_a1 h0 n0 _ T7.heap _
  rw [e7]
  exact ⟨b3, rfl, N7, K7, sz_b3, fx8⟩
theorem d5_0 : decode prog_57_method_3_code 0 = .ok (.iload_n 1, 1) := by decide +kernel
theorem d5_1 : decode prog_57_method_3_code 1 = .ok (.bipush 64, 2) := by decide +kernel
theorem d5_3 : decode prog_57_method_3_code 3 = .ok (.if_icmp .ge 16, 3) := by decide +kernel
theorem d5_6 : decode prog_57_method_3_code 6 = .ok (.aload_n 0, 1) := by decide +kernel
theorem d5_7 : decode prog_57_method_3_code 7 = .ok (.dup, 1) := by decide +kernel
theorem d5_8 : decode prog_57_method_3_code 8 = .ok (.getfield 9, 3) := by decide +kernel
theorem d5_11 : decode prog_57_method_3_code 11 = .ok (.lconst 1, 1) := by decide +kernel
theorem d5_12 : decode prog_57_method_3_code 12 = .ok (.iload_n 1, 1) := by decide +kernel
theorem d5_13 : decode prog_57_method_3_code 13 = .ok (.lshl, 1) := by decide +kernel
theorem d5_14 : decode prog_57_method_3_code 14 = .ok (.lor, 1) := by decide +kernel
theorem d5_15 : decode prog_57_method_3_code 15 = .ok (.putfield 9, 3) := by decide +kernel
theorem d5_18 : decode prog_57_method_3_code 18 = .ok (.return_, 1) := by decide +kernel
def Q_rm5a (Z : State) (a1 : Addr) (p2 : Int32) (w3 : Int64) (u_more_a1 : Value) (h0 : Heap) (n0 : Nat) (v : Option Value) (h : Heap) (L : List Loc) : Prop := v = none ∧ Fr n0 L ∧ Keep h0 h [a1] ∧ Exa Z h a1 "murmuration/Sources" ∧ Fld Z h a1 "murmuration/Sources" "first" "J" (.long (w3 ||| ((1 : Int64) <<< (p2 &&& 0x3f).toInt64))) ∧ Fld Z h a1 "murmuration/Sources" "more" "[J" u_more_a1
theorem ef_rm5a (m : MethodId) (x0 : Addr) (x1 : Int32) : entryFrame m #[(.ref x0), (.int x1)] 3 = mkF m 0 #[.val (.ref x0), .val (.int x1), .unset] [] := by first | (simp [entryFrame, mkF, argsToLocals, Value.category]; done) | rfl
set_option maxRecDepth 65536 in
set_option maxHeartbeats 40000000 in
theorem rm5a (l : Launch) (Z : State) (a0 : Array Value) (hw : ∀ d ∈ tables_1, d.before a0 Z = true) (ws : List Jvm.Cond) (a1 : Addr) (p2 : Int32) (w3 : Int64) (u_more_a1 : Value) (h0 : Heap) (n0 : Nat) (Z0 : n0 ≤ h0.size) (E_a1 : Exa Z h0 a1 "murmuration/Sources") (hc3 : (p2 < (64 : Int32))) (F_first_a1 : Fld Z h0 a1 "murmuration/Sources" "first" "J" (.long w3)) (g_a1 : n0 ≤ a1) (F_more_a1 : Fld Z h0 a1 "murmuration/Sources" "more" "[J" u_more_a1) :
    MetFree l (⟨"murmuration/Sources", "add", "(I)V"⟩ : MethodName) (head1 (Jvm.Cond.code (⟨"murmuration/Sources", "add", "(I)V"⟩ : MethodName) prog_57_method_3_code 3 none :: ws) ({ frames := 2, cells := 1, slots := 16, locals := 33 } : Room)) (fun a U => a = #[(.ref a1), (.int p2)] ∧ Z.Warmed39 U.vm ∧ U.heap = h0) (fun _ _ _ _ _ => True) (fun _ U o U' => ∃ v L, o = .returned v ∧ Q_rm5a Z a1 p2 w3 u_more_a1 h0 n0 v U'.heap L ∧ FrameEnd U o U' L ({ frames := 2, cells := 1, slots := 16, locals := 33 } : Room).cells ({ frames := 2, cells := 1, slots := 16, locals := 33 } : Room).slots) := by
  refine MetFree.of_bodySF (plainFor_of_name pn_1) hisR ?_
  intro p e s m args below meth c s₁ Bd hml0 hP hK
  obtain ⟨rfl, hZ, hh⟩ := hP
  have hx := Bd.exec
  have hby := Bd.bytes
  have hml : c.maxLocals = 3 := hml0
  have hown : s.vm.findClass "murmuration/Sources" = some m.cls := findClass_of_methodNamed Bd.named
  have hnm := (name_of_methodNamed Bd.named Bd.method).1
  have X0 : Stand p l e ({ frames := 2, cells := 1, slots := 16, locals := 33 } : Room) s m #[(.ref a1), (.int p2)] below meth c s₁ [] 0 0 := Stand.of_body Bd
  have e0 : s₁.heap = h0 := by rw [← hh, Bd.state]; rfl
  have N0 := Fr.nil n0
  show Run p e below s 1 16 (Q_rm5a Z a1 p2 w3 u_more_a1 h0 n0) (s₁.setTop (entryFrame m #[(.ref a1), (.int p2)] 3))
  refine Run.go (fun _ k => castTop (ef_rm5a m a1 p2) k) ?_
  show Run p e below s 1 16 (Q_rm5a Z a1 p2 w3 u_more_a1 h0 n0) (s₁.setTop (mkF m 0 #[.val (.ref a1), .val (.int p2), .unset] []))
  refine Run.go (fun _ k => XS.iloadN X0.here hx rfl (hb hby d5_0) rfl  k) ?_
  show Run p e below s 1 16 (Q_rm5a Z a1 p2 w3 u_more_a1 h0 n0) (s₁.setTop (mkF m 1 #[.val (.ref a1), .val (.int p2), .unset] [(.int p2)]))
  refine Run.go (fun _ k => XS.bipush X0.here hx rfl (hb hby d5_1) k) ?_
  show Run p e below s 1 16 (Q_rm5a Z a1 p2 w3 u_more_a1 h0 n0) (s₁.setTop (mkF m 3 #[.val (.ref a1), .val (.int p2), .unset] [(.int (64 : Int32)), (.int p2)]))
  refine Run.go (fun _ k => XS.icmpNo X0.here hx rfl (hb hby d5_3) rfl (tlt hc3).2.1 k) ?_
  show Run p e below s 1 16 (Q_rm5a Z a1 p2 w3 u_more_a1 h0 n0) (s₁.setTop (mkF m 6 #[.val (.ref a1), .val (.int p2), .unset] []))
  refine Run.go (fun _ k => XS.aloadN X0.here hx rfl (hb hby d5_6) rfl rfl k) ?_
  show Run p e below s 1 16 (Q_rm5a Z a1 p2 w3 u_more_a1 h0 n0) (s₁.setTop (mkF m 7 #[.val (.ref a1), .val (.int p2), .unset] [(.ref a1)]))
  refine Run.go (fun _ k => XS.dup X0.here hx rfl (hb hby d5_7) rfl rfl k) ?_
  show Run p e below s 1 16 (Q_rm5a Z a1 p2 w3 u_more_a1 h0 n0) (s₁.setTop (mkF m 8 #[.val (.ref a1), .val (.int p2), .unset] [(.ref a1), (.ref a1)]))
  obtain ⟨T4, X4, e4, st4⟩ := getF X0 hx hZ hown (host := "") (Or.inl (hw _ (List.mem_of_getElem? (i := 18) rfl))) Via.refl e0 F_first_a1 (g := (mkF m 8 #[.val (.ref a1), .val (.int p2), .unset] [(.ref a1), (.ref a1)])) rfl rfl (hb hby d5_8)
  refine Run.go st4 ?_
  show Run p e below s 1 16 (Q_rm5a Z a1 p2 w3 u_more_a1 h0 n0) (T4.setTop (mkF m 11 #[.val (.ref a1), .val (.int p2), .unset] [(.long w3), (.ref a1)]))
  refine Run.go (fun _ k => XS.lconst X4.here hx rfl (hb hby d5_11) k) ?_
  show Run p e below s 1 16 (Q_rm5a Z a1 p2 w3 u_more_a1 h0 n0) (T4.setTop (mkF m 12 #[.val (.ref a1), .val (.int p2), .unset] [(.long (1 : Int64)), (.long w3), (.ref a1)]))
  refine Run.go (fun _ k => XS.iloadN X4.here hx rfl (hb hby d5_12) rfl  k) ?_
  show Run p e below s 1 16 (Q_rm5a Z a1 p2 w3 u_more_a1 h0 n0) (T4.setTop (mkF m 13 #[.val (.ref a1), .val (.int p2), .unset] [(.int p2), (.long (1 : Int64)), (.long w3), (.ref a1)]))
  refine Run.go (fun _ k => XS.lshl X4.here hx rfl (hb hby d5_13) rfl k) ?_
  show Run p e below s 1 16 (Q_rm5a Z a1 p2 w3 u_more_a1 h0 n0) (T4.setTop (mkF m 14 #[.val (.ref a1), .val (.int p2), .unset] [(.long ((1 : Int64) <<< (p2 &&& 0x3f).toInt64)), (.long w3), (.ref a1)]))
  refine Run.go (fun _ k => XS.lor X4.here hx rfl (hb hby d5_14) rfl k) ?_
  show Run p e below s 1 16 (Q_rm5a Z a1 p2 w3 u_more_a1 h0 n0) (T4.setTop (mkF m 15 #[.val (.ref a1), .val (.int p2), .unset] [(.long (w3 ||| ((1 : Int64) <<< (p2 &&& 0x3f).toInt64))), (.ref a1)]))
  obtain ⟨T5, h5, X5, e5, W5, st5⟩ := putF X4 hx hZ hown (host := "") (Or.inl (hw _ (List.mem_of_getElem? (i := 18) rfl))) Via.refl e4 F_first_a1 E_a1 (Or.inl (hw _ (List.mem_of_getElem? (i := 19) rfl))) (hw _ (List.mem_of_getElem? (i := 5) rfl)) (ty := .long) (by decide) rfl rfl (g := (mkF m 15 #[.val (.ref a1), .val (.int p2), .unset] [(.long (w3 ||| ((1 : Int64) <<< (p2 &&& 0x3f).toInt64))), (.ref a1)])) rfl rfl (hb hby d5_15)
  have N5 := Fr.snoc X5 N0 g_a1
  have Z5 : n0 ≤ h5.size := Nat.le_trans Z0 (Keep.of_wr W5).1
  have K5 : Keep h0 h5 [a1] := (Keep.refl h0 [a1]).wr W5 (Or.inl (List.mem_of_getElem? (i := 0) rfl))
  obtain ⟨Lg5, Xg5, Ng5⟩ := Stand_gen X5 N5
  have fx6 := F_first_a1.same W5
  refine Run.go st5 ?_
  show Run p e below s 1 16 (Q_rm5a Z a1 p2 w3 u_more_a1 h0 n0) (T5.setTop (mkF m 18 #[.val (.ref a1), .val (.int p2), .unset] []))
  refine Run.ret0 Xg5 hx Bd.returns Bd.notSynchronized (hb hby d5_18) (by decide) (by decide) ?_
  show Q_rm5a Z a1 p2 w3 u_more_a1 h0 n0 _ T5.heap _
  have fx7 := (E_a1.wr W5)
  have fx8 := (F_more_a1.other W5 (Or.inr (slot_ne (Or.inl (hw _ (List.mem_of_getElem? (i := 26) rfl))) (Or.inl (hw _ (List.mem_of_getElem? (i := 19) rfl))) (by decide) (t := (.array .long)) (t' := .long) (by decide) (by decide))))
  rw [e5]
  exact ⟨rfl, Ng5, K5, fx7, fx6, fx8⟩
theorem d5_19 : decode prog_57_method_3_code 19 = .ok (.iload_n 1, 1) := by decide +kernel
theorem d5_20 : decode prog_57_method_3_code 20 = .ok (.bipush 64, 2) := by decide +kernel
theorem d5_22 : decode prog_57_method_3_code 22 = .ok (.idiv, 1) := by decide +kernel
theorem d5_23 : decode prog_57_method_3_code 23 = .ok (.iconst 1, 1) := by decide +kernel
theorem d5_24 : decode prog_57_method_3_code 24 = .ok (.isub, 1) := by decide +kernel
theorem d5_25 : decode prog_57_method_3_code 25 = .ok (.istore_n 2, 1) := by decide +kernel
theorem d5_26 : decode prog_57_method_3_code 26 = .ok (.aload_n 0, 1) := by decide +kernel
theorem d5_27 : decode prog_57_method_3_code 27 = .ok (.getfield 13, 3) := by decide +kernel
theorem d5_30 : decode prog_57_method_3_code 30 = .ok (.ifnull 12, 3) := by decide +kernel
theorem d5_42 : decode prog_57_method_3_code 42 = .ok (.aload_n 0, 1) := by decide +kernel
theorem d5_43 : decode prog_57_method_3_code 43 = .ok (.aload_n 0, 1) := by decide +kernel
theorem d5_44 : decode prog_57_method_3_code 44 = .ok (.getfield 13, 3) := by decide +kernel
theorem d5_47 : decode prog_57_method_3_code 47 = .ok (.ifnonnull 11, 3) := by decide +kernel
theorem d5_50 : decode prog_57_method_3_code 50 = .ok (.iload_n 2, 1) := by decide +kernel
theorem d5_51 : decode prog_57_method_3_code 51 = .ok (.iconst 1, 1) := by decide +kernel
theorem d5_52 : decode prog_57_method_3_code 52 = .ok (.iadd, 1) := by decide +kernel
theorem d5_53 : decode prog_57_method_3_code 53 = .ok (.newarray .long, 2) := by decide +kernel
theorem d5_55 : decode prog_57_method_3_code 55 = .ok (.goto 13, 3) := by decide +kernel
theorem d5_68 : decode prog_57_method_3_code 68 = .ok (.putfield 13, 3) := by decide +kernel
theorem d5_71 : decode prog_57_method_3_code 71 = .ok (.aload_n 0, 1) := by decide +kernel
theorem d5_72 : decode prog_57_method_3_code 72 = .ok (.getfield 13, 3) := by decide +kernel
theorem d5_75 : decode prog_57_method_3_code 75 = .ok (.iload_n 2, 1) := by decide +kernel
theorem d5_76 : decode prog_57_method_3_code 76 = .ok (.dup2, 1) := by decide +kernel
theorem d5_77 : decode prog_57_method_3_code 77 = .ok (.laload, 1) := by decide +kernel
theorem d5_78 : decode prog_57_method_3_code 78 = .ok (.lconst 1, 1) := by decide +kernel
theorem d5_79 : decode prog_57_method_3_code 79 = .ok (.iload_n 1, 1) := by decide +kernel
theorem d5_80 : decode prog_57_method_3_code 80 = .ok (.lshl, 1) := by decide +kernel
theorem d5_81 : decode prog_57_method_3_code 81 = .ok (.lor, 1) := by decide +kernel
theorem d5_82 : decode prog_57_method_3_code 82 = .ok (.lastore, 1) := by decide +kernel
theorem d5_83 : decode prog_57_method_3_code 83 = .ok (.return_, 1) := by decide +kernel
def Q_rm5b (Z : State) (a1 : Addr) (p2 : Int32) (u_first_a1 : Value) (h0 : Heap) (n0 : Nat) (v : Option Value) (h : Heap) (L : List Loc) : Prop := ∃ (b5 : Addr), v = none ∧ Fr n0 L ∧ Keep h0 h [a1] ∧ h0.size ≤ b5 ∧ Exa Z h a1 "murmuration/Sources" ∧ Fld Z h a1 "murmuration/Sources" "more" "[J" (.ref b5) ∧ Fld Z h a1 "murmuration/Sources" "first" "J" u_first_a1 ∧ Ary Z h b5 .long (((p2 / (64 : Int32)) - (1 : Int32)) + (1 : Int32)).toNatClampNeg (fun i => if i = ((p2 / (64 : Int32)) - (1 : Int32)).toNatClampNeg then (.long ((0 : Int64) ||| ((1 : Int64) <<< (p2 &&& 0x3f).toInt64))) else (fun _ => (.long (0 : Int64))) i)
theorem ef_rm5b (m : MethodId) (x0 : Addr) (x1 : Int32) : entryFrame m #[(.ref x0), (.int x1)] 3 = mkF m 0 #[.val (.ref x0), .val (.int x1), .unset] [] := by first | (simp [entryFrame, mkF, argsToLocals, Value.category]; done) | rfl
set_option maxRecDepth 65536 in
set_option maxHeartbeats 40000000 in
theorem rm5b (l : Launch) (Z : State) (a0 : Array Value) (hw : ∀ d ∈ tables_1, d.before a0 Z = true) (ws : List Jvm.Cond) (a1 : Addr) (p2 : Int32) (u_first_a1 : Value) (h0 : Heap) (n0 : Nat) (Z0 : n0 ≤ h0.size) (E_a1 : Exa Z h0 a1 "murmuration/Sources") (hp : ¬ (1023 : Int32) < p2) (F_more_a1 : Fld Z h0 a1 "murmuration/Sources" "more" "[J" .null) (hc3 : ¬ (p2 < (64 : Int32))) (g_a1 : n0 ≤ a1) (F_first_a1 : Fld Z h0 a1 "murmuration/Sources" "first" "J" u_first_a1) :
    MetFree l (⟨"murmuration/Sources", "add", "(I)V"⟩ : MethodName) (head1 (Jvm.Cond.code (⟨"murmuration/Sources", "add", "(I)V"⟩ : MethodName) prog_57_method_3_code 3 none :: ws) ({ frames := 2, cells := 1, slots := 16, locals := 33 } : Room)) (fun a U => a = #[(.ref a1), (.int p2)] ∧ Z.Warmed39 U.vm ∧ U.heap = h0) (fun _ _ _ _ _ => True) (fun _ U o U' => ∃ v L, o = .returned v ∧ Q_rm5b Z a1 p2 u_first_a1 h0 n0 v U'.heap L ∧ FrameEnd U o U' L ({ frames := 2, cells := 1, slots := 16, locals := 33 } : Room).cells ({ frames := 2, cells := 1, slots := 16, locals := 33 } : Room).slots) := by
  refine MetFree.of_bodySF (plainFor_of_name pn_1) hisR ?_
  intro p e s m args below meth c s₁ Bd hml0 hP hK
  obtain ⟨rfl, hZ, hh⟩ := hP
  have hx := Bd.exec
  have hby := Bd.bytes
  have hml : c.maxLocals = 3 := hml0
  have hown : s.vm.findClass "murmuration/Sources" = some m.cls := findClass_of_methodNamed Bd.named
  have hnm := (name_of_methodNamed Bd.named Bd.method).1
  have X0 : Stand p l e ({ frames := 2, cells := 1, slots := 16, locals := 33 } : Room) s m #[(.ref a1), (.int p2)] below meth c s₁ [] 0 0 := Stand.of_body Bd
  have e0 : s₁.heap = h0 := by rw [← hh, Bd.state]; rfl
  have N0 := Fr.nil n0
  show Run p e below s 1 16 (Q_rm5b Z a1 p2 u_first_a1 h0 n0) (s₁.setTop (entryFrame m #[(.ref a1), (.int p2)] 3))
  refine Run.go (fun _ k => castTop (ef_rm5b m a1 p2) k) ?_
  show Run p e below s 1 16 (Q_rm5b Z a1 p2 u_first_a1 h0 n0) (s₁.setTop (mkF m 0 #[.val (.ref a1), .val (.int p2), .unset] []))
  refine Run.go (fun _ k => XS.iloadN X0.here hx rfl (hb hby d5_0) rfl  k) ?_
  show Run p e below s 1 16 (Q_rm5b Z a1 p2 u_first_a1 h0 n0) (s₁.setTop (mkF m 1 #[.val (.ref a1), .val (.int p2), .unset] [(.int p2)]))
  refine Run.go (fun _ k => XS.bipush X0.here hx rfl (hb hby d5_1) k) ?_
  show Run p e below s 1 16 (Q_rm5b Z a1 p2 u_first_a1 h0 n0) (s₁.setTop (mkF m 3 #[.val (.ref a1), .val (.int p2), .unset] [(.int (64 : Int32)), (.int p2)]))
  refine Run.go (fun _ k => XS.icmpYes X0.here hx rfl (pc0 := 3) (pc' := 19) rfl (hb hby d5_3) rfl (flt hc3).2.1 (by decide) (by decide) k) ?_
  show Run p e below s 1 16 (Q_rm5b Z a1 p2 u_first_a1 h0 n0) (s₁.setTop (mkF m 19 #[.val (.ref a1), .val (.int p2), .unset] []))
  refine Run.go (fun _ k => XS.iloadN X0.here hx rfl (hb hby d5_19) rfl  k) ?_
  show Run p e below s 1 16 (Q_rm5b Z a1 p2 u_first_a1 h0 n0) (s₁.setTop (mkF m 20 #[.val (.ref a1), .val (.int p2), .unset] [(.int p2)]))
  refine Run.go (fun _ k => XS.bipush X0.here hx rfl (hb hby d5_20) k) ?_
  show Run p e below s 1 16 (Q_rm5b Z a1 p2 u_first_a1 h0 n0) (s₁.setTop (mkF m 22 #[.val (.ref a1), .val (.int p2), .unset] [(.int (64 : Int32)), (.int p2)]))
  refine Run.go (fun _ k => XS.idiv X0.here hx rfl (hb hby d5_22) rfl (by decide) k) ?_
  show Run p e below s 1 16 (Q_rm5b Z a1 p2 u_first_a1 h0 n0) (s₁.setTop (mkF m 23 #[.val (.ref a1), .val (.int p2), .unset] [(.int (p2 / (64 : Int32)))]))
  refine Run.go (fun _ k => XS.iconst X0.here hx rfl (hb hby d5_23) k) ?_
  show Run p e below s 1 16 (Q_rm5b Z a1 p2 u_first_a1 h0 n0) (s₁.setTop (mkF m 24 #[.val (.ref a1), .val (.int p2), .unset] [(.int (1 : Int32)), (.int (p2 / (64 : Int32)))]))
  refine Run.go (fun _ k => XS.isub X0.here hx rfl (hb hby d5_24) rfl k) ?_
  show Run p e below s 1 16 (Q_rm5b Z a1 p2 u_first_a1 h0 n0) (s₁.setTop (mkF m 25 #[.val (.ref a1), .val (.int p2), .unset] [(.int ((p2 / (64 : Int32)) - (1 : Int32)))]))
  refine Run.go (fun _ k => XS.istoreN X0.here hx rfl (hb hby d5_25) rfl (l' := #[.val (.ref a1), .val (.int p2), .val (.int ((p2 / (64 : Int32)) - (1 : Int32)))]) rfl k) ?_
  show Run p e below s 1 16 (Q_rm5b Z a1 p2 u_first_a1 h0 n0) (s₁.setTop (mkF m 26 #[.val (.ref a1), .val (.int p2), .val (.int ((p2 / (64 : Int32)) - (1 : Int32)))] []))
  refine Run.go (fun _ k => XS.aloadN X0.here hx rfl (hb hby d5_26) rfl rfl k) ?_
  show Run p e below s 1 16 (Q_rm5b Z a1 p2 u_first_a1 h0 n0) (s₁.setTop (mkF m 27 #[.val (.ref a1), .val (.int p2), .val (.int ((p2 / (64 : Int32)) - (1 : Int32)))] [(.ref a1)]))
  obtain ⟨T3, X3, e3, st3⟩ := getF X0 hx hZ hown (host := "") (Or.inl (hw _ (List.mem_of_getElem? (i := 25) rfl))) Via.refl e0 F_more_a1 (g := (mkF m 27 #[.val (.ref a1), .val (.int p2), .val (.int ((p2 / (64 : Int32)) - (1 : Int32)))] [(.ref a1)])) rfl rfl (hb hby d5_27)
  refine Run.go st3 ?_
  show Run p e below s 1 16 (Q_rm5b Z a1 p2 u_first_a1 h0 n0) (T3.setTop (mkF m 30 #[.val (.ref a1), .val (.int p2), .val (.int ((p2 / (64 : Int32)) - (1 : Int32)))] [.null]))
  refine Run.go (fun _ k => XS.ifnullYes X3.here hx rfl (pc0 := 30) (pc' := 42) rfl (hb hby d5_30) rfl (by decide) (by decide) k) ?_
  show Run p e below s 1 16 (Q_rm5b Z a1 p2 u_first_a1 h0 n0) (T3.setTop (mkF m 42 #[.val (.ref a1), .val (.int p2), .val (.int ((p2 / (64 : Int32)) - (1 : Int32)))] []))
  refine Run.go (fun _ k => XS.aloadN X3.here hx rfl (hb hby d5_42) rfl rfl k) ?_
  show Run p e below s 1 16 (Q_rm5b Z a1 p2 u_first_a1 h0 n0) (T3.setTop (mkF m 43 #[.val (.ref a1), .val (.int p2), .val (.int ((p2 / (64 : Int32)) - (1 : Int32)))] [(.ref a1)]))
  refine Run.go (fun _ k => XS.aloadN X3.here hx rfl (hb hby d5_43) rfl rfl k) ?_
  show Run p e below s 1 16 (Q_rm5b Z a1 p2 u_first_a1 h0 n0) (T3.setTop (mkF m 44 #[.val (.ref a1), .val (.int p2), .val (.int ((p2 / (64 : Int32)) - (1 : Int32)))] [(.ref a1), (.ref a1)]))
  obtain ⟨T4, X4, e4, st4⟩ := getF X3 hx hZ hown (host := "") (Or.inl (hw _ (List.mem_of_getElem? (i := 25) rfl))) Via.refl e3 F_more_a1 (g := (mkF m 44 #[.val (.ref a1), .val (.int p2), .val (.int ((p2 / (64 : Int32)) - (1 : Int32)))] [(.ref a1), (.ref a1)])) rfl rfl (hb hby d5_44)
  refine Run.go st4 ?_
  show Run p e below s 1 16 (Q_rm5b Z a1 p2 u_first_a1 h0 n0) (T4.setTop (mkF m 47 #[.val (.ref a1), .val (.int p2), .val (.int ((p2 / (64 : Int32)) - (1 : Int32)))] [.null, (.ref a1)]))
  refine Run.go (fun _ k => XS.ifnonnullNo X4.here hx rfl (hb hby d5_47) rfl k) ?_
  show Run p e below s 1 16 (Q_rm5b Z a1 p2 u_first_a1 h0 n0) (T4.setTop (mkF m 50 #[.val (.ref a1), .val (.int p2), .val (.int ((p2 / (64 : Int32)) - (1 : Int32)))] [(.ref a1)]))
  refine Run.go (fun _ k => XS.iloadN X4.here hx rfl (hb hby d5_50) rfl  k) ?_
  show Run p e below s 1 16 (Q_rm5b Z a1 p2 u_first_a1 h0 n0) (T4.setTop (mkF m 51 #[.val (.ref a1), .val (.int p2), .val (.int ((p2 / (64 : Int32)) - (1 : Int32)))] [(.int ((p2 / (64 : Int32)) - (1 : Int32))), (.ref a1)]))
  refine Run.go (fun _ k => XS.iconst X4.here hx rfl (hb hby d5_51) k) ?_
  show Run p e below s 1 16 (Q_rm5b Z a1 p2 u_first_a1 h0 n0) (T4.setTop (mkF m 52 #[.val (.ref a1), .val (.int p2), .val (.int ((p2 / (64 : Int32)) - (1 : Int32)))] [(.int (1 : Int32)), (.int ((p2 / (64 : Int32)) - (1 : Int32))), (.ref a1)]))
  refine Run.go (fun _ k => XS.iadd X4.here hx rfl (hb hby d5_52) rfl k) ?_
  show Run p e below s 1 16 (Q_rm5b Z a1 p2 u_first_a1 h0 n0) (T4.setTop (mkF m 53 #[.val (.ref a1), .val (.int p2), .val (.int ((p2 / (64 : Int32)) - (1 : Int32)))] [(.int (((p2 / (64 : Int32)) - (1 : Int32)) + (1 : Int32))), (.ref a1)]))
  obtain ⟨T5, h5, k5, X5, e5, E5, A5, st5⟩ := newP X4 hx hZ (hw _ (List.mem_of_getElem? (i := 27) rfl)) e4 (g := (mkF m 53 #[.val (.ref a1), .val (.int p2), .val (.int ((p2 / (64 : Int32)) - (1 : Int32)))] [(.int (((p2 / (64 : Int32)) - (1 : Int32)) + (1 : Int32))), (.ref a1)])) rfl (hb hby d5_53) rfl (own_in2 _ hc3 hp).1 (cap := 15) (by rw [(own_in2 _ hc3 hp).2.1]; exact (own_in2 _ hc3 hp).2.2.1) (by decide) (by decide) (by decide)
  obtain ⟨b5, g5⟩ : ∃ z, z = h0.size := ⟨_, rfl⟩
  rw [← g5] at A5 st5
  have g_b5 : n0 ≤ b5 := Nat.le_trans Z0 (Nat.le_of_eq g5.symm)
  have sz_b5 : h0.size ≤ b5 := Nat.le_trans (Keep.refl h0 [a1]).1 (Nat.le_of_eq g5.symm)
  have Z5 : n0 ≤ h5.size := Nat.le_trans Z0 E5.1
  have K5 : Keep h0 h5 [a1] := (Keep.refl h0 [a1]).ext E5
  have ne_a1_b5 : a1 ≠ b5 := Nat.ne_of_lt (Nat.lt_of_lt_of_le E_a1.lt (Nat.le_of_eq g5.symm))
  have fx6 : Ary Z h5 b5 .long (((p2 / (64 : Int32)) - (1 : Int32)) + (1 : Int32)).toNatClampNeg (fun _ => (.long (0 : Int64))) := Ary.new A5 rfl
  refine Run.go st5 ?_
  show Run p e below s 1 16 (Q_rm5b Z a1 p2 u_first_a1 h0 n0) (T5.setTop (mkF m 55 #[.val (.ref a1), .val (.int p2), .val (.int ((p2 / (64 : Int32)) - (1 : Int32)))] [(.ref b5), (.ref a1)]))
  refine Run.go (fun _ k => XS.goto X5.here hx rfl (pc0 := 55) (pc' := 68) rfl (hb hby d5_55) (by decide) (by decide) k) ?_
  show Run p e below s 1 16 (Q_rm5b Z a1 p2 u_first_a1 h0 n0) (T5.setTop (mkF m 68 #[.val (.ref a1), .val (.int p2), .val (.int ((p2 / (64 : Int32)) - (1 : Int32)))] [(.ref b5), (.ref a1)]))
  have fx7 := (E_a1.ext E5)
  have fx8 := (F_more_a1.ext E5)
  obtain ⟨T9, h9, X9, e9, W9, st9⟩ := putF X5 hx hZ hown (host := "") (Or.inl (hw _ (List.mem_of_getElem? (i := 25) rfl))) Via.refl e5 fx8 fx7 (Or.inl (hw _ (List.mem_of_getElem? (i := 26) rfl))) (hw _ (List.mem_of_getElem? (i := 5) rfl)) (ty := (.array .long)) (by decide) rfl rfl (g := (mkF m 68 #[.val (.ref a1), .val (.int p2), .val (.int ((p2 / (64 : Int32)) - (1 : Int32)))] [(.ref b5), (.ref a1)])) rfl rfl (hb hby d5_68)
  have N9 := Fr.snoc X9 N0 g_a1
  have Z9 : n0 ≤ h9.size := Nat.le_trans Z5 (Keep.of_wr W9).1
  have K9 : Keep h0 h9 [a1] := K5.wr W9 (Or.inl (List.mem_of_getElem? (i := 0) rfl))
  obtain ⟨Lg9, Xg9, Ng9⟩ := Stand_gen X9 N9
  have fx10 := fx8.same W9
  refine Run.go st9 ?_
  show Run p e below s 1 16 (Q_rm5b Z a1 p2 u_first_a1 h0 n0) (T9.setTop (mkF m 71 #[.val (.ref a1), .val (.int p2), .val (.int ((p2 / (64 : Int32)) - (1 : Int32)))] []))
  refine Run.go (fun _ k => XS.aloadN Xg9.here hx rfl (hb hby d5_71) rfl rfl k) ?_
  show Run p e below s 1 16 (Q_rm5b Z a1 p2 u_first_a1 h0 n0) (T9.setTop (mkF m 72 #[.val (.ref a1), .val (.int p2), .val (.int ((p2 / (64 : Int32)) - (1 : Int32)))] [(.ref a1)]))
  obtain ⟨T11, X11, e11, st11⟩ := getF Xg9 hx hZ hown (host := "") (Or.inl (hw _ (List.mem_of_getElem? (i := 25) rfl))) Via.refl e9 fx10 (g := (mkF m 72 #[.val (.ref a1), .val (.int p2), .val (.int ((p2 / (64 : Int32)) - (1 : Int32)))] [(.ref a1)])) rfl rfl (hb hby d5_72)
  refine Run.go st11 ?_
  show Run p e below s 1 16 (Q_rm5b Z a1 p2 u_first_a1 h0 n0) (T11.setTop (mkF m 75 #[.val (.ref a1), .val (.int p2), .val (.int ((p2 / (64 : Int32)) - (1 : Int32)))] [(.ref b5)]))
  refine Run.go (fun _ k => XS.iloadN X11.here hx rfl (hb hby d5_75) rfl  k) ?_
  show Run p e below s 1 16 (Q_rm5b Z a1 p2 u_first_a1 h0 n0) (T11.setTop (mkF m 76 #[.val (.ref a1), .val (.int p2), .val (.int ((p2 / (64 : Int32)) - (1 : Int32)))] [(.int ((p2 / (64 : Int32)) - (1 : Int32))), (.ref b5)]))
  refine Run.go (S' := T11.setTop (mkF m 77 #[.val (.ref a1), .val (.int p2), .val (.int ((p2 / (64 : Int32)) - (1 : Int32)))] [(.int ((p2 / (64 : Int32)) - (1 : Int32))), (.ref b5), (.int ((p2 / (64 : Int32)) - (1 : Int32))), (.ref b5)])) (fun _ k => ?_) ?_
  · show Steps p.tables e below (T11.setTop (mkF m 76 #[.val (.ref a1), .val (.int p2), .val (.int ((p2 / (64 : Int32)) - (1 : Int32)))] [(.int ((p2 / (64 : Int32)) - (1 : Int32))), (.ref b5)])) _
    jvm_step X11.here [X11.here.top, hx, (hb hby d5_76), Value.category]
    exact k
  show Run p e below s 1 16 (Q_rm5b Z a1 p2 u_first_a1 h0 n0) (T11.setTop (mkF m 77 #[.val (.ref a1), .val (.int p2), .val (.int ((p2 / (64 : Int32)) - (1 : Int32)))] [(.int ((p2 / (64 : Int32)) - (1 : Int32))), (.ref b5), (.int ((p2 / (64 : Int32)) - (1 : Int32))), (.ref b5)]))
  have fx12 := (fx6.other W9 (Ne.symm ne_a1_b5))
  refine Run.go (fun _ k => ary_lget X11 hx hZ e11 fx12 (j := ((p2 / (64 : Int32)) - (1 : Int32))) (own_ix _ hc3).2.1 (own_in2 _ hc3 hp).2.2.2 (g := (mkF m 77 #[.val (.ref a1), .val (.int p2), .val (.int ((p2 / (64 : Int32)) - (1 : Int32)))] [(.int ((p2 / (64 : Int32)) - (1 : Int32))), (.ref b5), (.int ((p2 / (64 : Int32)) - (1 : Int32))), (.ref b5)])) rfl rfl (hb hby d5_77) rfl _ k) ?_
  show Run p e below s 1 16 (Q_rm5b Z a1 p2 u_first_a1 h0 n0) (T11.setTop (mkF m 78 #[.val (.ref a1), .val (.int p2), .val (.int ((p2 / (64 : Int32)) - (1 : Int32)))] [(.long (0 : Int64)), (.int ((p2 / (64 : Int32)) - (1 : Int32))), (.ref b5)]))
  refine Run.go (fun _ k => XS.lconst X11.here hx rfl (hb hby d5_78) k) ?_
  show Run p e below s 1 16 (Q_rm5b Z a1 p2 u_first_a1 h0 n0) (T11.setTop (mkF m 79 #[.val (.ref a1), .val (.int p2), .val (.int ((p2 / (64 : Int32)) - (1 : Int32)))] [(.long (1 : Int64)), (.long (0 : Int64)), (.int ((p2 / (64 : Int32)) - (1 : Int32))), (.ref b5)]))
  refine Run.go (fun _ k => XS.iloadN X11.here hx rfl (hb hby d5_79) rfl  k) ?_
  show Run p e below s 1 16 (Q_rm5b Z a1 p2 u_first_a1 h0 n0) (T11.setTop (mkF m 80 #[.val (.ref a1), .val (.int p2), .val (.int ((p2 / (64 : Int32)) - (1 : Int32)))] [(.int p2), (.long (1 : Int64)), (.long (0 : Int64)), (.int ((p2 / (64 : Int32)) - (1 : Int32))), (.ref b5)]))
  refine Run.go (fun _ k => XS.lshl X11.here hx rfl (hb hby d5_80) rfl k) ?_
  show Run p e below s 1 16 (Q_rm5b Z a1 p2 u_first_a1 h0 n0) (T11.setTop (mkF m 81 #[.val (.ref a1), .val (.int p2), .val (.int ((p2 / (64 : Int32)) - (1 : Int32)))] [(.long ((1 : Int64) <<< (p2 &&& 0x3f).toInt64)), (.long (0 : Int64)), (.int ((p2 / (64 : Int32)) - (1 : Int32))), (.ref b5)]))
  refine Run.go (fun _ k => XS.lor X11.here hx rfl (hb hby d5_81) rfl k) ?_
  show Run p e below s 1 16 (Q_rm5b Z a1 p2 u_first_a1 h0 n0) (T11.setTop (mkF m 82 #[.val (.ref a1), .val (.int p2), .val (.int ((p2 / (64 : Int32)) - (1 : Int32)))] [(.long ((0 : Int64) ||| ((1 : Int64) <<< (p2 &&& 0x3f).toInt64))), (.int ((p2 / (64 : Int32)) - (1 : Int32))), (.ref b5)]))
  obtain ⟨T13, h13, X13, e13, W13, st13⟩ := ary_lset X11 hx hZ e11 fx12 (j := ((p2 / (64 : Int32)) - (1 : Int32))) (own_ix _ hc3).2.1 (own_in2 _ hc3 hp).2.2.2 (g := (mkF m 82 #[.val (.ref a1), .val (.int p2), .val (.int ((p2 / (64 : Int32)) - (1 : Int32)))] [(.long ((0 : Int64) ||| ((1 : Int64) <<< (p2 &&& 0x3f).toInt64))), (.int ((p2 / (64 : Int32)) - (1 : Int32))), (.ref b5)])) rfl rfl (hb hby d5_82)
  have N13 := Fr.snoc X13 Ng9 g_b5
  have Z13 : n0 ≤ h13.size := Nat.le_trans Z9 (Keep.of_wr W13).1
  have K13 : Keep h0 h13 [a1] := K9.wr W13 (Or.inr sz_b5)
  obtain ⟨Lg13, Xg13, Ng13⟩ := Stand_gen X13 N13
  have fx14 : Ary Z h13 b5 .long (((p2 / (64 : Int32)) - (1 : Int32)) + (1 : Int32)).toNatClampNeg (fun i => if i = ((p2 / (64 : Int32)) - (1 : Int32)).toNatClampNeg then (.long ((0 : Int64) ||| ((1 : Int64) <<< (p2 &&& 0x3f).toInt64))) else (fun _ => (.long (0 : Int64))) i) := fx12.same W13
  refine Run.go st13 ?_
  show Run p e below s 1 16 (Q_rm5b Z a1 p2 u_first_a1 h0 n0) (T13.setTop (mkF m 83 #[.val (.ref a1), .val (.int p2), .val (.int ((p2 / (64 : Int32)) - (1 : Int32)))] []))
  refine Run.ret0 Xg13 hx Bd.returns Bd.notSynchronized (hb hby d5_83) (by decide) (by decide) ?_
  show Q_rm5b Z a1 p2 u_first_a1 h0 n0 _ T13.heap _
  have fx15 := ((fx7.wr W9).wr W13)
  have fx16 := (fx10.other W13 (Or.inl ne_a1_b5))
  have fx17 := (((F_first_a1.ext E5).other W9 (Or.inr (slot_ne (Or.inl (hw _ (List.mem_of_getElem? (i := 19) rfl))) (Or.inl (hw _ (List.mem_of_getElem? (i := 26) rfl))) (by decide) (t := .long) (t' := (.array .long)) (by decide) (by decide)))).other W13 (Or.inl ne_a1_b5))
  rw [e13]
  exact ⟨b5, rfl, Ng13, K13, sz_b5, fx15, fx16, fx17, fx14⟩
theorem d5_33 : decode prog_57_method_3_code 33 = .ok (.iload_n 2, 1) := by decide +kernel
theorem d5_34 : decode prog_57_method_3_code 34 = .ok (.aload_n 0, 1) := by decide +kernel
theorem d5_35 : decode prog_57_method_3_code 35 = .ok (.getfield 13, 3) := by decide +kernel
theorem d5_38 : decode prog_57_method_3_code 38 = .ok (.arraylength, 1) := by decide +kernel
theorem d5_39 : decode prog_57_method_3_code 39 = .ok (.if_icmp .lt 32, 3) := by decide +kernel
def Q_rm5c (Z : State) (a1 : Addr) (p2 : Int32) (am : Addr) (n : Nat) (f : Nat → Value) (h0 : Heap) (n0 : Nat) (v : Option Value) (h : Heap) (L : List Loc) : Prop := v = none ∧ Fr n0 L ∧ Keep h0 h [am] ∧ ∃ xx : Int64, f (((p2 / (64 : Int32)) - (1 : Int32)).toNatClampNeg) = .long xx ∧ Ary Z h am .long n (fun i => if i = ((p2 / (64 : Int32)) - (1 : Int32)).toNatClampNeg then (.long (xx ||| ((1 : Int64) <<< (p2 &&& 0x3f).toInt64))) else f i)
theorem ef_rm5c (m : MethodId) (x0 : Addr) (x1 : Int32) : entryFrame m #[(.ref x0), (.int x1)] 3 = mkF m 0 #[.val (.ref x0), .val (.int x1), .unset] [] := by first | (simp [entryFrame, mkF, argsToLocals, Value.category]; done) | rfl
set_option maxRecDepth 65536 in
set_option maxHeartbeats 40000000 in
theorem rm5c (l : Launch) (Z : State) (a0 : Array Value) (hw : ∀ d ∈ tables_1, d.before a0 Z = true) (ws : List Jvm.Cond) (a1 : Addr) (p2 : Int32) (am : Addr) (n : Nat) (f : Nat → Value) (h0 : Heap) (n0 : Nat) (Z0 : n0 ≤ h0.size) (E_a1 : Exa Z h0 a1 "murmuration/Sources") (hp : ¬ (1023 : Int32) < p2) (F_more_a1 : Fld Z h0 a1 "murmuration/Sources" "more" "[J" (.ref am)) (A_am : Ary Z h0 am .long n f) (hn : n ≤ 15) (hL : ∀ i, i < n → ∃ x, f i = Value.long x) (hc3 : ¬ (p2 < (64 : Int32))) (hc39 : (((p2 / (64 : Int32)) - (1 : Int32)) < (n.toInt32))) (g_am : n0 ≤ am) :
    MetFree l (⟨"murmuration/Sources", "add", "(I)V"⟩ : MethodName) (head1 (Jvm.Cond.code (⟨"murmuration/Sources", "add", "(I)V"⟩ : MethodName) prog_57_method_3_code 3 none :: ws) ({ frames := 2, cells := 1, slots := 16, locals := 33 } : Room)) (fun a U => a = #[(.ref a1), (.int p2)] ∧ Z.Warmed39 U.vm ∧ U.heap = h0) (fun _ _ _ _ _ => True) (fun _ U o U' => ∃ v L, o = .returned v ∧ Q_rm5c Z a1 p2 am n f h0 n0 v U'.heap L ∧ FrameEnd U o U' L ({ frames := 2, cells := 1, slots := 16, locals := 33 } : Room).cells ({ frames := 2, cells := 1, slots := 16, locals := 33 } : Room).slots) := by
  refine MetFree.of_bodySF (plainFor_of_name pn_1) hisR ?_
  intro p e s m args below meth c s₁ Bd hml0 hP hK
  obtain ⟨rfl, hZ, hh⟩ := hP
  have hx := Bd.exec
  have hby := Bd.bytes
  have hml : c.maxLocals = 3 := hml0
  have hown : s.vm.findClass "murmuration/Sources" = some m.cls := findClass_of_methodNamed Bd.named
  have hnm := (name_of_methodNamed Bd.named Bd.method).1
  have X0 : Stand p l e ({ frames := 2, cells := 1, slots := 16, locals := 33 } : Room) s m #[(.ref a1), (.int p2)] below meth c s₁ [] 0 0 := Stand.of_body Bd
  have e0 : s₁.heap = h0 := by rw [← hh, Bd.state]; rfl
  have N0 := Fr.nil n0
  show Run p e below s 1 16 (Q_rm5c Z a1 p2 am n f h0 n0) (s₁.setTop (entryFrame m #[(.ref a1), (.int p2)] 3))
  refine Run.go (fun _ k => castTop (ef_rm5c m a1 p2) k) ?_
  show Run p e below s 1 16 (Q_rm5c Z a1 p2 am n f h0 n0) (s₁.setTop (mkF m 0 #[.val (.ref a1), .val (.int p2), .unset] []))
  refine Run.go (fun _ k => XS.iloadN X0.here hx rfl (hb hby d5_0) rfl  k) ?_
  show Run p e below s 1 16 (Q_rm5c Z a1 p2 am n f h0 n0) (s₁.setTop (mkF m 1 #[.val (.ref a1), .val (.int p2), .unset] [(.int p2)]))
  refine Run.go (fun _ k => XS.bipush X0.here hx rfl (hb hby d5_1) k) ?_
  show Run p e below s 1 16 (Q_rm5c Z a1 p2 am n f h0 n0) (s₁.setTop (mkF m 3 #[.val (.ref a1), .val (.int p2), .unset] [(.int (64 : Int32)), (.int p2)]))
  refine Run.go (fun _ k => XS.icmpYes X0.here hx rfl (pc0 := 3) (pc' := 19) rfl (hb hby d5_3) rfl (flt hc3).2.1 (by decide) (by decide) k) ?_
  show Run p e below s 1 16 (Q_rm5c Z a1 p2 am n f h0 n0) (s₁.setTop (mkF m 19 #[.val (.ref a1), .val (.int p2), .unset] []))
  refine Run.go (fun _ k => XS.iloadN X0.here hx rfl (hb hby d5_19) rfl  k) ?_
  show Run p e below s 1 16 (Q_rm5c Z a1 p2 am n f h0 n0) (s₁.setTop (mkF m 20 #[.val (.ref a1), .val (.int p2), .unset] [(.int p2)]))
  refine Run.go (fun _ k => XS.bipush X0.here hx rfl (hb hby d5_20) k) ?_
  show Run p e below s 1 16 (Q_rm5c Z a1 p2 am n f h0 n0) (s₁.setTop (mkF m 22 #[.val (.ref a1), .val (.int p2), .unset] [(.int (64 : Int32)), (.int p2)]))
  refine Run.go (fun _ k => XS.idiv X0.here hx rfl (hb hby d5_22) rfl (by decide) k) ?_
  show Run p e below s 1 16 (Q_rm5c Z a1 p2 am n f h0 n0) (s₁.setTop (mkF m 23 #[.val (.ref a1), .val (.int p2), .unset] [(.int (p2 / (64 : Int32)))]))
  refine Run.go (fun _ k => XS.iconst X0.here hx rfl (hb hby d5_23) k) ?_
  show Run p e below s 1 16 (Q_rm5c Z a1 p2 am n f h0 n0) (s₁.setTop (mkF m 24 #[.val (.ref a1), .val (.int p2), .unset] [(.int (1 : Int32)), (.int (p2 / (64 : Int32)))]))
  refine Run.go (fun _ k => XS.isub X0.here hx rfl (hb hby d5_24) rfl k) ?_
  show Run p e below s 1 16 (Q_rm5c Z a1 p2 am n f h0 n0) (s₁.setTop (mkF m 25 #[.val (.ref a1), .val (.int p2), .unset] [(.int ((p2 / (64 : Int32)) - (1 : Int32)))]))
  refine Run.go (fun _ k => XS.istoreN X0.here hx rfl (hb hby d5_25) rfl (l' := #[.val (.ref a1), .val (.int p2), .val (.int ((p2 / (64 : Int32)) - (1 : Int32)))]) rfl k) ?_
  show Run p e below s 1 16 (Q_rm5c Z a1 p2 am n f h0 n0) (s₁.setTop (mkF m 26 #[.val (.ref a1), .val (.int p2), .val (.int ((p2 / (64 : Int32)) - (1 : Int32)))] []))
  refine Run.go (fun _ k => XS.aloadN X0.here hx rfl (hb hby d5_26) rfl rfl k) ?_
  show Run p e below s 1 16 (Q_rm5c Z a1 p2 am n f h0 n0) (s₁.setTop (mkF m 27 #[.val (.ref a1), .val (.int p2), .val (.int ((p2 / (64 : Int32)) - (1 : Int32)))] [(.ref a1)]))
  obtain ⟨T3, X3, e3, st3⟩ := getF X0 hx hZ hown (host := "") (Or.inl (hw _ (List.mem_of_getElem? (i := 25) rfl))) Via.refl e0 F_more_a1 (g := (mkF m 27 #[.val (.ref a1), .val (.int p2), .val (.int ((p2 / (64 : Int32)) - (1 : Int32)))] [(.ref a1)])) rfl rfl (hb hby d5_27)
  refine Run.go st3 ?_
  show Run p e below s 1 16 (Q_rm5c Z a1 p2 am n f h0 n0) (T3.setTop (mkF m 30 #[.val (.ref a1), .val (.int p2), .val (.int ((p2 / (64 : Int32)) - (1 : Int32)))] [(.ref am)]))
  refine Run.go (fun _ k => XS.ifnullNo X3.here hx rfl (hb hby d5_30) rfl k) ?_
  show Run p e below s 1 16 (Q_rm5c Z a1 p2 am n f h0 n0) (T3.setTop (mkF m 33 #[.val (.ref a1), .val (.int p2), .val (.int ((p2 / (64 : Int32)) - (1 : Int32)))] []))
  refine Run.go (fun _ k => XS.iloadN X3.here hx rfl (hb hby d5_33) rfl  k) ?_
  show Run p e below s 1 16 (Q_rm5c Z a1 p2 am n f h0 n0) (T3.setTop (mkF m 34 #[.val (.ref a1), .val (.int p2), .val (.int ((p2 / (64 : Int32)) - (1 : Int32)))] [(.int ((p2 / (64 : Int32)) - (1 : Int32)))]))
  refine Run.go (fun _ k => XS.aloadN X3.here hx rfl (hb hby d5_34) rfl rfl k) ?_
  show Run p e below s 1 16 (Q_rm5c Z a1 p2 am n f h0 n0) (T3.setTop (mkF m 35 #[.val (.ref a1), .val (.int p2), .val (.int ((p2 / (64 : Int32)) - (1 : Int32)))] [(.ref a1), (.int ((p2 / (64 : Int32)) - (1 : Int32)))]))
  obtain ⟨T4, X4, e4, st4⟩ := getF X3 hx hZ hown (host := "") (Or.inl (hw _ (List.mem_of_getElem? (i := 25) rfl))) Via.refl e3 F_more_a1 (g := (mkF m 35 #[.val (.ref a1), .val (.int p2), .val (.int ((p2 / (64 : Int32)) - (1 : Int32)))] [(.ref a1), (.int ((p2 / (64 : Int32)) - (1 : Int32)))])) rfl rfl (hb hby d5_35)
  refine Run.go st4 ?_
  show Run p e below s 1 16 (Q_rm5c Z a1 p2 am n f h0 n0) (T4.setTop (mkF m 38 #[.val (.ref a1), .val (.int p2), .val (.int ((p2 / (64 : Int32)) - (1 : Int32)))] [(.ref am), (.int ((p2 / (64 : Int32)) - (1 : Int32)))]))
  refine Run.go (fun _ k => ary_len X4 hx hZ e4 A_am (g := (mkF m 38 #[.val (.ref a1), .val (.int p2), .val (.int ((p2 / (64 : Int32)) - (1 : Int32)))] [(.ref am), (.int ((p2 / (64 : Int32)) - (1 : Int32)))])) rfl rfl (hb hby d5_38) (z := (n.toInt32)) rfl _ k) ?_
  show Run p e below s 1 16 (Q_rm5c Z a1 p2 am n f h0 n0) (T4.setTop (mkF m 39 #[.val (.ref a1), .val (.int p2), .val (.int ((p2 / (64 : Int32)) - (1 : Int32)))] [(.int (n.toInt32)), (.int ((p2 / (64 : Int32)) - (1 : Int32)))]))
  refine Run.go (fun _ k => XS.icmpYes X4.here hx rfl (pc0 := 39) (pc' := 71) rfl (hb hby d5_39) rfl (tlt hc39).1 (by decide) (by decide) k) ?_
  show Run p e below s 1 16 (Q_rm5c Z a1 p2 am n f h0 n0) (T4.setTop (mkF m 71 #[.val (.ref a1), .val (.int p2), .val (.int ((p2 / (64 : Int32)) - (1 : Int32)))] []))
  refine Run.go (fun _ k => XS.aloadN X4.here hx rfl (hb hby d5_71) rfl rfl k) ?_
  show Run p e below s 1 16 (Q_rm5c Z a1 p2 am n f h0 n0) (T4.setTop (mkF m 72 #[.val (.ref a1), .val (.int p2), .val (.int ((p2 / (64 : Int32)) - (1 : Int32)))] [(.ref a1)]))
  obtain ⟨T5, X5, e5, st5⟩ := getF X4 hx hZ hown (host := "") (Or.inl (hw _ (List.mem_of_getElem? (i := 25) rfl))) Via.refl e4 F_more_a1 (g := (mkF m 72 #[.val (.ref a1), .val (.int p2), .val (.int ((p2 / (64 : Int32)) - (1 : Int32)))] [(.ref a1)])) rfl rfl (hb hby d5_72)
  refine Run.go st5 ?_
  show Run p e below s 1 16 (Q_rm5c Z a1 p2 am n f h0 n0) (T5.setTop (mkF m 75 #[.val (.ref a1), .val (.int p2), .val (.int ((p2 / (64 : Int32)) - (1 : Int32)))] [(.ref am)]))
  refine Run.go (fun _ k => XS.iloadN X5.here hx rfl (hb hby d5_75) rfl  k) ?_
  show Run p e below s 1 16 (Q_rm5c Z a1 p2 am n f h0 n0) (T5.setTop (mkF m 76 #[.val (.ref a1), .val (.int p2), .val (.int ((p2 / (64 : Int32)) - (1 : Int32)))] [(.int ((p2 / (64 : Int32)) - (1 : Int32))), (.ref am)]))
  refine Run.go (S' := T5.setTop (mkF m 77 #[.val (.ref a1), .val (.int p2), .val (.int ((p2 / (64 : Int32)) - (1 : Int32)))] [(.int ((p2 / (64 : Int32)) - (1 : Int32))), (.ref am), (.int ((p2 / (64 : Int32)) - (1 : Int32))), (.ref am)])) (fun _ k => ?_) ?_
  · show Steps p.tables e below (T5.setTop (mkF m 76 #[.val (.ref a1), .val (.int p2), .val (.int ((p2 / (64 : Int32)) - (1 : Int32)))] [(.int ((p2 / (64 : Int32)) - (1 : Int32))), (.ref am)])) _
    jvm_step X5.here [X5.here.top, hx, (hb hby d5_76), Value.category]
    exact k
  show Run p e below s 1 16 (Q_rm5c Z a1 p2 am n f h0 n0) (T5.setTop (mkF m 77 #[.val (.ref a1), .val (.int p2), .val (.int ((p2 / (64 : Int32)) - (1 : Int32)))] [(.int ((p2 / (64 : Int32)) - (1 : Int32))), (.ref am), (.int ((p2 / (64 : Int32)) - (1 : Int32))), (.ref am)]))
  obtain ⟨xx, hxx⟩ := hL _ ((own_ltn (own_ix _ hc3).2.1 (by omega)).mp hc39)
  refine Run.go (fun _ k => ary_lget X5 hx hZ e5 A_am (j := ((p2 / (64 : Int32)) - (1 : Int32))) (own_ix _ hc3).2.1 ((own_ltn (own_ix _ hc3).2.1 (by omega)).mp hc39) (g := (mkF m 77 #[.val (.ref a1), .val (.int p2), .val (.int ((p2 / (64 : Int32)) - (1 : Int32)))] [(.int ((p2 / (64 : Int32)) - (1 : Int32))), (.ref am), (.int ((p2 / (64 : Int32)) - (1 : Int32))), (.ref am)])) rfl rfl (hb hby d5_77) hxx _ k) ?_
  show Run p e below s 1 16 (Q_rm5c Z a1 p2 am n f h0 n0) (T5.setTop (mkF m 78 #[.val (.ref a1), .val (.int p2), .val (.int ((p2 / (64 : Int32)) - (1 : Int32)))] [(.long xx), (.int ((p2 / (64 : Int32)) - (1 : Int32))), (.ref am)]))
  refine Run.go (fun _ k => XS.lconst X5.here hx rfl (hb hby d5_78) k) ?_
  show Run p e below s 1 16 (Q_rm5c Z a1 p2 am n f h0 n0) (T5.setTop (mkF m 79 #[.val (.ref a1), .val (.int p2), .val (.int ((p2 / (64 : Int32)) - (1 : Int32)))] [(.long (1 : Int64)), (.long xx), (.int ((p2 / (64 : Int32)) - (1 : Int32))), (.ref am)]))
  refine Run.go (fun _ k => XS.iloadN X5.here hx rfl (hb hby d5_79) rfl  k) ?_
  show Run p e below s 1 16 (Q_rm5c Z a1 p2 am n f h0 n0) (T5.setTop (mkF m 80 #[.val (.ref a1), .val (.int p2), .val (.int ((p2 / (64 : Int32)) - (1 : Int32)))] [(.int p2), (.long (1 : Int64)), (.long xx), (.int ((p2 / (64 : Int32)) - (1 : Int32))), (.ref am)]))
  refine Run.go (fun _ k => XS.lshl X5.here hx rfl (hb hby d5_80) rfl k) ?_
  show Run p e below s 1 16 (Q_rm5c Z a1 p2 am n f h0 n0) (T5.setTop (mkF m 81 #[.val (.ref a1), .val (.int p2), .val (.int ((p2 / (64 : Int32)) - (1 : Int32)))] [(.long ((1 : Int64) <<< (p2 &&& 0x3f).toInt64)), (.long xx), (.int ((p2 / (64 : Int32)) - (1 : Int32))), (.ref am)]))
  refine Run.go (fun _ k => XS.lor X5.here hx rfl (hb hby d5_81) rfl k) ?_
  show Run p e below s 1 16 (Q_rm5c Z a1 p2 am n f h0 n0) (T5.setTop (mkF m 82 #[.val (.ref a1), .val (.int p2), .val (.int ((p2 / (64 : Int32)) - (1 : Int32)))] [(.long (xx ||| ((1 : Int64) <<< (p2 &&& 0x3f).toInt64))), (.int ((p2 / (64 : Int32)) - (1 : Int32))), (.ref am)]))
  obtain ⟨T6, h6, X6, e6, W6, st6⟩ := ary_lset X5 hx hZ e5 A_am (j := ((p2 / (64 : Int32)) - (1 : Int32))) (own_ix _ hc3).2.1 ((own_ltn (own_ix _ hc3).2.1 (by omega)).mp hc39) (g := (mkF m 82 #[.val (.ref a1), .val (.int p2), .val (.int ((p2 / (64 : Int32)) - (1 : Int32)))] [(.long (xx ||| ((1 : Int64) <<< (p2 &&& 0x3f).toInt64))), (.int ((p2 / (64 : Int32)) - (1 : Int32))), (.ref am)])) rfl rfl (hb hby d5_82)
  have N6 := Fr.snoc X6 N0 g_am
  have Z6 : n0 ≤ h6.size := Nat.le_trans Z0 (Keep.of_wr W6).1
  have K6 : Keep h0 h6 [am] := (Keep.refl h0 [am]).wr W6 (Or.inl (List.mem_of_getElem? (i := 0) rfl))
  obtain ⟨Lg6, Xg6, Ng6⟩ := Stand_gen X6 N6
  have fx7 : Ary Z h6 am .long n (fun i => if i = ((p2 / (64 : Int32)) - (1 : Int32)).toNatClampNeg then (.long (xx ||| ((1 : Int64) <<< (p2 &&& 0x3f).toInt64))) else f i) := A_am.same W6
  refine Run.go st6 ?_
  show Run p e below s 1 16 (Q_rm5c Z a1 p2 am n f h0 n0) (T6.setTop (mkF m 83 #[.val (.ref a1), .val (.int p2), .val (.int ((p2 / (64 : Int32)) - (1 : Int32)))] []))
  refine Run.ret0 Xg6 hx Bd.returns Bd.notSynchronized (hb hby d5_83) (by decide) (by decide) ?_
  show Q_rm5c Z a1 p2 am n f h0 n0 _ T6.heap _
  rw [e6]
  exact ⟨rfl, Ng6, K6, xx, hxx, fx7⟩
theorem d5_58 : decode prog_57_method_3_code 58 = .ok (.aload_n 0, 1) := by decide +kernel
theorem d5_59 : decode prog_57_method_3_code 59 = .ok (.getfield 13, 3) := by decide +kernel
theorem d5_62 : decode prog_57_method_3_code 62 = .ok (.iload_n 2, 1) := by decide +kernel
theorem d5_63 : decode prog_57_method_3_code 63 = .ok (.iconst 1, 1) := by decide +kernel
theorem d5_64 : decode prog_57_method_3_code 64 = .ok (.iadd, 1) := by decide +kernel
theorem d5_65 : decode prog_57_method_3_code 65 = .ok (.invokestatic 17, 3) := by decide +kernel
theorem pd_1 : parseMethodDescriptor "([JI)[J" = some ⟨[(.array .long), .int], some (.array .long)⟩ := by decide +kernel
def Q_rm5d (Z : State) (a1 : Addr) (p2 : Int32) (am : Addr) (n : Nat) (f : Nat → Value) (u_first_a1 : Value) (h0 : Heap) (n0 : Nat) (v : Option Value) (h : Heap) (L : List Loc) : Prop := ∃ (b8 : Addr), v = none ∧ Fr n0 L ∧ Keep h0 h [a1] ∧ h0.size ≤ b8 ∧ Exa Z h a1 "murmuration/Sources" ∧ Fld Z h a1 "murmuration/Sources" "more" "[J" (.ref b8) ∧ Fld Z h a1 "murmuration/Sources" "first" "J" u_first_a1 ∧ Ary Z h b8 .long (((p2 / (64 : Int32)) - (1 : Int32)) + (1 : Int32)).toNatClampNeg (fun i => if i = ((p2 / (64 : Int32)) - (1 : Int32)).toNatClampNeg then (.long ((0 : Int64) ||| ((1 : Int64) <<< (p2 &&& 0x3f).toInt64))) else (fun i => if i < n then f i else (.long (0 : Int64))) i)
theorem ef_rm5d (m : MethodId) (x0 : Addr) (x1 : Int32) : entryFrame m #[(.ref x0), (.int x1)] 3 = mkF m 0 #[.val (.ref x0), .val (.int x1), .unset] [] := by first | (simp [entryFrame, mkF, argsToLocals, Value.category]; done) | rfl
set_option maxRecDepth 65536 in
set_option maxHeartbeats 40000000 in
theorem rm5d (l : Launch) (Z : State) (a0 : Array Value) (hw : ∀ d ∈ tables_1, d.before a0 Z = true) (ws : List Jvm.Cond) (a1 : Addr) (p2 : Int32) (am : Addr) (n : Nat) (f : Nat → Value) (u_first_a1 : Value) (h0 : Heap) (n0 : Nat) (Z0 : n0 ≤ h0.size) (E_a1 : Exa Z h0 a1 "murmuration/Sources") (hp : ¬ (1023 : Int32) < p2) (F_more_a1 : Fld Z h0 a1 "murmuration/Sources" "more" "[J" (.ref am)) (A_am : Ary Z h0 am .long n f) (hn : n ≤ 15) (hL : ∀ i, i < n → ∃ x, f i = Value.long x) (hc3 : ¬ (p2 < (64 : Int32))) (hc39 : ¬ (((p2 / (64 : Int32)) - (1 : Int32)) < (n.toInt32))) (g_a1 : n0 ≤ a1) (F_first_a1 : Fld Z h0 a1 "murmuration/Sources" "first" "J" u_first_a1) :
    MetFree l (⟨"murmuration/Sources", "add", "(I)V"⟩ : MethodName) (head1 (Jvm.Cond.code (⟨"murmuration/Sources", "add", "(I)V"⟩ : MethodName) prog_57_method_3_code 3 none :: ws) ({ frames := 2, cells := 1, slots := 16, locals := 33 } : Room)) (fun a U => a = #[(.ref a1), (.int p2)] ∧ Z.Warmed39 U.vm ∧ U.heap = h0) (fun _ _ _ _ _ => True) (fun _ U o U' => ∃ v L, o = .returned v ∧ Q_rm5d Z a1 p2 am n f u_first_a1 h0 n0 v U'.heap L ∧ FrameEnd U o U' L ({ frames := 2, cells := 1, slots := 16, locals := 33 } : Room).cells ({ frames := 2, cells := 1, slots := 16, locals := 33 } : Room).slots) := by
  refine MetFree.of_bodySF (plainFor_of_name pn_1) hisR ?_
  intro p e s m args below meth c s₁ Bd hml0 hP hK
  obtain ⟨rfl, hZ, hh⟩ := hP
  have hx := Bd.exec
  have hby := Bd.bytes
  have hml : c.maxLocals = 3 := hml0
  have hown : s.vm.findClass "murmuration/Sources" = some m.cls := findClass_of_methodNamed Bd.named
  have hnm := (name_of_methodNamed Bd.named Bd.method).1
  have X0 : Stand p l e ({ frames := 2, cells := 1, slots := 16, locals := 33 } : Room) s m #[(.ref a1), (.int p2)] below meth c s₁ [] 0 0 := Stand.of_body Bd
  have e0 : s₁.heap = h0 := by rw [← hh, Bd.state]; rfl
  have N0 := Fr.nil n0
  show Run p e below s 1 16 (Q_rm5d Z a1 p2 am n f u_first_a1 h0 n0) (s₁.setTop (entryFrame m #[(.ref a1), (.int p2)] 3))
  refine Run.go (fun _ k => castTop (ef_rm5d m a1 p2) k) ?_
  show Run p e below s 1 16 (Q_rm5d Z a1 p2 am n f u_first_a1 h0 n0) (s₁.setTop (mkF m 0 #[.val (.ref a1), .val (.int p2), .unset] []))
  refine Run.go (fun _ k => XS.iloadN X0.here hx rfl (hb hby d5_0) rfl  k) ?_
  show Run p e below s 1 16 (Q_rm5d Z a1 p2 am n f u_first_a1 h0 n0) (s₁.setTop (mkF m 1 #[.val (.ref a1), .val (.int p2), .unset] [(.int p2)]))
  refine Run.go (fun _ k => XS.bipush X0.here hx rfl (hb hby d5_1) k) ?_
  show Run p e below s 1 16 (Q_rm5d Z a1 p2 am n f u_first_a1 h0 n0) (s₁.setTop (mkF m 3 #[.val (.ref a1), .val (.int p2), .unset] [(.int (64 : Int32)), (.int p2)]))
  refine Run.go (fun _ k => XS.icmpYes X0.here hx rfl (pc0 := 3) (pc' := 19) rfl (hb hby d5_3) rfl (flt hc3).2.1 (by decide) (by decide) k) ?_
  show Run p e below s 1 16 (Q_rm5d Z a1 p2 am n f u_first_a1 h0 n0) (s₁.setTop (mkF m 19 #[.val (.ref a1), .val (.int p2), .unset] []))
  refine Run.go (fun _ k => XS.iloadN X0.here hx rfl (hb hby d5_19) rfl  k) ?_
  show Run p e below s 1 16 (Q_rm5d Z a1 p2 am n f u_first_a1 h0 n0) (s₁.setTop (mkF m 20 #[.val (.ref a1), .val (.int p2), .unset] [(.int p2)]))
  refine Run.go (fun _ k => XS.bipush X0.here hx rfl (hb hby d5_20) k) ?_
  show Run p e below s 1 16 (Q_rm5d Z a1 p2 am n f u_first_a1 h0 n0) (s₁.setTop (mkF m 22 #[.val (.ref a1), .val (.int p2), .unset] [(.int (64 : Int32)), (.int p2)]))
  refine Run.go (fun _ k => XS.idiv X0.here hx rfl (hb hby d5_22) rfl (by decide) k) ?_
  show Run p e below s 1 16 (Q_rm5d Z a1 p2 am n f u_first_a1 h0 n0) (s₁.setTop (mkF m 23 #[.val (.ref a1), .val (.int p2), .unset] [(.int (p2 / (64 : Int32)))]))
  refine Run.go (fun _ k => XS.iconst X0.here hx rfl (hb hby d5_23) k) ?_
  show Run p e below s 1 16 (Q_rm5d Z a1 p2 am n f u_first_a1 h0 n0) (s₁.setTop (mkF m 24 #[.val (.ref a1), .val (.int p2), .unset] [(.int (1 : Int32)), (.int (p2 / (64 : Int32)))]))
  refine Run.go (fun _ k => XS.isub X0.here hx rfl (hb hby d5_24) rfl k) ?_
  show Run p e below s 1 16 (Q_rm5d Z a1 p2 am n f u_first_a1 h0 n0) (s₁.setTop (mkF m 25 #[.val (.ref a1), .val (.int p2), .unset] [(.int ((p2 / (64 : Int32)) - (1 : Int32)))]))
  refine Run.go (fun _ k => XS.istoreN X0.here hx rfl (hb hby d5_25) rfl (l' := #[.val (.ref a1), .val (.int p2), .val (.int ((p2 / (64 : Int32)) - (1 : Int32)))]) rfl k) ?_
  show Run p e below s 1 16 (Q_rm5d Z a1 p2 am n f u_first_a1 h0 n0) (s₁.setTop (mkF m 26 #[.val (.ref a1), .val (.int p2), .val (.int ((p2 / (64 : Int32)) - (1 : Int32)))] []))
  refine Run.go (fun _ k => XS.aloadN X0.here hx rfl (hb hby d5_26) rfl rfl k) ?_
  show Run p e below s 1 16 (Q_rm5d Z a1 p2 am n f u_first_a1 h0 n0) (s₁.setTop (mkF m 27 #[.val (.ref a1), .val (.int p2), .val (.int ((p2 / (64 : Int32)) - (1 : Int32)))] [(.ref a1)]))
  obtain ⟨T3, X3, e3, st3⟩ := getF X0 hx hZ hown (host := "") (Or.inl (hw _ (List.mem_of_getElem? (i := 25) rfl))) Via.refl e0 F_more_a1 (g := (mkF m 27 #[.val (.ref a1), .val (.int p2), .val (.int ((p2 / (64 : Int32)) - (1 : Int32)))] [(.ref a1)])) rfl rfl (hb hby d5_27)
  refine Run.go st3 ?_
  show Run p e below s 1 16 (Q_rm5d Z a1 p2 am n f u_first_a1 h0 n0) (T3.setTop (mkF m 30 #[.val (.ref a1), .val (.int p2), .val (.int ((p2 / (64 : Int32)) - (1 : Int32)))] [(.ref am)]))
  refine Run.go (fun _ k => XS.ifnullNo X3.here hx rfl (hb hby d5_30) rfl k) ?_
  show Run p e below s 1 16 (Q_rm5d Z a1 p2 am n f u_first_a1 h0 n0) (T3.setTop (mkF m 33 #[.val (.ref a1), .val (.int p2), .val (.int ((p2 / (64 : Int32)) - (1 : Int32)))] []))
  refine Run.go (fun _ k => XS.iloadN X3.here hx rfl (hb hby d5_33) rfl  k) ?_
  show Run p e below s 1 16 (Q_rm5d Z a1 p2 am n f u_first_a1 h0 n0) (T3.setTop (mkF m 34 #[.val (.ref a1), .val (.int p2), .val (.int ((p2 / (64 : Int32)) - (1 : Int32)))] [(.int ((p2 / (64 : Int32)) - (1 : Int32)))]))
  refine Run.go (fun _ k => XS.aloadN X3.here hx rfl (hb hby d5_34) rfl rfl k) ?_
  show Run p e below s 1 16 (Q_rm5d Z a1 p2 am n f u_first_a1 h0 n0) (T3.setTop (mkF m 35 #[.val (.ref a1), .val (.int p2), .val (.int ((p2 / (64 : Int32)) - (1 : Int32)))] [(.ref a1), (.int ((p2 / (64 : Int32)) - (1 : Int32)))]))
  obtain ⟨T4, X4, e4, st4⟩ := getF X3 hx hZ hown (host := "") (Or.inl (hw _ (List.mem_of_getElem? (i := 25) rfl))) Via.refl e3 F_more_a1 (g := (mkF m 35 #[.val (.ref a1), .val (.int p2), .val (.int ((p2 / (64 : Int32)) - (1 : Int32)))] [(.ref a1), (.int ((p2 / (64 : Int32)) - (1 : Int32)))])) rfl rfl (hb hby d5_35)
  refine Run.go st4 ?_
  show Run p e below s 1 16 (Q_rm5d Z a1 p2 am n f u_first_a1 h0 n0) (T4.setTop (mkF m 38 #[.val (.ref a1), .val (.int p2), .val (.int ((p2 / (64 : Int32)) - (1 : Int32)))] [(.ref am), (.int ((p2 / (64 : Int32)) - (1 : Int32)))]))
  refine Run.go (fun _ k => ary_len X4 hx hZ e4 A_am (g := (mkF m 38 #[.val (.ref a1), .val (.int p2), .val (.int ((p2 / (64 : Int32)) - (1 : Int32)))] [(.ref am), (.int ((p2 / (64 : Int32)) - (1 : Int32)))])) rfl rfl (hb hby d5_38) (z := (n.toInt32)) rfl _ k) ?_
  show Run p e below s 1 16 (Q_rm5d Z a1 p2 am n f u_first_a1 h0 n0) (T4.setTop (mkF m 39 #[.val (.ref a1), .val (.int p2), .val (.int ((p2 / (64 : Int32)) - (1 : Int32)))] [(.int (n.toInt32)), (.int ((p2 / (64 : Int32)) - (1 : Int32)))]))
  refine Run.go (fun _ k => XS.icmpNo X4.here hx rfl (hb hby d5_39) rfl (flt hc39).1 k) ?_
  show Run p e below s 1 16 (Q_rm5d Z a1 p2 am n f u_first_a1 h0 n0) (T4.setTop (mkF m 42 #[.val (.ref a1), .val (.int p2), .val (.int ((p2 / (64 : Int32)) - (1 : Int32)))] []))
  refine Run.go (fun _ k => XS.aloadN X4.here hx rfl (hb hby d5_42) rfl rfl k) ?_
  show Run p e below s 1 16 (Q_rm5d Z a1 p2 am n f u_first_a1 h0 n0) (T4.setTop (mkF m 43 #[.val (.ref a1), .val (.int p2), .val (.int ((p2 / (64 : Int32)) - (1 : Int32)))] [(.ref a1)]))
  refine Run.go (fun _ k => XS.aloadN X4.here hx rfl (hb hby d5_43) rfl rfl k) ?_
  show Run p e below s 1 16 (Q_rm5d Z a1 p2 am n f u_first_a1 h0 n0) (T4.setTop (mkF m 44 #[.val (.ref a1), .val (.int p2), .val (.int ((p2 / (64 : Int32)) - (1 : Int32)))] [(.ref a1), (.ref a1)]))
  obtain ⟨T5, X5, e5, st5⟩ := getF X4 hx hZ hown (host := "") (Or.inl (hw _ (List.mem_of_getElem? (i := 25) rfl))) Via.refl e4 F_more_a1 (g := (mkF m 44 #[.val (.ref a1), .val (.int p2), .val (.int ((p2 / (64 : Int32)) - (1 : Int32)))] [(.ref a1), (.ref a1)])) rfl rfl (hb hby d5_44)
  refine Run.go st5 ?_
  show Run p e below s 1 16 (Q_rm5d Z a1 p2 am n f u_first_a1 h0 n0) (T5.setTop (mkF m 47 #[.val (.ref a1), .val (.int p2), .val (.int ((p2 / (64 : Int32)) - (1 : Int32)))] [(.ref am), (.ref a1)]))
  refine Run.go (fun _ k => XS.ifnonnullYes X5.here hx rfl (pc0 := 47) (pc' := 58) rfl (hb hby d5_47) rfl (by decide) (by decide) k) ?_
  show Run p e below s 1 16 (Q_rm5d Z a1 p2 am n f u_first_a1 h0 n0) (T5.setTop (mkF m 58 #[.val (.ref a1), .val (.int p2), .val (.int ((p2 / (64 : Int32)) - (1 : Int32)))] [(.ref a1)]))
  refine Run.go (fun _ k => XS.aloadN X5.here hx rfl (hb hby d5_58) rfl rfl k) ?_
  show Run p e below s 1 16 (Q_rm5d Z a1 p2 am n f u_first_a1 h0 n0) (T5.setTop (mkF m 59 #[.val (.ref a1), .val (.int p2), .val (.int ((p2 / (64 : Int32)) - (1 : Int32)))] [(.ref a1), (.ref a1)]))
  obtain ⟨T6, X6, e6, st6⟩ := getF X5 hx hZ hown (host := "") (Or.inl (hw _ (List.mem_of_getElem? (i := 25) rfl))) Via.refl e5 F_more_a1 (g := (mkF m 59 #[.val (.ref a1), .val (.int p2), .val (.int ((p2 / (64 : Int32)) - (1 : Int32)))] [(.ref a1), (.ref a1)])) rfl rfl (hb hby d5_59)
  refine Run.go st6 ?_
  show Run p e below s 1 16 (Q_rm5d Z a1 p2 am n f u_first_a1 h0 n0) (T6.setTop (mkF m 62 #[.val (.ref a1), .val (.int p2), .val (.int ((p2 / (64 : Int32)) - (1 : Int32)))] [(.ref am), (.ref a1)]))
  refine Run.go (fun _ k => XS.iloadN X6.here hx rfl (hb hby d5_62) rfl  k) ?_
  show Run p e below s 1 16 (Q_rm5d Z a1 p2 am n f u_first_a1 h0 n0) (T6.setTop (mkF m 63 #[.val (.ref a1), .val (.int p2), .val (.int ((p2 / (64 : Int32)) - (1 : Int32)))] [(.int ((p2 / (64 : Int32)) - (1 : Int32))), (.ref am), (.ref a1)]))
  refine Run.go (fun _ k => XS.iconst X6.here hx rfl (hb hby d5_63) k) ?_
  show Run p e below s 1 16 (Q_rm5d Z a1 p2 am n f u_first_a1 h0 n0) (T6.setTop (mkF m 64 #[.val (.ref a1), .val (.int p2), .val (.int ((p2 / (64 : Int32)) - (1 : Int32)))] [(.int (1 : Int32)), (.int ((p2 / (64 : Int32)) - (1 : Int32))), (.ref am), (.ref a1)]))
  refine Run.go (fun _ k => XS.iadd X6.here hx rfl (hb hby d5_64) rfl k) ?_
  show Run p e below s 1 16 (Q_rm5d Z a1 p2 am n f u_first_a1 h0 n0) (T6.setTop (mkF m 65 #[.val (.ref a1), .val (.int p2), .val (.int ((p2 / (64 : Int32)) - (1 : Int32)))] [(.int (((p2 / (64 : Int32)) - (1 : Int32)) + (1 : Int32))), (.ref am), (.ref a1)]))
  obtain ⟨_, _, ⟨T7, L7, k7, n7⟩, -, X7, ⟨Lc7, hQ7, l7, y7, z7⟩, st7⟩ := Jvm.LawKit.callS X6 hx (y := (⟨"java/util/Arrays", "copyOf", "([JI)[J"⟩ : MethodName)) hown (mvT hZ (hw _ (List.mem_of_getElem? (i := 28) rfl))) (mvT hZ (hw _ (List.mem_of_getElem? (i := 29) rfl))) (mvT hZ (hw _ (List.mem_of_getElem? (i := 30) rfl))) (mvT hZ (hw _ (List.mem_of_getElem? (i := 31) rfl))) (by decide) (backOf (W := 1) (rm6 l Z a0 hw [] am (((p2 / (64 : Int32)) - (1 : Int32)) + (1 : Int32)) n f h0 n0 Z0 A_am (own_in2 _ hc3 hp).1 (by rw [(own_in2 _ hc3 hp).2.1]; have := (own_in2 _ hc3 hp).2.2.1; omega) hn (by have := mt (own_ltn (own_ix _ hc3).2.1 (by omega)).mpr hc39; have := (own_in2 _ hc3 hp).2.2.2; omega) hL) hZ (hw _ (List.mem_of_getElem? (i := 31) rfl)) (hw _ (List.mem_of_getElem? (i := 30) rfl)) (by decide) (by decide)) (g := (mkF m 65 #[.val (.ref a1), .val (.int p2), .val (.int ((p2 / (64 : Int32)) - (1 : Int32)))] [(.int (((p2 / (64 : Int32)) - (1 : Int32)) + (1 : Int32))), (.ref am), (.ref a1)])) rfl (by rw [hml]; rfl) (argsL := [(.ref am), (.int (((p2 / (64 : Int32)) - (1 : Int32)) + (1 : Int32)))]) (rest := [(.ref a1)]) (lenOf pd_1 rfl) rfl (by show 2 * 0 + _ ≤ _; exact Nat.le_of_eq rfl) (hb hby d5_65) (fun _ _ => ⟨rfl, e6, (by decide : 0 + 1 ≤ _), (by decide : 0 + 16 ≤ _)⟩)
  dsimp only [Pt.U, Pt.locs, Pt.cells, Pt.slots] at X7 l7 y7 z7 st7 hQ7
  subst l7 y7 z7
  obtain ⟨b8, rfl, N7q, K7q, s_b8, fq7_0⟩ := hQ7
  have N7 := Fr.app N0 N7q
  have K7 : Keep h0 T7.heap [a1] := (Keep.refl h0 [a1]).trans K7q all0
  have g_b8 : n0 ≤ b8 := Nat.le_trans Z0 s_b8
  have sz_b8 : h0.size ≤ b8 := Nat.le_trans (Keep.refl h0 [a1]).1 s_b8
  have ne_a1_b8 : a1 ≠ b8 := Nat.ne_of_lt (Nat.lt_of_lt_of_le E_a1.lt s_b8)
  have ne_am_b8 : am ≠ b8 := Nat.ne_of_lt (Nat.lt_of_lt_of_le A_am.lt s_b8)
  have Z7 : n0 ≤ T7.heap.size := Nat.le_trans Z0 K7q.1
  obtain ⟨Lg7, Xg7, Ng7⟩ := Stand_gen X7 N7
  refine Run.go st7 ?_
  show Run p e below s 1 16 (Q_rm5d Z a1 p2 am n f u_first_a1 h0 n0) (T7.setTop (mkF m 68 #[.val (.ref a1), .val (.int p2), .val (.int ((p2 / (64 : Int32)) - (1 : Int32)))] [(.ref b8), (.ref a1)]))
  have fx9 := (E_a1.keep K7q)
  have fx10 := (F_more_a1.keep K7q nin0)
  obtain ⟨T11, h11, X11, e11, W11, st11⟩ := putF Xg7 hx hZ hown (host := "") (Or.inl (hw _ (List.mem_of_getElem? (i := 25) rfl))) Via.refl rfl fx10 fx9 (Or.inl (hw _ (List.mem_of_getElem? (i := 26) rfl))) (hw _ (List.mem_of_getElem? (i := 5) rfl)) (ty := (.array .long)) (by decide) rfl rfl (g := (mkF m 68 #[.val (.ref a1), .val (.int p2), .val (.int ((p2 / (64 : Int32)) - (1 : Int32)))] [(.ref b8), (.ref a1)])) rfl rfl (hb hby d5_68)
  have N11 := Fr.snoc X11 Ng7 g_a1
  have Z11 : n0 ≤ h11.size := Nat.le_trans Z7 (Keep.of_wr W11).1
  have K11 : Keep h0 h11 [a1] := K7.wr W11 (Or.inl (List.mem_of_getElem? (i := 0) rfl))
  obtain ⟨Lg11, Xg11, Ng11⟩ := Stand_gen X11 N11
  have fx12 := fx10.same W11
  refine Run.go st11 ?_
  show Run p e below s 1 16 (Q_rm5d Z a1 p2 am n f u_first_a1 h0 n0) (T11.setTop (mkF m 71 #[.val (.ref a1), .val (.int p2), .val (.int ((p2 / (64 : Int32)) - (1 : Int32)))] []))
  refine Run.go (fun _ k => XS.aloadN Xg11.here hx rfl (hb hby d5_71) rfl rfl k) ?_
  show Run p e below s 1 16 (Q_rm5d Z a1 p2 am n f u_first_a1 h0 n0) (T11.setTop (mkF m 72 #[.val (.ref a1), .val (.int p2), .val (.int ((p2 / (64 : Int32)) - (1 : Int32)))] [(.ref a1)]))
  obtain ⟨T13, X13, e13, st13⟩ := getF Xg11 hx hZ hown (host := "") (Or.inl (hw _ (List.mem_of_getElem? (i := 25) rfl))) Via.refl e11 fx12 (g := (mkF m 72 #[.val (.ref a1), .val (.int p2), .val (.int ((p2 / (64 : Int32)) - (1 : Int32)))] [(.ref a1)])) rfl rfl (hb hby d5_72)
  refine Run.go st13 ?_
  show Run p e below s 1 16 (Q_rm5d Z a1 p2 am n f u_first_a1 h0 n0) (T13.setTop (mkF m 75 #[.val (.ref a1), .val (.int p2), .val (.int ((p2 / (64 : Int32)) - (1 : Int32)))] [(.ref b8)]))
  refine Run.go (fun _ k => XS.iloadN X13.here hx rfl (hb hby d5_75) rfl  k) ?_
  show Run p e below s 1 16 (Q_rm5d Z a1 p2 am n f u_first_a1 h0 n0) (T13.setTop (mkF m 76 #[.val (.ref a1), .val (.int p2), .val (.int ((p2 / (64 : Int32)) - (1 : Int32)))] [(.int ((p2 / (64 : Int32)) - (1 : Int32))), (.ref b8)]))
  refine Run.go (S' := T13.setTop (mkF m 77 #[.val (.ref a1), .val (.int p2), .val (.int ((p2 / (64 : Int32)) - (1 : Int32)))] [(.int ((p2 / (64 : Int32)) - (1 : Int32))), (.ref b8), (.int ((p2 / (64 : Int32)) - (1 : Int32))), (.ref b8)])) (fun _ k => ?_) ?_
  · show Steps p.tables e below (T13.setTop (mkF m 76 #[.val (.ref a1), .val (.int p2), .val (.int ((p2 / (64 : Int32)) - (1 : Int32)))] [(.int ((p2 / (64 : Int32)) - (1 : Int32))), (.ref b8)])) _
    jvm_step X13.here [X13.here.top, hx, (hb hby d5_76), Value.category]
    exact k
  show Run p e below s 1 16 (Q_rm5d Z a1 p2 am n f u_first_a1 h0 n0) (T13.setTop (mkF m 77 #[.val (.ref a1), .val (.int p2), .val (.int ((p2 / (64 : Int32)) - (1 : Int32)))] [(.int ((p2 / (64 : Int32)) - (1 : Int32))), (.ref b8), (.int ((p2 / (64 : Int32)) - (1 : Int32))), (.ref b8)]))
  have fx14 := (fq7_0.other W11 (Ne.symm ne_a1_b8))
  refine Run.go (fun _ k => ary_lget X13 hx hZ e13 fx14 (j := ((p2 / (64 : Int32)) - (1 : Int32))) (own_ix _ hc3).2.1 (own_in2 _ hc3 hp).2.2.2 (g := (mkF m 77 #[.val (.ref a1), .val (.int p2), .val (.int ((p2 / (64 : Int32)) - (1 : Int32)))] [(.int ((p2 / (64 : Int32)) - (1 : Int32))), (.ref b8), (.int ((p2 / (64 : Int32)) - (1 : Int32))), (.ref b8)])) rfl rfl (hb hby d5_77) (if_neg (by have := mt (own_ltn (own_ix _ hc3).2.1 (by omega)).mpr hc39; omega)) _ k) ?_
  show Run p e below s 1 16 (Q_rm5d Z a1 p2 am n f u_first_a1 h0 n0) (T13.setTop (mkF m 78 #[.val (.ref a1), .val (.int p2), .val (.int ((p2 / (64 : Int32)) - (1 : Int32)))] [(.long (0 : Int64)), (.int ((p2 / (64 : Int32)) - (1 : Int32))), (.ref b8)]))
  refine Run.go (fun _ k => XS.lconst X13.here hx rfl (hb hby d5_78) k) ?_
  show Run p e below s 1 16 (Q_rm5d Z a1 p2 am n f u_first_a1 h0 n0) (T13.setTop (mkF m 79 #[.val (.ref a1), .val (.int p2), .val (.int ((p2 / (64 : Int32)) - (1 : Int32)))] [(.long (1 : Int64)), (.long (0 : Int64)), (.int ((p2 / (64 : Int32)) - (1 : Int32))), (.ref b8)]))
  refine Run.go (fun _ k => XS.iloadN X13.here hx rfl (hb hby d5_79) rfl  k) ?_
  show Run p e below s 1 16 (Q_rm5d Z a1 p2 am n f u_first_a1 h0 n0) (T13.setTop (mkF m 80 #[.val (.ref a1), .val (.int p2), .val (.int ((p2 / (64 : Int32)) - (1 : Int32)))] [(.int p2), (.long (1 : Int64)), (.long (0 : Int64)), (.int ((p2 / (64 : Int32)) - (1 : Int32))), (.ref b8)]))
  refine Run.go (fun _ k => XS.lshl X13.here hx rfl (hb hby d5_80) rfl k) ?_
  show Run p e below s 1 16 (Q_rm5d Z a1 p2 am n f u_first_a1 h0 n0) (T13.setTop (mkF m 81 #[.val (.ref a1), .val (.int p2), .val (.int ((p2 / (64 : Int32)) - (1 : Int32)))] [(.long ((1 : Int64) <<< (p2 &&& 0x3f).toInt64)), (.long (0 : Int64)), (.int ((p2 / (64 : Int32)) - (1 : Int32))), (.ref b8)]))
  refine Run.go (fun _ k => XS.lor X13.here hx rfl (hb hby d5_81) rfl k) ?_
  show Run p e below s 1 16 (Q_rm5d Z a1 p2 am n f u_first_a1 h0 n0) (T13.setTop (mkF m 82 #[.val (.ref a1), .val (.int p2), .val (.int ((p2 / (64 : Int32)) - (1 : Int32)))] [(.long ((0 : Int64) ||| ((1 : Int64) <<< (p2 &&& 0x3f).toInt64))), (.int ((p2 / (64 : Int32)) - (1 : Int32))), (.ref b8)]))
  obtain ⟨T15, h15, X15, e15, W15, st15⟩ := ary_lset X13 hx hZ e13 fx14 (j := ((p2 / (64 : Int32)) - (1 : Int32))) (own_ix _ hc3).2.1 (own_in2 _ hc3 hp).2.2.2 (g := (mkF m 82 #[.val (.ref a1), .val (.int p2), .val (.int ((p2 / (64 : Int32)) - (1 : Int32)))] [(.long ((0 : Int64) ||| ((1 : Int64) <<< (p2 &&& 0x3f).toInt64))), (.int ((p2 / (64 : Int32)) - (1 : Int32))), (.ref b8)])) rfl rfl (hb hby d5_82)
  have N15 := Fr.snoc X15 Ng11 g_b8
  have Z15 : n0 ≤ h15.size := Nat.le_trans Z11 (Keep.of_wr W15).1
  have K15 : Keep h0 h15 [a1] := K11.wr W15 (Or.inr sz_b8)
  obtain ⟨Lg15, Xg15, Ng15⟩ := Stand_gen X15 N15
  have fx16 : Ary Z h15 b8 .long (((p2 / (64 : Int32)) - (1 : Int32)) + (1 : Int32)).toNatClampNeg (fun i => if i = ((p2 / (64 : Int32)) - (1 : Int32)).toNatClampNeg then (.long ((0 : Int64) ||| ((1 : Int64) <<< (p2 &&& 0x3f).toInt64))) else (fun i => if i < n then f i else (.long (0 : Int64))) i) := fx14.same W15
  refine Run.go st15 ?_
  show Run p e below s 1 16 (Q_rm5d Z a1 p2 am n f u_first_a1 h0 n0) (T15.setTop (mkF m 83 #[.val (.ref a1), .val (.int p2), .val (.int ((p2 / (64 : Int32)) - (1 : Int32)))] []))
  refine Run.ret0 Xg15 hx Bd.returns Bd.notSynchronized (hb hby d5_83) (by decide) (by decide) ?_
  show Q_rm5d Z a1 p2 am n f u_first_a1 h0 n0 _ T15.heap _
  have fx17 := ((fx9.wr W11).wr W15)
  have fx18 := (fx12.other W15 (Or.inl ne_a1_b8))
  have fx19 := (((F_first_a1.keep K7q nin0).other W11 (Or.inr (slot_ne (Or.inl (hw _ (List.mem_of_getElem? (i := 19) rfl))) (Or.inl (hw _ (List.mem_of_getElem? (i := 26) rfl))) (by decide) (t := .long) (t' := (.array .long)) (by decide) (by decide)))).other W15 (Or.inl ne_a1_b8))
  rw [e15]
  exact ⟨b8, rfl, Ng15, K15, sz_b8, fx17, fx18, fx19, fx16⟩
theorem d4_0 : decode prog_57_method_2_code 0 = .ok (.iload_n 1, 1) := by decide +kernel
theorem d4_1 : decode prog_57_method_2_code 1 = .ok (.bipush 64, 2) := by decide +kernel
theorem d4_3 : decode prog_57_method_2_code 3 = .ok (.if_icmp .ge 22, 3) := by decide +kernel
theorem d4_6 : decode prog_57_method_2_code 6 = .ok (.aload_n 0, 1) := by decide +kernel
theorem d4_7 : decode prog_57_method_2_code 7 = .ok (.getfield 9, 3) := by decide +kernel
theorem d4_10 : decode prog_57_method_2_code 10 = .ok (.lconst 1, 1) := by decide +kernel
theorem d4_11 : decode prog_57_method_2_code 11 = .ok (.iload_n 1, 1) := by decide +kernel
theorem d4_12 : decode prog_57_method_2_code 12 = .ok (.lshl, 1) := by decide +kernel
theorem d4_13 : decode prog_57_method_2_code 13 = .ok (.land, 1) := by decide +kernel
theorem d4_14 : decode prog_57_method_2_code 14 = .ok (.lconst 0, 1) := by decide +kernel
theorem d4_15 : decode prog_57_method_2_code 15 = .ok (.lcmp, 1) := by decide +kernel
theorem d4_16 : decode prog_57_method_2_code 16 = .ok (.ifCond .eq 7, 3) := by decide +kernel
theorem d4_23 : decode prog_57_method_2_code 23 = .ok (.iconst 0, 1) := by decide +kernel
theorem d4_19 : decode prog_57_method_2_code 19 = .ok (.iconst 1, 1) := by decide +kernel
theorem d4_20 : decode prog_57_method_2_code 20 = .ok (.goto 4, 3) := by decide +kernel
theorem d4_24 : decode prog_57_method_2_code 24 = .ok (.ireturn, 1) := by decide +kernel
def F_rm4a (p2 : Int32) (w3 : Int64) : Int32 := let w6 : Int32 := (if (¬ ((w3 &&& ((1 : Int64) <<< (p2 &&& 0x3f).toInt64)) = (0 : Int64))) then (1 : Int32) else 0); w6
def Q_rm4a (Z : State) (a1 : Addr) (p2 : Int32) (w3 : Int64) (h0 : Heap) (n0 : Nat) (v : Option Value) (h : Heap) (L : List Loc) : Prop := v = some (.int (F_rm4a p2 w3)) ∧ Fr n0 L ∧ h = h0
theorem ef_rm4a (m : MethodId) (x0 : Addr) (x1 : Int32) : entryFrame m #[(.ref x0), (.int x1)] 3 = mkF m 0 #[.val (.ref x0), .val (.int x1), .unset] [] := by first | (simp [entryFrame, mkF, argsToLocals, Value.category]; done) | rfl
set_option maxRecDepth 65536 in
set_option maxHeartbeats 40000000 in
theorem rm4a (l : Launch) (Z : State) (a0 : Array Value) (hw : ∀ d ∈ tables_1, d.before a0 Z = true) (ws : List Jvm.Cond) (a1 : Addr) (p2 : Int32) (w3 : Int64) (h0 : Heap) (n0 : Nat) (Z0 : n0 ≤ h0.size) (hlt : (p2 < (64 : Int32))) (F_first_a1 : Fld Z h0 a1 "murmuration/Sources" "first" "J" (.long w3)) :
    MetFree l (⟨"murmuration/Sources", "contains", "(I)Z"⟩ : MethodName) (head1 (Jvm.Cond.code (⟨"murmuration/Sources", "contains", "(I)Z"⟩ : MethodName) prog_57_method_2_code 3 (some .boolean) :: ws) ({ frames := 0, cells := 0, slots := 0, locals := 0 } : Room)) (fun a U => a = #[(.ref a1), (.int p2)] ∧ Z.Warmed39 U.vm ∧ U.heap = h0) (fun _ _ _ _ _ => True) (fun _ U o U' => ∃ v L, o = .returned v ∧ Q_rm4a Z a1 p2 w3 h0 n0 v U'.heap L ∧ FrameEnd U o U' L ({ frames := 0, cells := 0, slots := 0, locals := 0 } : Room).cells ({ frames := 0, cells := 0, slots := 0, locals := 0 } : Room).slots) := by
  refine MetFree.of_bodySF (plainFor_of_name pn_1) hisR ?_
  intro p e s m args below meth c s₁ Bd hml0 hP hK
  obtain ⟨rfl, hZ, hh⟩ := hP
  have hx := Bd.exec
  have hby := Bd.bytes
  have hml : c.maxLocals = 3 := hml0
  have hown : s.vm.findClass "murmuration/Sources" = some m.cls := findClass_of_methodNamed Bd.named
  have hnm := (name_of_methodNamed Bd.named Bd.method).1
  have X0 : Stand p l e ({ frames := 0, cells := 0, slots := 0, locals := 0 } : Room) s m #[(.ref a1), (.int p2)] below meth c s₁ [] 0 0 := Stand.of_body Bd
  have e0 : s₁.heap = h0 := by rw [← hh, Bd.state]; rfl
  have N0 := Fr.nil n0
  show Run p e below s 0 0 (Q_rm4a Z a1 p2 w3 h0 n0) (s₁.setTop (entryFrame m #[(.ref a1), (.int p2)] 3))
  refine Run.go (fun _ k => castTop (ef_rm4a m a1 p2) k) ?_
  show Run p e below s 0 0 (Q_rm4a Z a1 p2 w3 h0 n0) (s₁.setTop (mkF m 0 #[.val (.ref a1), .val (.int p2), .unset] []))
  refine Run.go (fun _ k => XS.iloadN X0.here hx rfl (hb hby d4_0) rfl  k) ?_
  show Run p e below s 0 0 (Q_rm4a Z a1 p2 w3 h0 n0) (s₁.setTop (mkF m 1 #[.val (.ref a1), .val (.int p2), .unset] [(.int p2)]))
  refine Run.go (fun _ k => XS.bipush X0.here hx rfl (hb hby d4_1) k) ?_
  show Run p e below s 0 0 (Q_rm4a Z a1 p2 w3 h0 n0) (s₁.setTop (mkF m 3 #[.val (.ref a1), .val (.int p2), .unset] [(.int (64 : Int32)), (.int p2)]))
  refine Run.go (fun _ k => XS.icmpNo X0.here hx rfl (hb hby d4_3) rfl (tlt hlt).2.1 k) ?_
  show Run p e below s 0 0 (Q_rm4a Z a1 p2 w3 h0 n0) (s₁.setTop (mkF m 6 #[.val (.ref a1), .val (.int p2), .unset] []))
  refine Run.go (fun _ k => XS.aloadN X0.here hx rfl (hb hby d4_6) rfl rfl k) ?_
  show Run p e below s 0 0 (Q_rm4a Z a1 p2 w3 h0 n0) (s₁.setTop (mkF m 7 #[.val (.ref a1), .val (.int p2), .unset] [(.ref a1)]))
  obtain ⟨T4, X4, e4, st4⟩ := getF X0 hx hZ hown (host := "") (Or.inl (hw _ (List.mem_of_getElem? (i := 18) rfl))) Via.refl e0 F_first_a1 (g := (mkF m 7 #[.val (.ref a1), .val (.int p2), .unset] [(.ref a1)])) rfl rfl (hb hby d4_7)
  refine Run.go st4 ?_
  show Run p e below s 0 0 (Q_rm4a Z a1 p2 w3 h0 n0) (T4.setTop (mkF m 10 #[.val (.ref a1), .val (.int p2), .unset] [(.long w3)]))
  refine Run.go (fun _ k => XS.lconst X4.here hx rfl (hb hby d4_10) k) ?_
  show Run p e below s 0 0 (Q_rm4a Z a1 p2 w3 h0 n0) (T4.setTop (mkF m 11 #[.val (.ref a1), .val (.int p2), .unset] [(.long (1 : Int64)), (.long w3)]))
  refine Run.go (fun _ k => XS.iloadN X4.here hx rfl (hb hby d4_11) rfl  k) ?_
  show Run p e below s 0 0 (Q_rm4a Z a1 p2 w3 h0 n0) (T4.setTop (mkF m 12 #[.val (.ref a1), .val (.int p2), .unset] [(.int p2), (.long (1 : Int64)), (.long w3)]))
  refine Run.go (fun _ k => XS.lshl X4.here hx rfl (hb hby d4_12) rfl k) ?_
  show Run p e below s 0 0 (Q_rm4a Z a1 p2 w3 h0 n0) (T4.setTop (mkF m 13 #[.val (.ref a1), .val (.int p2), .unset] [(.long ((1 : Int64) <<< (p2 &&& 0x3f).toInt64)), (.long w3)]))
  refine Run.go (fun _ k => XS.land X4.here hx rfl (hb hby d4_13) rfl k) ?_
  show Run p e below s 0 0 (Q_rm4a Z a1 p2 w3 h0 n0) (T4.setTop (mkF m 14 #[.val (.ref a1), .val (.int p2), .unset] [(.long (w3 &&& ((1 : Int64) <<< (p2 &&& 0x3f).toInt64)))]))
  refine Run.go (fun _ k => XS.lconst X4.here hx rfl (hb hby d4_14) k) ?_
  show Run p e below s 0 0 (Q_rm4a Z a1 p2 w3 h0 n0) (T4.setTop (mkF m 15 #[.val (.ref a1), .val (.int p2), .unset] [(.long (0 : Int64)), (.long (w3 &&& ((1 : Int64) <<< (p2 &&& 0x3f).toInt64)))]))
  refine Run.go (fun _ k => XS.lcmp X4.here hx rfl (hb hby d4_15) rfl k) ?_
  show Run p e below s 0 0 (Q_rm4a Z a1 p2 w3 h0 n0) (T4.setTop (mkF m 16 #[.val (.ref a1), .val (.int p2), .unset] [(.int (lcmpW (w3 &&& ((1 : Int64) <<< (p2 &&& 0x3f).toInt64)) (0 : Int64)))]))
  have J5 : ∀ (w6 : Int32) (hw6 : w6 = (if (¬ ((w3 &&& ((1 : Int64) <<< (p2 &&& 0x3f).toInt64)) = (0 : Int64))) then (1 : Int32) else 0)) (T7 : State) (L7 : List Loc) (X7 : Stand p l e ({ frames := 0, cells := 0, slots := 0, locals := 0 } : Room) s m #[(.ref a1), (.int p2)] below meth c T7 L7 0 0) (e7 : T7.heap = h0) (N7 : Fr n0 L7), Run p e below s 0 0 (Q_rm4a Z a1 p2 w3 h0 n0) (T7.setTop (mkF m 24 #[.val (.ref a1), .val (.int p2), .unset] [(.int w6)])) := by
    intro w6 hw6 T7 L7 X7 e7 N7
    show Run p e below s 0 0 (Q_rm4a Z a1 p2 w3 h0 n0) (T7.setTop (mkF m 24 #[.val (.ref a1), .val (.int p2), .unset] [(.int w6)]))
    refine Run.retN (y := w6) X7 hx (t := .boolean) Bd.returns (by simp) (by rw [hw6]; exact nar_ite _) Bd.notSynchronized (hb hby d4_24) (by decide) (by decide) ?_
    show Q_rm4a Z a1 p2 w3 h0 n0 _ T7.heap _
    exact ⟨congrArg some (congrArg Value.int (show w6 = (F_rm4a p2 w3) from (by subst hw6; unfold F_rm4a; rfl))), N7, e7⟩
  by_cases hc8 : ((w3 &&& ((1 : Int64) <<< (p2 &&& 0x3f).toInt64)) = (0 : Int64))
  · refine Run.go (fun _ k => XS.ifYes X4.here hx rfl (pc0 := 16) (pc' := 23) rfl (hb hby d4_16) rfl ((if0 _ _).trans (teq ((lw_eq (w3 &&& ((1 : Int64) <<< (p2 &&& 0x3f).toInt64)) (0 : Int64)).mpr hc8)).1) (by decide) (by decide) k) ?_
    show Run p e below s 0 0 (Q_rm4a Z a1 p2 w3 h0 n0) (T4.setTop (mkF m 23 #[.val (.ref a1), .val (.int p2), .unset] []))
    refine Run.go (fun _ k => XS.iconst X4.here hx rfl (hb hby d4_23) k) ?_
    show Run p e below s 0 0 (Q_rm4a Z a1 p2 w3 h0 n0) (T4.setTop (mkF m 24 #[.val (.ref a1), .val (.int p2), .unset] [(.int (0 : Int32))]))
    exact J5 _ (if_neg (fun q => q hc8)).symm _ _ X4 e4 N0
  · refine Run.go (fun _ k => XS.ifNo X4.here hx rfl (hb hby d4_16) rfl ((if0 _ _).trans (feq (mt (lw_eq (w3 &&& ((1 : Int64) <<< (p2 &&& 0x3f).toInt64)) (0 : Int64)).mp hc8)).1) k) ?_
    show Run p e below s 0 0 (Q_rm4a Z a1 p2 w3 h0 n0) (T4.setTop (mkF m 19 #[.val (.ref a1), .val (.int p2), .unset] []))
    refine Run.go (fun _ k => XS.iconst X4.here hx rfl (hb hby d4_19) k) ?_
    show Run p e below s 0 0 (Q_rm4a Z a1 p2 w3 h0 n0) (T4.setTop (mkF m 20 #[.val (.ref a1), .val (.int p2), .unset] [(.int (1 : Int32))]))
    refine Run.go (fun _ k => XS.goto X4.here hx rfl (pc0 := 20) (pc' := 24) rfl (hb hby d4_20) (by decide) (by decide) k) ?_
    show Run p e below s 0 0 (Q_rm4a Z a1 p2 w3 h0 n0) (T4.setTop (mkF m 24 #[.val (.ref a1), .val (.int p2), .unset] [(.int (1 : Int32))]))
    exact J5 _ (if_pos hc8).symm _ _ X4 e4 N0
theorem d4_25 : decode prog_57_method_2_code 25 = .ok (.iload_n 1, 1) := by decide +kernel
theorem d4_26 : decode prog_57_method_2_code 26 = .ok (.bipush 64, 2) := by decide +kernel
theorem d4_28 : decode prog_57_method_2_code 28 = .ok (.idiv, 1) := by decide +kernel
theorem d4_29 : decode prog_57_method_2_code 29 = .ok (.iconst 1, 1) := by decide +kernel
theorem d4_30 : decode prog_57_method_2_code 30 = .ok (.isub, 1) := by decide +kernel
theorem d4_31 : decode prog_57_method_2_code 31 = .ok (.istore_n 2, 1) := by decide +kernel
theorem d4_32 : decode prog_57_method_2_code 32 = .ok (.aload_n 0, 1) := by decide +kernel
theorem d4_33 : decode prog_57_method_2_code 33 = .ok (.getfield 13, 3) := by decide +kernel
theorem d4_36 : decode prog_57_method_2_code 36 = .ok (.ifnull 31, 3) := by decide +kernel
theorem d4_67 : decode prog_57_method_2_code 67 = .ok (.iconst 0, 1) := by decide +kernel
theorem d4_68 : decode prog_57_method_2_code 68 = .ok (.ireturn, 1) := by decide +kernel
def Q_rm4b (Z : State) (a1 : Addr) (p2 : Int32) (h0 : Heap) (n0 : Nat) (v : Option Value) (h : Heap) (L : List Loc) : Prop := v = some (.int (0 : Int32)) ∧ Fr n0 L ∧ h = h0
theorem ef_rm4b (m : MethodId) (x0 : Addr) (x1 : Int32) : entryFrame m #[(.ref x0), (.int x1)] 3 = mkF m 0 #[.val (.ref x0), .val (.int x1), .unset] [] := by first | (simp [entryFrame, mkF, argsToLocals, Value.category]; done) | rfl
set_option maxRecDepth 65536 in
set_option maxHeartbeats 40000000 in
theorem rm4b (l : Launch) (Z : State) (a0 : Array Value) (hw : ∀ d ∈ tables_1, d.before a0 Z = true) (ws : List Jvm.Cond) (a1 : Addr) (p2 : Int32) (h0 : Heap) (n0 : Nat) (Z0 : n0 ≤ h0.size) (hge : ¬ (p2 < (64 : Int32))) (F_more_a1 : Fld Z h0 a1 "murmuration/Sources" "more" "[J" .null) :
    MetFree l (⟨"murmuration/Sources", "contains", "(I)Z"⟩ : MethodName) (head1 (Jvm.Cond.code (⟨"murmuration/Sources", "contains", "(I)Z"⟩ : MethodName) prog_57_method_2_code 3 (some .boolean) :: ws) ({ frames := 0, cells := 0, slots := 0, locals := 0 } : Room)) (fun a U => a = #[(.ref a1), (.int p2)] ∧ Z.Warmed39 U.vm ∧ U.heap = h0) (fun _ _ _ _ _ => True) (fun _ U o U' => ∃ v L, o = .returned v ∧ Q_rm4b Z a1 p2 h0 n0 v U'.heap L ∧ FrameEnd U o U' L ({ frames := 0, cells := 0, slots := 0, locals := 0 } : Room).cells ({ frames := 0, cells := 0, slots := 0, locals := 0 } : Room).slots) := by
  refine MetFree.of_bodySF (plainFor_of_name pn_1) hisR ?_
  intro p e s m args below meth c s₁ Bd hml0 hP hK
  obtain ⟨rfl, hZ, hh⟩ := hP
  have hx := Bd.exec
  have hby := Bd.bytes
  have hml : c.maxLocals = 3 := hml0
  have hown : s.vm.findClass "murmuration/Sources" = some m.cls := findClass_of_methodNamed Bd.named
  have hnm := (name_of_methodNamed Bd.named Bd.method).1
  have X0 : Stand p l e ({ frames := 0, cells := 0, slots := 0, locals := 0 } : Room) s m #[(.ref a1), (.int p2)] below meth c s₁ [] 0 0 := Stand.of_body Bd
  have e0 : s₁.heap = h0 := by rw [← hh, Bd.state]; rfl
  have N0 := Fr.nil n0
  show Run p e below s 0 0 (Q_rm4b Z a1 p2 h0 n0) (s₁.setTop (entryFrame m #[(.ref a1), (.int p2)] 3))
  refine Run.go (fun _ k => castTop (ef_rm4b m a1 p2) k) ?_
  show Run p e below s 0 0 (Q_rm4b Z a1 p2 h0 n0) (s₁.setTop (mkF m 0 #[.val (.ref a1), .val (.int p2), .unset] []))
  refine Run.go (fun _ k => XS.iloadN X0.here hx rfl (hb hby d4_0) rfl  k) ?_
  show Run p e below s 0 0 (Q_rm4b Z a1 p2 h0 n0) (s₁.setTop (mkF m 1 #[.val (.ref a1), .val (.int p2), .unset] [(.int p2)]))
  refine Run.go (fun _ k => XS.bipush X0.here hx rfl (hb hby d4_1) k) ?_
  show Run p e below s 0 0 (Q_rm4b Z a1 p2 h0 n0) (s₁.setTop (mkF m 3 #[.val (.ref a1), .val (.int p2), .unset] [(.int (64 : Int32)), (.int p2)]))
  refine Run.go (fun _ k => XS.icmpYes X0.here hx rfl (pc0 := 3) (pc' := 25) rfl (hb hby d4_3) rfl (flt hge).2.1 (by decide) (by decide) k) ?_
  show Run p e below s 0 0 (Q_rm4b Z a1 p2 h0 n0) (s₁.setTop (mkF m 25 #[.val (.ref a1), .val (.int p2), .unset] []))
  refine Run.go (fun _ k => XS.iloadN X0.here hx rfl (hb hby d4_25) rfl  k) ?_
  show Run p e below s 0 0 (Q_rm4b Z a1 p2 h0 n0) (s₁.setTop (mkF m 26 #[.val (.ref a1), .val (.int p2), .unset] [(.int p2)]))
  refine Run.go (fun _ k => XS.bipush X0.here hx rfl (hb hby d4_26) k) ?_
  show Run p e below s 0 0 (Q_rm4b Z a1 p2 h0 n0) (s₁.setTop (mkF m 28 #[.val (.ref a1), .val (.int p2), .unset] [(.int (64 : Int32)), (.int p2)]))
  refine Run.go (fun _ k => XS.idiv X0.here hx rfl (hb hby d4_28) rfl (by decide) k) ?_
  show Run p e below s 0 0 (Q_rm4b Z a1 p2 h0 n0) (s₁.setTop (mkF m 29 #[.val (.ref a1), .val (.int p2), .unset] [(.int (p2 / (64 : Int32)))]))
  refine Run.go (fun _ k => XS.iconst X0.here hx rfl (hb hby d4_29) k) ?_
  show Run p e below s 0 0 (Q_rm4b Z a1 p2 h0 n0) (s₁.setTop (mkF m 30 #[.val (.ref a1), .val (.int p2), .unset] [(.int (1 : Int32)), (.int (p2 / (64 : Int32)))]))
  refine Run.go (fun _ k => XS.isub X0.here hx rfl (hb hby d4_30) rfl k) ?_
  show Run p e below s 0 0 (Q_rm4b Z a1 p2 h0 n0) (s₁.setTop (mkF m 31 #[.val (.ref a1), .val (.int p2), .unset] [(.int ((p2 / (64 : Int32)) - (1 : Int32)))]))
  refine Run.go (fun _ k => XS.istoreN X0.here hx rfl (hb hby d4_31) rfl (l' := #[.val (.ref a1), .val (.int p2), .val (.int ((p2 / (64 : Int32)) - (1 : Int32)))]) rfl k) ?_
  show Run p e below s 0 0 (Q_rm4b Z a1 p2 h0 n0) (s₁.setTop (mkF m 32 #[.val (.ref a1), .val (.int p2), .val (.int ((p2 / (64 : Int32)) - (1 : Int32)))] []))
  refine Run.go (fun _ k => XS.aloadN X0.here hx rfl (hb hby d4_32) rfl rfl k) ?_
  show Run p e below s 0 0 (Q_rm4b Z a1 p2 h0 n0) (s₁.setTop (mkF m 33 #[.val (.ref a1), .val (.int p2), .val (.int ((p2 / (64 : Int32)) - (1 : Int32)))] [(.ref a1)]))
  obtain ⟨T3, X3, e3, st3⟩ := getF X0 hx hZ hown (host := "") (Or.inl (hw _ (List.mem_of_getElem? (i := 25) rfl))) Via.refl e0 F_more_a1 (g := (mkF m 33 #[.val (.ref a1), .val (.int p2), .val (.int ((p2 / (64 : Int32)) - (1 : Int32)))] [(.ref a1)])) rfl rfl (hb hby d4_33)
  refine Run.go st3 ?_
  show Run p e below s 0 0 (Q_rm4b Z a1 p2 h0 n0) (T3.setTop (mkF m 36 #[.val (.ref a1), .val (.int p2), .val (.int ((p2 / (64 : Int32)) - (1 : Int32)))] [.null]))
  refine Run.go (fun _ k => XS.ifnullYes X3.here hx rfl (pc0 := 36) (pc' := 67) rfl (hb hby d4_36) rfl (by decide) (by decide) k) ?_
  show Run p e below s 0 0 (Q_rm4b Z a1 p2 h0 n0) (T3.setTop (mkF m 67 #[.val (.ref a1), .val (.int p2), .val (.int ((p2 / (64 : Int32)) - (1 : Int32)))] []))
  refine Run.go (fun _ k => XS.iconst X3.here hx rfl (hb hby d4_67) k) ?_
  show Run p e below s 0 0 (Q_rm4b Z a1 p2 h0 n0) (T3.setTop (mkF m 68 #[.val (.ref a1), .val (.int p2), .val (.int ((p2 / (64 : Int32)) - (1 : Int32)))] [(.int (0 : Int32))]))
  refine Run.retN (y := (0 : Int32)) X3 hx (t := .boolean) Bd.returns (by simp) rfl Bd.notSynchronized (hb hby d4_68) (by decide) (by decide) ?_
  show Q_rm4b Z a1 p2 h0 n0 _ T3.heap _
  exact ⟨rfl, N0, e3⟩
theorem d4_39 : decode prog_57_method_2_code 39 = .ok (.iload_n 2, 1) := by decide +kernel
theorem d4_40 : decode prog_57_method_2_code 40 = .ok (.aload_n 0, 1) := by decide +kernel
theorem d4_41 : decode prog_57_method_2_code 41 = .ok (.getfield 13, 3) := by decide +kernel
theorem d4_44 : decode prog_57_method_2_code 44 = .ok (.arraylength, 1) := by decide +kernel
theorem d4_45 : decode prog_57_method_2_code 45 = .ok (.if_icmp .ge 22, 3) := by decide +kernel
theorem d4_48 : decode prog_57_method_2_code 48 = .ok (.aload_n 0, 1) := by decide +kernel
theorem d4_49 : decode prog_57_method_2_code 49 = .ok (.getfield 13, 3) := by decide +kernel
theorem d4_52 : decode prog_57_method_2_code 52 = .ok (.iload_n 2, 1) := by decide +kernel
theorem d4_53 : decode prog_57_method_2_code 53 = .ok (.laload, 1) := by decide +kernel
theorem d4_54 : decode prog_57_method_2_code 54 = .ok (.lconst 1, 1) := by decide +kernel
theorem d4_55 : decode prog_57_method_2_code 55 = .ok (.iload_n 1, 1) := by decide +kernel
theorem d4_56 : decode prog_57_method_2_code 56 = .ok (.lshl, 1) := by decide +kernel
theorem d4_57 : decode prog_57_method_2_code 57 = .ok (.land, 1) := by decide +kernel
theorem d4_58 : decode prog_57_method_2_code 58 = .ok (.lconst 0, 1) := by decide +kernel
theorem d4_59 : decode prog_57_method_2_code 59 = .ok (.lcmp, 1) := by decide +kernel
theorem d4_60 : decode prog_57_method_2_code 60 = .ok (.ifCond .eq 7, 3) := by decide +kernel
theorem d4_63 : decode prog_57_method_2_code 63 = .ok (.iconst 1, 1) := by decide +kernel
theorem d4_64 : decode prog_57_method_2_code 64 = .ok (.goto 4, 3) := by decide +kernel
def F_rm4c (p2 : Int32) (x : Int64) : Int32 := let w7 : Int32 := (if (¬ ((x &&& ((1 : Int64) <<< (p2 &&& 0x3f).toInt64)) = (0 : Int64))) then (1 : Int32) else 0); w7
def Q_rm4c (Z : State) (a1 : Addr) (p2 : Int32) (am : Addr) (n : Nat) (f : Nat → Value) (x : Int64) (h0 : Heap) (n0 : Nat) (v : Option Value) (h : Heap) (L : List Loc) : Prop := v = some (.int (F_rm4c p2 x)) ∧ Fr n0 L ∧ h = h0
theorem ef_rm4c (m : MethodId) (x0 : Addr) (x1 : Int32) : entryFrame m #[(.ref x0), (.int x1)] 3 = mkF m 0 #[.val (.ref x0), .val (.int x1), .unset] [] := by first | (simp [entryFrame, mkF, argsToLocals, Value.category]; done) | rfl
set_option maxRecDepth 65536 in
set_option maxHeartbeats 40000000 in
theorem rm4c (l : Launch) (Z : State) (a0 : Array Value) (hw : ∀ d ∈ tables_1, d.before a0 Z = true) (ws : List Jvm.Cond) (a1 : Addr) (p2 : Int32) (am : Addr) (n : Nat) (f : Nat → Value) (x : Int64) (h0 : Heap) (n0 : Nat) (Z0 : n0 ≤ h0.size) (hge : ¬ (p2 < (64 : Int32))) (F_more_a1 : Fld Z h0 a1 "murmuration/Sources" "more" "[J" (.ref am)) (A_am : Ary Z h0 am .long n f) (hn : n ≤ 15) (hx0 : f (((p2 / (64 : Int32)) - (1 : Int32)).toNatClampNeg) = .long x) (hin : ((p2 / (64 : Int32)) - (1 : Int32)).toNatClampNeg < n) :
    MetFree l (⟨"murmuration/Sources", "contains", "(I)Z"⟩ : MethodName) (head1 (Jvm.Cond.code (⟨"murmuration/Sources", "contains", "(I)Z"⟩ : MethodName) prog_57_method_2_code 3 (some .boolean) :: ws) ({ frames := 0, cells := 0, slots := 0, locals := 0 } : Room)) (fun a U => a = #[(.ref a1), (.int p2)] ∧ Z.Warmed39 U.vm ∧ U.heap = h0) (fun _ _ _ _ _ => True) (fun _ U o U' => ∃ v L, o = .returned v ∧ Q_rm4c Z a1 p2 am n f x h0 n0 v U'.heap L ∧ FrameEnd U o U' L ({ frames := 0, cells := 0, slots := 0, locals := 0 } : Room).cells ({ frames := 0, cells := 0, slots := 0, locals := 0 } : Room).slots) := by
  refine MetFree.of_bodySF (plainFor_of_name pn_1) hisR ?_
  intro p e s m args below meth c s₁ Bd hml0 hP hK
  obtain ⟨rfl, hZ, hh⟩ := hP
  have hx := Bd.exec
  have hby := Bd.bytes
  have hml : c.maxLocals = 3 := hml0
  have hown : s.vm.findClass "murmuration/Sources" = some m.cls := findClass_of_methodNamed Bd.named
  have hnm := (name_of_methodNamed Bd.named Bd.method).1
  have X0 : Stand p l e ({ frames := 0, cells := 0, slots := 0, locals := 0 } : Room) s m #[(.ref a1), (.int p2)] below meth c s₁ [] 0 0 := Stand.of_body Bd
  have e0 : s₁.heap = h0 := by rw [← hh, Bd.state]; rfl
  have N0 := Fr.nil n0
  show Run p e below s 0 0 (Q_rm4c Z a1 p2 am n f x h0 n0) (s₁.setTop (entryFrame m #[(.ref a1), (.int p2)] 3))
  refine Run.go (fun _ k => castTop (ef_rm4c m a1 p2) k) ?_
  show Run p e below s 0 0 (Q_rm4c Z a1 p2 am n f x h0 n0) (s₁.setTop (mkF m 0 #[.val (.ref a1), .val (.int p2), .unset] []))
  refine Run.go (fun _ k => XS.iloadN X0.here hx rfl (hb hby d4_0) rfl  k) ?_
  show Run p e below s 0 0 (Q_rm4c Z a1 p2 am n f x h0 n0) (s₁.setTop (mkF m 1 #[.val (.ref a1), .val (.int p2), .unset] [(.int p2)]))
  refine Run.go (fun _ k => XS.bipush X0.here hx rfl (hb hby d4_1) k) ?_
  show Run p e below s 0 0 (Q_rm4c Z a1 p2 am n f x h0 n0) (s₁.setTop (mkF m 3 #[.val (.ref a1), .val (.int p2), .unset] [(.int (64 : Int32)), (.int p2)]))
  refine Run.go (fun _ k => XS.icmpYes X0.here hx rfl (pc0 := 3) (pc' := 25) rfl (hb hby d4_3) rfl (flt hge).2.1 (by decide) (by decide) k) ?_
  show Run p e below s 0 0 (Q_rm4c Z a1 p2 am n f x h0 n0) (s₁.setTop (mkF m 25 #[.val (.ref a1), .val (.int p2), .unset] []))
  refine Run.go (fun _ k => XS.iloadN X0.here hx rfl (hb hby d4_25) rfl  k) ?_
  show Run p e below s 0 0 (Q_rm4c Z a1 p2 am n f x h0 n0) (s₁.setTop (mkF m 26 #[.val (.ref a1), .val (.int p2), .unset] [(.int p2)]))
  refine Run.go (fun _ k => XS.bipush X0.here hx rfl (hb hby d4_26) k) ?_
  show Run p e below s 0 0 (Q_rm4c Z a1 p2 am n f x h0 n0) (s₁.setTop (mkF m 28 #[.val (.ref a1), .val (.int p2), .unset] [(.int (64 : Int32)), (.int p2)]))
  refine Run.go (fun _ k => XS.idiv X0.here hx rfl (hb hby d4_28) rfl (by decide) k) ?_
  show Run p e below s 0 0 (Q_rm4c Z a1 p2 am n f x h0 n0) (s₁.setTop (mkF m 29 #[.val (.ref a1), .val (.int p2), .unset] [(.int (p2 / (64 : Int32)))]))
  refine Run.go (fun _ k => XS.iconst X0.here hx rfl (hb hby d4_29) k) ?_
  show Run p e below s 0 0 (Q_rm4c Z a1 p2 am n f x h0 n0) (s₁.setTop (mkF m 30 #[.val (.ref a1), .val (.int p2), .unset] [(.int (1 : Int32)), (.int (p2 / (64 : Int32)))]))
  refine Run.go (fun _ k => XS.isub X0.here hx rfl (hb hby d4_30) rfl k) ?_
  show Run p e below s 0 0 (Q_rm4c Z a1 p2 am n f x h0 n0) (s₁.setTop (mkF m 31 #[.val (.ref a1), .val (.int p2), .unset] [(.int ((p2 / (64 : Int32)) - (1 : Int32)))]))
  refine Run.go (fun _ k => XS.istoreN X0.here hx rfl (hb hby d4_31) rfl (l' := #[.val (.ref a1), .val (.int p2), .val (.int ((p2 / (64 : Int32)) - (1 : Int32)))]) rfl k) ?_
  show Run p e below s 0 0 (Q_rm4c Z a1 p2 am n f x h0 n0) (s₁.setTop (mkF m 32 #[.val (.ref a1), .val (.int p2), .val (.int ((p2 / (64 : Int32)) - (1 : Int32)))] []))
  refine Run.go (fun _ k => XS.aloadN X0.here hx rfl (hb hby d4_32) rfl rfl k) ?_
  show Run p e below s 0 0 (Q_rm4c Z a1 p2 am n f x h0 n0) (s₁.setTop (mkF m 33 #[.val (.ref a1), .val (.int p2), .val (.int ((p2 / (64 : Int32)) - (1 : Int32)))] [(.ref a1)]))
  obtain ⟨T3, X3, e3, st3⟩ := getF X0 hx hZ hown (host := "") (Or.inl (hw _ (List.mem_of_getElem? (i := 25) rfl))) Via.refl e0 F_more_a1 (g := (mkF m 33 #[.val (.ref a1), .val (.int p2), .val (.int ((p2 / (64 : Int32)) - (1 : Int32)))] [(.ref a1)])) rfl rfl (hb hby d4_33)
  refine Run.go st3 ?_
  show Run p e below s 0 0 (Q_rm4c Z a1 p2 am n f x h0 n0) (T3.setTop (mkF m 36 #[.val (.ref a1), .val (.int p2), .val (.int ((p2 / (64 : Int32)) - (1 : Int32)))] [(.ref am)]))
  refine Run.go (fun _ k => XS.ifnullNo X3.here hx rfl (hb hby d4_36) rfl k) ?_
  show Run p e below s 0 0 (Q_rm4c Z a1 p2 am n f x h0 n0) (T3.setTop (mkF m 39 #[.val (.ref a1), .val (.int p2), .val (.int ((p2 / (64 : Int32)) - (1 : Int32)))] []))
  refine Run.go (fun _ k => XS.iloadN X3.here hx rfl (hb hby d4_39) rfl  k) ?_
  show Run p e below s 0 0 (Q_rm4c Z a1 p2 am n f x h0 n0) (T3.setTop (mkF m 40 #[.val (.ref a1), .val (.int p2), .val (.int ((p2 / (64 : Int32)) - (1 : Int32)))] [(.int ((p2 / (64 : Int32)) - (1 : Int32)))]))
  refine Run.go (fun _ k => XS.aloadN X3.here hx rfl (hb hby d4_40) rfl rfl k) ?_
  show Run p e below s 0 0 (Q_rm4c Z a1 p2 am n f x h0 n0) (T3.setTop (mkF m 41 #[.val (.ref a1), .val (.int p2), .val (.int ((p2 / (64 : Int32)) - (1 : Int32)))] [(.ref a1), (.int ((p2 / (64 : Int32)) - (1 : Int32)))]))
  obtain ⟨T4, X4, e4, st4⟩ := getF X3 hx hZ hown (host := "") (Or.inl (hw _ (List.mem_of_getElem? (i := 25) rfl))) Via.refl e3 F_more_a1 (g := (mkF m 41 #[.val (.ref a1), .val (.int p2), .val (.int ((p2 / (64 : Int32)) - (1 : Int32)))] [(.ref a1), (.int ((p2 / (64 : Int32)) - (1 : Int32)))])) rfl rfl (hb hby d4_41)
  refine Run.go st4 ?_
  show Run p e below s 0 0 (Q_rm4c Z a1 p2 am n f x h0 n0) (T4.setTop (mkF m 44 #[.val (.ref a1), .val (.int p2), .val (.int ((p2 / (64 : Int32)) - (1 : Int32)))] [(.ref am), (.int ((p2 / (64 : Int32)) - (1 : Int32)))]))
  refine Run.go (fun _ k => ary_len X4 hx hZ e4 A_am (g := (mkF m 44 #[.val (.ref a1), .val (.int p2), .val (.int ((p2 / (64 : Int32)) - (1 : Int32)))] [(.ref am), (.int ((p2 / (64 : Int32)) - (1 : Int32)))])) rfl rfl (hb hby d4_44) (z := (n.toInt32)) rfl _ k) ?_
  show Run p e below s 0 0 (Q_rm4c Z a1 p2 am n f x h0 n0) (T4.setTop (mkF m 45 #[.val (.ref a1), .val (.int p2), .val (.int ((p2 / (64 : Int32)) - (1 : Int32)))] [(.int (n.toInt32)), (.int ((p2 / (64 : Int32)) - (1 : Int32)))]))
  refine Run.go (fun _ k => XS.icmpNo X4.here hx rfl (hb hby d4_45) rfl (tlt ((own_ltn (own_ix _ hge).2.1 (by omega)).mpr hin)).2.1 k) ?_
  show Run p e below s 0 0 (Q_rm4c Z a1 p2 am n f x h0 n0) (T4.setTop (mkF m 48 #[.val (.ref a1), .val (.int p2), .val (.int ((p2 / (64 : Int32)) - (1 : Int32)))] []))
  refine Run.go (fun _ k => XS.aloadN X4.here hx rfl (hb hby d4_48) rfl rfl k) ?_
  show Run p e below s 0 0 (Q_rm4c Z a1 p2 am n f x h0 n0) (T4.setTop (mkF m 49 #[.val (.ref a1), .val (.int p2), .val (.int ((p2 / (64 : Int32)) - (1 : Int32)))] [(.ref a1)]))
  obtain ⟨T5, X5, e5, st5⟩ := getF X4 hx hZ hown (host := "") (Or.inl (hw _ (List.mem_of_getElem? (i := 25) rfl))) Via.refl e4 F_more_a1 (g := (mkF m 49 #[.val (.ref a1), .val (.int p2), .val (.int ((p2 / (64 : Int32)) - (1 : Int32)))] [(.ref a1)])) rfl rfl (hb hby d4_49)
  refine Run.go st5 ?_
  show Run p e below s 0 0 (Q_rm4c Z a1 p2 am n f x h0 n0) (T5.setTop (mkF m 52 #[.val (.ref a1), .val (.int p2), .val (.int ((p2 / (64 : Int32)) - (1 : Int32)))] [(.ref am)]))
  refine Run.go (fun _ k => XS.iloadN X5.here hx rfl (hb hby d4_52) rfl  k) ?_
  show Run p e below s 0 0 (Q_rm4c Z a1 p2 am n f x h0 n0) (T5.setTop (mkF m 53 #[.val (.ref a1), .val (.int p2), .val (.int ((p2 / (64 : Int32)) - (1 : Int32)))] [(.int ((p2 / (64 : Int32)) - (1 : Int32))), (.ref am)]))
  refine Run.go (fun _ k => ary_lget X5 hx hZ e5 A_am (j := ((p2 / (64 : Int32)) - (1 : Int32))) (own_ix _ hge).2.1 hin (g := (mkF m 53 #[.val (.ref a1), .val (.int p2), .val (.int ((p2 / (64 : Int32)) - (1 : Int32)))] [(.int ((p2 / (64 : Int32)) - (1 : Int32))), (.ref am)])) rfl rfl (hb hby d4_53) hx0 _ k) ?_
  show Run p e below s 0 0 (Q_rm4c Z a1 p2 am n f x h0 n0) (T5.setTop (mkF m 54 #[.val (.ref a1), .val (.int p2), .val (.int ((p2 / (64 : Int32)) - (1 : Int32)))] [(.long x)]))
  refine Run.go (fun _ k => XS.lconst X5.here hx rfl (hb hby d4_54) k) ?_
  show Run p e below s 0 0 (Q_rm4c Z a1 p2 am n f x h0 n0) (T5.setTop (mkF m 55 #[.val (.ref a1), .val (.int p2), .val (.int ((p2 / (64 : Int32)) - (1 : Int32)))] [(.long (1 : Int64)), (.long x)]))
  refine Run.go (fun _ k => XS.iloadN X5.here hx rfl (hb hby d4_55) rfl  k) ?_
  show Run p e below s 0 0 (Q_rm4c Z a1 p2 am n f x h0 n0) (T5.setTop (mkF m 56 #[.val (.ref a1), .val (.int p2), .val (.int ((p2 / (64 : Int32)) - (1 : Int32)))] [(.int p2), (.long (1 : Int64)), (.long x)]))
  refine Run.go (fun _ k => XS.lshl X5.here hx rfl (hb hby d4_56) rfl k) ?_
  show Run p e below s 0 0 (Q_rm4c Z a1 p2 am n f x h0 n0) (T5.setTop (mkF m 57 #[.val (.ref a1), .val (.int p2), .val (.int ((p2 / (64 : Int32)) - (1 : Int32)))] [(.long ((1 : Int64) <<< (p2 &&& 0x3f).toInt64)), (.long x)]))
  refine Run.go (fun _ k => XS.land X5.here hx rfl (hb hby d4_57) rfl k) ?_
  show Run p e below s 0 0 (Q_rm4c Z a1 p2 am n f x h0 n0) (T5.setTop (mkF m 58 #[.val (.ref a1), .val (.int p2), .val (.int ((p2 / (64 : Int32)) - (1 : Int32)))] [(.long (x &&& ((1 : Int64) <<< (p2 &&& 0x3f).toInt64)))]))
  refine Run.go (fun _ k => XS.lconst X5.here hx rfl (hb hby d4_58) k) ?_
  show Run p e below s 0 0 (Q_rm4c Z a1 p2 am n f x h0 n0) (T5.setTop (mkF m 59 #[.val (.ref a1), .val (.int p2), .val (.int ((p2 / (64 : Int32)) - (1 : Int32)))] [(.long (0 : Int64)), (.long (x &&& ((1 : Int64) <<< (p2 &&& 0x3f).toInt64)))]))
  refine Run.go (fun _ k => XS.lcmp X5.here hx rfl (hb hby d4_59) rfl k) ?_
  show Run p e below s 0 0 (Q_rm4c Z a1 p2 am n f x h0 n0) (T5.setTop (mkF m 60 #[.val (.ref a1), .val (.int p2), .val (.int ((p2 / (64 : Int32)) - (1 : Int32)))] [(.int (lcmpW (x &&& ((1 : Int64) <<< (p2 &&& 0x3f).toInt64)) (0 : Int64)))]))
  have J6 : ∀ (w7 : Int32) (hw7 : w7 = (if (¬ ((x &&& ((1 : Int64) <<< (p2 &&& 0x3f).toInt64)) = (0 : Int64))) then (1 : Int32) else 0)) (T8 : State) (L8 : List Loc) (X8 : Stand p l e ({ frames := 0, cells := 0, slots := 0, locals := 0 } : Room) s m #[(.ref a1), (.int p2)] below meth c T8 L8 0 0) (e8 : T8.heap = h0) (N8 : Fr n0 L8), Run p e below s 0 0 (Q_rm4c Z a1 p2 am n f x h0 n0) (T8.setTop (mkF m 68 #[.val (.ref a1), .val (.int p2), .val (.int ((p2 / (64 : Int32)) - (1 : Int32)))] [(.int w7)])) := by
    intro w7 hw7 T8 L8 X8 e8 N8
    show Run p e below s 0 0 (Q_rm4c Z a1 p2 am n f x h0 n0) (T8.setTop (mkF m 68 #[.val (.ref a1), .val (.int p2), .val (.int ((p2 / (64 : Int32)) - (1 : Int32)))] [(.int w7)]))
    refine Run.retN (y := w7) X8 hx (t := .boolean) Bd.returns (by simp) (by rw [hw7]; exact nar_ite _) Bd.notSynchronized (hb hby d4_68) (by decide) (by decide) ?_
    show Q_rm4c Z a1 p2 am n f x h0 n0 _ T8.heap _
    exact ⟨congrArg some (congrArg Value.int (show w7 = (F_rm4c p2 x) from (by subst hw7; unfold F_rm4c; rfl))), N8, e8⟩
  by_cases hc9 : ((x &&& ((1 : Int64) <<< (p2 &&& 0x3f).toInt64)) = (0 : Int64))
  · refine Run.go (fun _ k => XS.ifYes X5.here hx rfl (pc0 := 60) (pc' := 67) rfl (hb hby d4_60) rfl ((if0 _ _).trans (teq ((lw_eq (x &&& ((1 : Int64) <<< (p2 &&& 0x3f).toInt64)) (0 : Int64)).mpr hc9)).1) (by decide) (by decide) k) ?_
    show Run p e below s 0 0 (Q_rm4c Z a1 p2 am n f x h0 n0) (T5.setTop (mkF m 67 #[.val (.ref a1), .val (.int p2), .val (.int ((p2 / (64 : Int32)) - (1 : Int32)))] []))
    refine Run.go (fun _ k => XS.iconst X5.here hx rfl (hb hby d4_67) k) ?_
    show Run p e below s 0 0 (Q_rm4c Z a1 p2 am n f x h0 n0) (T5.setTop (mkF m 68 #[.val (.ref a1), .val (.int p2), .val (.int ((p2 / (64 : Int32)) - (1 : Int32)))] [(.int (0 : Int32))]))
    exact J6 _ (if_neg (fun q => q hc9)).symm _ _ X5 e5 N0
  · refine Run.go (fun _ k => XS.ifNo X5.here hx rfl (hb hby d4_60) rfl ((if0 _ _).trans (feq (mt (lw_eq (x &&& ((1 : Int64) <<< (p2 &&& 0x3f).toInt64)) (0 : Int64)).mp hc9)).1) k) ?_
    show Run p e below s 0 0 (Q_rm4c Z a1 p2 am n f x h0 n0) (T5.setTop (mkF m 63 #[.val (.ref a1), .val (.int p2), .val (.int ((p2 / (64 : Int32)) - (1 : Int32)))] []))
    refine Run.go (fun _ k => XS.iconst X5.here hx rfl (hb hby d4_63) k) ?_
    show Run p e below s 0 0 (Q_rm4c Z a1 p2 am n f x h0 n0) (T5.setTop (mkF m 64 #[.val (.ref a1), .val (.int p2), .val (.int ((p2 / (64 : Int32)) - (1 : Int32)))] [(.int (1 : Int32))]))
    refine Run.go (fun _ k => XS.goto X5.here hx rfl (pc0 := 64) (pc' := 68) rfl (hb hby d4_64) (by decide) (by decide) k) ?_
    show Run p e below s 0 0 (Q_rm4c Z a1 p2 am n f x h0 n0) (T5.setTop (mkF m 68 #[.val (.ref a1), .val (.int p2), .val (.int ((p2 / (64 : Int32)) - (1 : Int32)))] [(.int (1 : Int32))]))
    exact J6 _ (if_pos hc9).symm _ _ X5 e5 N0
def Q_rm4d (Z : State) (a1 : Addr) (p2 : Int32) (am : Addr) (n : Nat) (f : Nat → Value) (h0 : Heap) (n0 : Nat) (v : Option Value) (h : Heap) (L : List Loc) : Prop := v = some (.int (0 : Int32)) ∧ Fr n0 L ∧ h = h0
theorem ef_rm4d (m : MethodId) (x0 : Addr) (x1 : Int32) : entryFrame m #[(.ref x0), (.int x1)] 3 = mkF m 0 #[.val (.ref x0), .val (.int x1), .unset] [] := by first | (simp [entryFrame, mkF, argsToLocals, Value.category]; done) | rfl
set_option maxRecDepth 65536 in
set_option maxHeartbeats 40000000 in
theorem rm4d (l : Launch) (Z : State) (a0 : Array Value) (hw : ∀ d ∈ tables_1, d.before a0 Z = true) (ws : List Jvm.Cond) (a1 : Addr) (p2 : Int32) (am : Addr) (n : Nat) (f : Nat → Value) (h0 : Heap) (n0 : Nat) (Z0 : n0 ≤ h0.size) (hge : ¬ (p2 < (64 : Int32))) (F_more_a1 : Fld Z h0 a1 "murmuration/Sources" "more" "[J" (.ref am)) (A_am : Ary Z h0 am .long n f) (hn : n ≤ 15) (hout : ¬ ((p2 / (64 : Int32)) - (1 : Int32)).toNatClampNeg < n) :
    MetFree l (⟨"murmuration/Sources", "contains", "(I)Z"⟩ : MethodName) (head1 (Jvm.Cond.code (⟨"murmuration/Sources", "contains", "(I)Z"⟩ : MethodName) prog_57_method_2_code 3 (some .boolean) :: ws) ({ frames := 0, cells := 0, slots := 0, locals := 0 } : Room)) (fun a U => a = #[(.ref a1), (.int p2)] ∧ Z.Warmed39 U.vm ∧ U.heap = h0) (fun _ _ _ _ _ => True) (fun _ U o U' => ∃ v L, o = .returned v ∧ Q_rm4d Z a1 p2 am n f h0 n0 v U'.heap L ∧ FrameEnd U o U' L ({ frames := 0, cells := 0, slots := 0, locals := 0 } : Room).cells ({ frames := 0, cells := 0, slots := 0, locals := 0 } : Room).slots) := by
  refine MetFree.of_bodySF (plainFor_of_name pn_1) hisR ?_
  intro p e s m args below meth c s₁ Bd hml0 hP hK
  obtain ⟨rfl, hZ, hh⟩ := hP
  have hx := Bd.exec
  have hby := Bd.bytes
  have hml : c.maxLocals = 3 := hml0
  have hown : s.vm.findClass "murmuration/Sources" = some m.cls := findClass_of_methodNamed Bd.named
  have hnm := (name_of_methodNamed Bd.named Bd.method).1
  have X0 : Stand p l e ({ frames := 0, cells := 0, slots := 0, locals := 0 } : Room) s m #[(.ref a1), (.int p2)] below meth c s₁ [] 0 0 := Stand.of_body Bd
  have e0 : s₁.heap = h0 := by rw [← hh, Bd.state]; rfl
  have N0 := Fr.nil n0
  show Run p e below s 0 0 (Q_rm4d Z a1 p2 am n f h0 n0) (s₁.setTop (entryFrame m #[(.ref a1), (.int p2)] 3))
  refine Run.go (fun _ k => castTop (ef_rm4d m a1 p2) k) ?_
  show Run p e below s 0 0 (Q_rm4d Z a1 p2 am n f h0 n0) (s₁.setTop (mkF m 0 #[.val (.ref a1), .val (.int p2), .unset] []))
  refine Run.go (fun _ k => XS.iloadN X0.here hx rfl (hb hby d4_0) rfl  k) ?_
  show Run p e below s 0 0 (Q_rm4d Z a1 p2 am n f h0 n0) (s₁.setTop (mkF m 1 #[.val (.ref a1), .val (.int p2), .unset] [(.int p2)]))
  refine Run.go (fun _ k => XS.bipush X0.here hx rfl (hb hby d4_1) k) ?_
  show Run p e below s 0 0 (Q_rm4d Z a1 p2 am n f h0 n0) (s₁.setTop (mkF m 3 #[.val (.ref a1), .val (.int p2), .unset] [(.int (64 : Int32)), (.int p2)]))
  refine Run.go (fun _ k => XS.icmpYes X0.here hx rfl (pc0 := 3) (pc' := 25) rfl (hb hby d4_3) rfl (flt hge).2.1 (by decide) (by decide) k) ?_
  show Run p e below s 0 0 (Q_rm4d Z a1 p2 am n f h0 n0) (s₁.setTop (mkF m 25 #[.val (.ref a1), .val (.int p2), .unset] []))
  refine Run.go (fun _ k => XS.iloadN X0.here hx rfl (hb hby d4_25) rfl  k) ?_
  show Run p e below s 0 0 (Q_rm4d Z a1 p2 am n f h0 n0) (s₁.setTop (mkF m 26 #[.val (.ref a1), .val (.int p2), .unset] [(.int p2)]))
  refine Run.go (fun _ k => XS.bipush X0.here hx rfl (hb hby d4_26) k) ?_
  show Run p e below s 0 0 (Q_rm4d Z a1 p2 am n f h0 n0) (s₁.setTop (mkF m 28 #[.val (.ref a1), .val (.int p2), .unset] [(.int (64 : Int32)), (.int p2)]))
  refine Run.go (fun _ k => XS.idiv X0.here hx rfl (hb hby d4_28) rfl (by decide) k) ?_
  show Run p e below s 0 0 (Q_rm4d Z a1 p2 am n f h0 n0) (s₁.setTop (mkF m 29 #[.val (.ref a1), .val (.int p2), .unset] [(.int (p2 / (64 : Int32)))]))
  refine Run.go (fun _ k => XS.iconst X0.here hx rfl (hb hby d4_29) k) ?_
  show Run p e below s 0 0 (Q_rm4d Z a1 p2 am n f h0 n0) (s₁.setTop (mkF m 30 #[.val (.ref a1), .val (.int p2), .unset] [(.int (1 : Int32)), (.int (p2 / (64 : Int32)))]))
  refine Run.go (fun _ k => XS.isub X0.here hx rfl (hb hby d4_30) rfl k) ?_
  show Run p e below s 0 0 (Q_rm4d Z a1 p2 am n f h0 n0) (s₁.setTop (mkF m 31 #[.val (.ref a1), .val (.int p2), .unset] [(.int ((p2 / (64 : Int32)) - (1 : Int32)))]))
  refine Run.go (fun _ k => XS.istoreN X0.here hx rfl (hb hby d4_31) rfl (l' := #[.val (.ref a1), .val (.int p2), .val (.int ((p2 / (64 : Int32)) - (1 : Int32)))]) rfl k) ?_
  show Run p e below s 0 0 (Q_rm4d Z a1 p2 am n f h0 n0) (s₁.setTop (mkF m 32 #[.val (.ref a1), .val (.int p2), .val (.int ((p2 / (64 : Int32)) - (1 : Int32)))] []))
  refine Run.go (fun _ k => XS.aloadN X0.here hx rfl (hb hby d4_32) rfl rfl k) ?_
  show Run p e below s 0 0 (Q_rm4d Z a1 p2 am n f h0 n0) (s₁.setTop (mkF m 33 #[.val (.ref a1), .val (.int p2), .val (.int ((p2 / (64 : Int32)) - (1 : Int32)))] [(.ref a1)]))
  obtain ⟨T3, X3, e3, st3⟩ := getF X0 hx hZ hown (host := "") (Or.inl (hw _ (List.mem_of_getElem? (i := 25) rfl))) Via.refl e0 F_more_a1 (g := (mkF m 33 #[.val (.ref a1), .val (.int p2), .val (.int ((p2 / (64 : Int32)) - (1 : Int32)))] [(.ref a1)])) rfl rfl (hb hby d4_33)
  refine Run.go st3 ?_
  show Run p e below s 0 0 (Q_rm4d Z a1 p2 am n f h0 n0) (T3.setTop (mkF m 36 #[.val (.ref a1), .val (.int p2), .val (.int ((p2 / (64 : Int32)) - (1 : Int32)))] [(.ref am)]))
  refine Run.go (fun _ k => XS.ifnullNo X3.here hx rfl (hb hby d4_36) rfl k) ?_
  show Run p e below s 0 0 (Q_rm4d Z a1 p2 am n f h0 n0) (T3.setTop (mkF m 39 #[.val (.ref a1), .val (.int p2), .val (.int ((p2 / (64 : Int32)) - (1 : Int32)))] []))
  refine Run.go (fun _ k => XS.iloadN X3.here hx rfl (hb hby d4_39) rfl  k) ?_
  show Run p e below s 0 0 (Q_rm4d Z a1 p2 am n f h0 n0) (T3.setTop (mkF m 40 #[.val (.ref a1), .val (.int p2), .val (.int ((p2 / (64 : Int32)) - (1 : Int32)))] [(.int ((p2 / (64 : Int32)) - (1 : Int32)))]))
  refine Run.go (fun _ k => XS.aloadN X3.here hx rfl (hb hby d4_40) rfl rfl k) ?_
  show Run p e below s 0 0 (Q_rm4d Z a1 p2 am n f h0 n0) (T3.setTop (mkF m 41 #[.val (.ref a1), .val (.int p2), .val (.int ((p2 / (64 : Int32)) - (1 : Int32)))] [(.ref a1), (.int ((p2 / (64 : Int32)) - (1 : Int32)))]))
  obtain ⟨T4, X4, e4, st4⟩ := getF X3 hx hZ hown (host := "") (Or.inl (hw _ (List.mem_of_getElem? (i := 25) rfl))) Via.refl e3 F_more_a1 (g := (mkF m 41 #[.val (.ref a1), .val (.int p2), .val (.int ((p2 / (64 : Int32)) - (1 : Int32)))] [(.ref a1), (.int ((p2 / (64 : Int32)) - (1 : Int32)))])) rfl rfl (hb hby d4_41)
  refine Run.go st4 ?_
  show Run p e below s 0 0 (Q_rm4d Z a1 p2 am n f h0 n0) (T4.setTop (mkF m 44 #[.val (.ref a1), .val (.int p2), .val (.int ((p2 / (64 : Int32)) - (1 : Int32)))] [(.ref am), (.int ((p2 / (64 : Int32)) - (1 : Int32)))]))
  refine Run.go (fun _ k => ary_len X4 hx hZ e4 A_am (g := (mkF m 44 #[.val (.ref a1), .val (.int p2), .val (.int ((p2 / (64 : Int32)) - (1 : Int32)))] [(.ref am), (.int ((p2 / (64 : Int32)) - (1 : Int32)))])) rfl rfl (hb hby d4_44) (z := (n.toInt32)) rfl _ k) ?_
  show Run p e below s 0 0 (Q_rm4d Z a1 p2 am n f h0 n0) (T4.setTop (mkF m 45 #[.val (.ref a1), .val (.int p2), .val (.int ((p2 / (64 : Int32)) - (1 : Int32)))] [(.int (n.toInt32)), (.int ((p2 / (64 : Int32)) - (1 : Int32)))]))
  refine Run.go (fun _ k => XS.icmpYes X4.here hx rfl (pc0 := 45) (pc' := 67) rfl (hb hby d4_45) rfl (flt (mt (own_ltn (own_ix _ hge).2.1 (by omega)).mp hout)).2.1 (by decide) (by decide) k) ?_
  show Run p e below s 0 0 (Q_rm4d Z a1 p2 am n f h0 n0) (T4.setTop (mkF m 67 #[.val (.ref a1), .val (.int p2), .val (.int ((p2 / (64 : Int32)) - (1 : Int32)))] []))
  refine Run.go (fun _ k => XS.iconst X4.here hx rfl (hb hby d4_67) k) ?_
  show Run p e below s 0 0 (Q_rm4d Z a1 p2 am n f h0 n0) (T4.setTop (mkF m 68 #[.val (.ref a1), .val (.int p2), .val (.int ((p2 / (64 : Int32)) - (1 : Int32)))] [(.int (0 : Int32))]))
  refine Run.retN (y := (0 : Int32)) X4 hx (t := .boolean) Bd.returns (by simp) rfl Bd.notSynchronized (hb hby d4_68) (by decide) (by decide) ?_
  show Q_rm4d Z a1 p2 am n f h0 n0 _ T4.heap _
  exact ⟨rfl, N0, e4⟩
def own_lv : Value → Int64
  | .long x => x
  | _ => 0
def Src (Z : State) (n0 : Nat) (h : Heap) (a : Addr) (S : Nat → Prop) : Prop := ∃ w : Int64, Exa Z h a "murmuration/Sources" ∧ Fld Z h a "murmuration/Sources" "first" "J" (.long w) ∧ n0 ≤ a ∧
  ((Fld Z h a "murmuration/Sources" "more" "[J" .null ∧ ∀ q, S q ↔ (q < 64 ∧ own_bit w q)) ∨
   ∃ (am : Addr) (n : Nat) (f : Nat → Value), Fld Z h a "murmuration/Sources" "more" "[J" (.ref am) ∧ n0 ≤ am ∧ Ary Z h am .long n f ∧ n ≤ 15 ∧ (∀ i, i < n → ∃ x, f i = Value.long x) ∧ ∀ q, S q ↔ ((q < 64 ∧ own_bit w q) ∨ (64 ≤ q ∧ q / 64 - 1 < n ∧ own_bit (own_lv (f (q / 64 - 1))) (q % 64))))
theorem own_sm (p : Int32) (h0 : ¬ p < 0) : p.toBitVec.toNat % 64 = p.toNatClampNeg % 64 := by rw [own_nn p h0]
theorem own_add1 (w : Int64) (p : Int32) (h0 : ¬ p < 0) (h : p < (64 : Int32)) (q : Nat) : (q < 64 ∧ own_bit (w ||| ((1 : Int64) <<< (p &&& 0x3f).toInt64)) q) ↔ (q = p.toNatClampNeg ∨ (q < 64 ∧ own_bit w q)) := by
  have hp : p.toNatClampNeg < 64 := by
    rw [Int32.lt_iff_toInt_lt] at h
    have e : (64 : Int32).toInt = 64 := rfl
    rw [Int32.toNatClampNeg]; omega
  have hk := own_sm p h0
  rw [Nat.mod_eq_of_lt hp] at hk
  constructor
  · rintro ⟨a, b⟩
    rcases (own_or w p _ hk q a).mp b with c | c
    · exact Or.inr ⟨a, c⟩
    · exact Or.inl c
  · rintro (a | ⟨a, b⟩)
    · subst a; exact ⟨hp, (own_or w p _ hk _ hp).mpr (Or.inr rfl)⟩
    · exact ⟨a, (own_or w p _ hk q a).mpr (Or.inl b)⟩
theorem own_add2 (x : Int64) (p : Int32) (h0 : ¬ p < 0) (q : Nat) (h64 : 64 ≤ q) (hp64 : 64 ≤ p.toNatClampNeg) (e : q / 64 - 1 = p.toNatClampNeg / 64 - 1) : own_bit (x ||| ((1 : Int64) <<< (p &&& 0x3f).toInt64)) (q % 64) ↔ (q = p.toNatClampNeg ∨ own_bit x (q % 64)) := by
  rw [own_or x p _ (own_sm p h0) (q % 64) (Nat.mod_lt _ (by decide))]
  constructor
  · rintro (c | c)
    · exact Or.inr c
    · left; omega
  · rintro (c | c)
    · right; rw [c]
    · exact Or.inl c
theorem own_zero (k : Nat) : ¬ own_bit 0 k := by unfold own_bit; simp
def Q_rm5 (Z : State) (a1 : Addr) (p2 : Int32) (S : Nat → Prop) (h0 : Heap) (n0 : Nat) (v : Option Value) (h : Heap) (L : List Loc) : Prop := v = none ∧ Fr n0 L ∧ (h0.size ≤ h.size ∧ True) ∧ Exa Z h a1 "murmuration/Sources" ∧ Src Z n0 h a1 (fun x => x = p2.toNatClampNeg ∨ S x)
theorem rm5 (l : Launch) (Z : State) (a0 : Array Value) (hw : ∀ d ∈ tables_1, d.before a0 Z = true) (ws : List Jvm.Cond) (a1 : Addr) (p2 : Int32) (S : Nat → Prop) (h0 : Heap) (n0 : Nat) (Z0 : n0 ≤ h0.size) (hS : Src Z n0 h0 a1 S) (hp0 : ¬ p2 < 0) (hp : ¬ (1023 : Int32) < p2) :
    MetFree l (⟨"murmuration/Sources", "add", "(I)V"⟩ : MethodName) (head1 (Jvm.Cond.code (⟨"murmuration/Sources", "add", "(I)V"⟩ : MethodName) prog_57_method_3_code 3 none :: ws) ({ frames := 2, cells := 1, slots := 16, locals := 33 } : Room)) (fun a U => a = #[(.ref a1), (.int p2)] ∧ Z.Warmed39 U.vm ∧ U.heap = h0) (fun _ _ _ _ _ => True) (fun _ U o U' => ∃ v L, o = .returned v ∧ Q_rm5 Z a1 p2 S h0 n0 v U'.heap L ∧ FrameEnd U o U' L ({ frames := 2, cells := 1, slots := 16, locals := 33 } : Room).cells ({ frames := 2, cells := 1, slots := 16, locals := 33 } : Room).slots) := by
  intro p e ha hc hk s m args below hf happ hP hK
  obtain ⟨w, E, F1, ga, hm⟩ := hS
  by_cases hlt : p2 < (64 : Int32)
  · rcases hm with ⟨F2, hm⟩ | ⟨am, n, f, F2, gm, A, hn, hL, hm⟩
    · obtain ⟨k, o, h1, h2, h3, v, L, rfl, ⟨rfl, N, K, E', G1, G2⟩, hF⟩ := rm5a l Z a0 hw ws a1 p2 w .null h0 n0 Z0 E hlt F1 ga F2 p e ha hc hk s m args below hf happ hP hK
      refine ⟨k, _, h1, h2, h3, _, L, rfl, ⟨rfl, N, ⟨K.1, trivial⟩, E', _, E', G1, ga, Or.inl ⟨G2, fun q => ?_⟩⟩, hF⟩
      show (q = p2.toNatClampNeg ∨ S q) ↔ _
      rw [own_add1 w p2 hp0 hlt q, hm q]
    · obtain ⟨k, o, h1, h2, h3, v, L, rfl, ⟨rfl, N, K, E', G1, G2⟩, hF⟩ := rm5a l Z a0 hw ws a1 p2 w (.ref am) h0 n0 Z0 E hlt F1 ga F2 p e ha hc hk s m args below hf happ hP hK
      refine ⟨k, _, h1, h2, h3, _, L, rfl, ⟨rfl, N, ⟨K.1, trivial⟩, E', _, E', G1, ga, Or.inr ⟨am, n, f, G2, gm, A.keep K (ninS (Ary.ne A E (hw _ (List.mem_of_getElem? (i := 5) rfl))) nin0), hn, hL, fun q => ?_⟩⟩, hF⟩
      show (q = p2.toNatClampNeg ∨ S q) ↔ _
      rw [own_add1 w p2 hp0 hlt q, hm q, or_assoc]
  · obtain ⟨-, -, ix, h64, -⟩ := own_ix p2 hlt
    obtain ⟨-, i2, i3, i4⟩ := own_in2 p2 hlt hp
    rcases hm with ⟨F2, hm⟩ | ⟨am, n, f, F2, gm, A, hn, hL, hm⟩
    · obtain ⟨k, o, h1, h2, h3, v, L, rfl, ⟨b, rfl, N, K, hb, E', G2, G1, B⟩, hF⟩ := rm5b l Z a0 hw ws a1 p2 (.long w) h0 n0 Z0 E hp F2 hlt ga F1 p e ha hc hk s m args below hf happ hP hK
      rw [i2, ix] at B
      refine ⟨k, _, h1, h2, h3, _, L, rfl, ⟨rfl, N, ⟨K.1, trivial⟩, E', w, E', G1, ga, Or.inr ⟨b, _, _, G2, Nat.le_trans Z0 hb, B, i3, fun i hi => ?_, fun q => ?_⟩⟩, hF⟩
      · by_cases c : i = p2.toNatClampNeg / 64 - 1
        · exact ⟨_, if_pos c⟩
        · exact ⟨_, if_neg c⟩
      · show (q = p2.toNatClampNeg ∨ S q) ↔ _
        rw [hm q]
        constructor
        · rintro (c | c)
          · right
            refine ⟨by omega, by omega, ?_⟩
            rw [c]; simp only [if_pos]
            exact (own_add2 0 p2 hp0 _ h64 h64 rfl).mpr (Or.inl rfl)
          · exact Or.inl c
        · rintro (c | ⟨c1, c2, c3⟩)
          · exact Or.inr c
          · by_cases d : q / 64 - 1 = p2.toNatClampNeg / 64 - 1
            · rw [if_pos d] at c3
              rcases (own_add2 0 p2 hp0 q c1 h64 d).mp c3 with u | u
              · exact Or.inl u
              · exact absurd u (own_zero _)
            · rw [if_neg d] at c3
              exact absurd c3 (own_zero _)
    · by_cases hin : p2.toNatClampNeg / 64 - 1 < n
      · have hc39 : ((p2 / (64 : Int32)) - (1 : Int32)) < (n.toInt32) := (own_ltn (own_ix _ hlt).2.1 (by omega)).mpr (by omega)
        obtain ⟨k, o, h1, h2, h3, v, L, rfl, ⟨rfl, N, K, xx, hxx, B⟩, hF⟩ := rm5c l Z a0 hw ws a1 p2 am n f h0 n0 Z0 E hp F2 A hn hL hlt hc39 gm p e ha hc hk s m args below hf happ hP hK
        rw [ix] at B hxx
        have na : a1 ∉ [am] := ninS (Ary.ne A E (hw _ (List.mem_of_getElem? (i := 5) rfl))).symm nin0
        refine ⟨k, _, h1, h2, h3, _, L, rfl, ⟨rfl, N, ⟨K.1, trivial⟩, E.keep K, w, E.keep K, F1.keep K na, ga, Or.inr ⟨am, n, _, F2.keep K na, gm, B, hn, fun i hi => ?_, fun q => ?_⟩⟩, hF⟩
        · by_cases c : i = p2.toNatClampNeg / 64 - 1
          · exact ⟨_, if_pos c⟩
          · obtain ⟨y, hy⟩ := hL i hi
            exact ⟨y, (if_neg c).trans hy⟩
        · show (q = p2.toNatClampNeg ∨ S q) ↔ _
          rw [hm q]
          constructor
          · rintro (c | c | ⟨c1, c2, c3⟩)
            · right
              refine ⟨by omega, by omega, ?_⟩
              rw [c]; simp only [if_pos]
              exact (own_add2 xx p2 hp0 _ h64 h64 rfl).mpr (Or.inl rfl)
            · exact Or.inl c
            · right
              refine ⟨c1, c2, ?_⟩
              by_cases d : q / 64 - 1 = p2.toNatClampNeg / 64 - 1
              · rw [if_pos d]
                rw [d, hxx] at c3
                exact (own_add2 xx p2 hp0 q c1 h64 d).mpr (Or.inr c3)
              · rw [if_neg d]; exact c3
          · rintro (c | ⟨c1, c2, c3⟩)
            · exact Or.inr (Or.inl c)
            · by_cases d : q / 64 - 1 = p2.toNatClampNeg / 64 - 1
              · rw [if_pos d] at c3
                rcases (own_add2 xx p2 hp0 q c1 h64 d).mp c3 with u | u
                · exact Or.inl u
                · exact Or.inr (Or.inr ⟨c1, c2, by rw [d, hxx]; exact u⟩)
              · rw [if_neg d] at c3
                exact Or.inr (Or.inr ⟨c1, c2, c3⟩)
      · have hc39 : ¬ (((p2 / (64 : Int32)) - (1 : Int32)) < (n.toInt32)) := mt (own_ltn (own_ix _ hlt).2.1 (by omega)).mp (by omega)
        obtain ⟨k, o, h1, h2, h3, v, L, rfl, ⟨b, rfl, N, K, hb, E', G2, G1, B⟩, hF⟩ := rm5d l Z a0 hw ws a1 p2 am n f (.long w) h0 n0 Z0 E hp F2 A hn hL hlt hc39 ga F1 p e ha hc hk s m args below hf happ hP hK
        rw [i2, ix] at B
        refine ⟨k, _, h1, h2, h3, _, L, rfl, ⟨rfl, N, ⟨K.1, trivial⟩, E', w, E', G1, ga, Or.inr ⟨b, _, _, G2, Nat.le_trans Z0 hb, B, i3, fun i hi => ?_, fun q => ?_⟩⟩, hF⟩
        · by_cases c : i = p2.toNatClampNeg / 64 - 1
          · exact ⟨_, if_pos c⟩
          · by_cases d : i < n
            · obtain ⟨y, hy⟩ := hL i d
              exact ⟨y, (if_neg c).trans ((if_pos d).trans hy)⟩
            · exact ⟨_, (if_neg c).trans (if_neg d)⟩
        · show (q = p2.toNatClampNeg ∨ S q) ↔ _
          rw [hm q]
          constructor
          · rintro (c | c | ⟨c1, c2, c3⟩)
            · right
              refine ⟨by omega, by omega, ?_⟩
              rw [c]; simp only [if_pos]
              exact (own_add2 0 p2 hp0 _ h64 h64 rfl).mpr (Or.inl rfl)
            · exact Or.inl c
            · right
              refine ⟨c1, by omega, ?_⟩
              rw [if_neg (by omega)]
              show own_bit (own_lv (if q / 64 - 1 < n then f (q / 64 - 1) else Value.long 0)) (q % 64)
              rw [if_pos c2]; exact c3
          · rintro (c | ⟨c1, c2, c3⟩)
            · exact Or.inr (Or.inl c)
            · by_cases d : q / 64 - 1 = p2.toNatClampNeg / 64 - 1
              · rw [if_pos d] at c3
                rcases (own_add2 0 p2 hp0 q c1 h64 d).mp c3 with u | u
                · exact Or.inl u
                · exact absurd u (own_zero _)
              · rw [if_neg d] at c3
                have c3 : own_bit (own_lv (if q / 64 - 1 < n then f (q / 64 - 1) else Value.long 0)) (q % 64) := c3
                by_cases d2 : q / 64 - 1 < n
                · rw [if_pos d2] at c3
                  exact Or.inr (Or.inr ⟨c1, d2, c3⟩)
                · rw [if_neg d2] at c3
                  exact absurd c3 (own_zero _)
def Q_rm4 (Z : State) (a1 : Addr) (p2 : Int32) (S : Nat → Prop) (h0 : Heap) (n0 : Nat) (v : Option Value) (h : Heap) (L : List Loc) : Prop := ∃ r : Int32, v = some (.int r) ∧ Fr n0 L ∧ h = h0 ∧ ((r = 1 ∧ S p2.toNatClampNeg) ∨ (r = 0 ∧ ¬ S p2.toNatClampNeg))
theorem rm4 (l : Launch) (Z : State) (a0 : Array Value) (hw : ∀ d ∈ tables_1, d.before a0 Z = true) (ws : List Jvm.Cond) (a1 : Addr) (p2 : Int32) (S : Nat → Prop) (h0 : Heap) (n0 : Nat) (Z0 : n0 ≤ h0.size) (hS : Src Z n0 h0 a1 S) (hp0 : ¬ p2 < 0) :
    MetFree l (⟨"murmuration/Sources", "contains", "(I)Z"⟩ : MethodName) (head1 (Jvm.Cond.code (⟨"murmuration/Sources", "contains", "(I)Z"⟩ : MethodName) prog_57_method_2_code 3 (some .boolean) :: ws) ({ frames := 0, cells := 0, slots := 0, locals := 0 } : Room)) (fun a U => a = #[(.ref a1), (.int p2)] ∧ Z.Warmed39 U.vm ∧ U.heap = h0) (fun _ _ _ _ _ => True) (fun _ U o U' => ∃ v L, o = .returned v ∧ Q_rm4 Z a1 p2 S h0 n0 v U'.heap L ∧ FrameEnd U o U' L ({ frames := 0, cells := 0, slots := 0, locals := 0 } : Room).cells ({ frames := 0, cells := 0, slots := 0, locals := 0 } : Room).slots) := by
  intro p e ha hc hk s m args below hf happ hP hK
  obtain ⟨w, E, F1, ga, hm⟩ := hS
  by_cases hlt : p2 < (64 : Int32)
  · have hp : p2.toNatClampNeg < 64 := by
      rw [Int32.lt_iff_toInt_lt] at hlt
      have e : (64 : Int32).toInt = 64 := rfl
      rw [Int32.toNatClampNeg]; omega
    have hb := own_and w p2 _ (own_sm p2 hp0)
    rw [Nat.mod_eq_of_lt hp] at hb
    obtain ⟨k, o, h1, h2, h3, v, L, rfl, ⟨rfl, N, K⟩, hF⟩ := rm4a l Z a0 hw ws a1 p2 w h0 n0 Z0 hlt F1 p e ha hc hk s m args below hf happ hP hK
    refine ⟨k, _, h1, h2, h3, _, L, rfl, ⟨_, rfl, N, K, ?_⟩, hF⟩
    have hs : S p2.toNatClampNeg ↔ own_bit w p2.toNatClampNeg := by
      rcases hm with ⟨F2, hm⟩ | ⟨am, n, f, F2, gm, A, hn, hL, hm⟩
      · rw [hm]; exact ⟨fun q => q.2, fun q => ⟨hp, q⟩⟩
      · rw [hm]; exact ⟨fun q => q.elim (fun q => q.2) (fun q => absurd q.1 (by omega)), fun q => Or.inl ⟨hp, q⟩⟩
    rw [hs]
    by_cases c : own_bit w p2.toNatClampNeg
    · left; refine ⟨?_, c⟩
      exact if_pos (fun q => hb.mp q c)
    · right; refine ⟨?_, c⟩
      exact if_neg (fun q => q (hb.mpr c))
  · obtain ⟨-, -, ix, h64, -⟩ := own_ix p2 hlt
    rcases hm with ⟨F2, hm⟩ | ⟨am, n, f, F2, gm, A, hn, hL, hm⟩
    · obtain ⟨k, o, h1, h2, h3, v, L, rfl, ⟨rfl, N, K⟩, hF⟩ := rm4b l Z a0 hw ws a1 p2 h0 n0 Z0 hlt F2 p e ha hc hk s m args below hf happ hP hK
      refine ⟨k, _, h1, h2, h3, _, L, rfl, ⟨_, rfl, N, K, Or.inr ⟨rfl, ?_⟩⟩, hF⟩
      rw [hm]; omega
    · by_cases hin : p2.toNatClampNeg / 64 - 1 < n
      · obtain ⟨x, hx⟩ := hL _ hin
        have hb := own_and x p2 _ (own_sm p2 hp0)
        obtain ⟨k, o, h1, h2, h3, v, L, rfl, ⟨rfl, N, K⟩, hF⟩ := rm4c l Z a0 hw ws a1 p2 am n f x h0 n0 Z0 hlt F2 A hn (by rw [ix]; exact hx) (by rw [ix]; exact hin) p e ha hc hk s m args below hf happ hP hK
        refine ⟨k, _, h1, h2, h3, _, L, rfl, ⟨_, rfl, N, K, ?_⟩, hF⟩
        have hs : S p2.toNatClampNeg ↔ own_bit x (p2.toNatClampNeg % 64) := by
          rw [hm, hx]; exact ⟨fun q => q.elim (fun q => absurd q.1 (by omega)) (fun q => q.2.2), fun q => Or.inr ⟨h64, hin, q⟩⟩
        rw [hs]
        by_cases c : own_bit x (p2.toNatClampNeg % 64)
        · left; refine ⟨?_, c⟩
          exact if_pos (fun q => hb.mp q c)
        · right; refine ⟨?_, c⟩
          exact if_neg (fun q => q (hb.mpr c))
      · obtain ⟨k, o, h1, h2, h3, v, L, rfl, ⟨rfl, N, K⟩, hF⟩ := rm4d l Z a0 hw ws a1 p2 am n f h0 n0 Z0 hlt F2 A hn (by rw [ix]; exact hin) p e ha hc hk s m args below hf happ hP hK
        refine ⟨k, _, h1, h2, h3, _, L, rfl, ⟨_, rfl, N, K, Or.inr ⟨rfl, ?_⟩⟩, hF⟩
        rw [hm]; rintro (q | ⟨q1, q2, -⟩)
        · omega
        · exact hin q2
theorem own_pk (x : Int32) : ¬ (F_rm1 x) < 0 ∧ ¬ (1023 : Int32) < (F_rm1 x) := by
  have h := c_and x 1023 (by decide)
  have h2 := c_and (x &&& (1023 : Int32)) 63 (by decide)
  have e1 : (1023 : Int32).toInt = 1023 := rfl
  have e2 : (63 : Int32).toInt = 63 := rfl
  have e0 : (0 : Int32).toInt = 0 := rfl
  unfold F_rm1
  simp only [Int32.lt_iff_toInt_lt]
  split <;> omega
theorem own_xor (a b : Int32) (ha : ¬ a < 0) (hb : ¬ b < 0) : ¬ (a ^^^ b) < 0 := by
  have e0 : (0 : Int32).toInt = 0 := rfl
  rw [Int32.lt_iff_toInt_lt] at *
  have := (c_xorS a b).2.2.2 (by omega) (by omega)
  omega
theorem own_shl (k : Int32) : ¬ ((1 : Int32) <<< ((k &&& (15 : Int32)) &&& 31)) < 0 := by
  have h := c_and k 15 (by decide)
  have e1 : (15 : Int32).toInt = 15 := rfl
  have e0 : (0 : Int32).toInt = 0 := rfl
  have q := shlrI (b := 0) (U := 32768) (x := 1) (K := 15) (by decide) (k &&& (15 : Int32)) h.1 (by omega)
  rw [Int32.lt_iff_toInt_lt]; omega
theorem own_max (k : Int32) : ¬ (k &&& (2147483647 : Int32)) < 0 := by
  have h := c_and k 2147483647 (by decide)
  have e0 : (0 : Int32).toInt = 0 := rfl
  rw [Int32.lt_iff_toInt_lt]; omega
theorem own_ite6 (c1 c2 c3 c4 c5 : Prop) [Decidable c1] [Decidable c2] [Decidable c3] [Decidable c4] [Decidable c5] (x1 x2 x3 x4 x5 x6 : Int32) (h1 : ¬ x1 < 0) (h2 : ¬ x2 < 0) (h3 : ¬ x3 < 0) (h4 : ¬ x4 < 0) (h5 : ¬ x5 < 0) (h6 : ¬ x6 < 0) : ¬ (if c1 then x1 else (if c2 then x2 else (if c3 then x3 else (if c4 then x4 else (if c5 then x5 else x6))))) < 0 := by
  (repeat' split) <;> assumption
theorem own_nat (a b : Int32) (ha : ¬ a < 0) (hb : ¬ b < 0) : a.toNatClampNeg = b.toNatClampNeg ↔ a = b := by
  have e0 : (0 : Int32).toInt = 0 := rfl
  rw [Int32.lt_iff_toInt_lt] at *
  rw [← Int32.toInt_inj, Int32.toNatClampNeg, Int32.toNatClampNeg]; omega
theorem own_fin (c1 c2 c3 : Prop) [Decidable c1] [Decidable c2] [Decidable c3] (a b c q r w : Int32) (S1 S2 S3 : Nat → Prop) (hr : (r = 1 ∧ S3 q.toNatClampNeg) ∨ (r = 0 ∧ ¬ S3 q.toNatClampNeg)) (hw : w = (if ((c1 ∧ ((c2 ∧ ((¬ c3) ∧ (q = c))) ∨ ((¬ c2) ∧ ((q = b) ∨ ((¬ c3) ∧ (q = c)))))) ∨ ((¬ c1) ∧ ((q = a) ∨ ((c2 ∧ ((¬ c3) ∧ (q = c))) ∨ ((¬ c2) ∧ ((q = b) ∨ ((¬ c3) ∧ (q = c)))))))) then (1 : Int32) else 0))
    (h1 : ∀ x, S1 x ↔ ((¬ c1 ∧ x = a.toNatClampNeg) ∨ (fun _ => False) x)) (h2 : ∀ x, S2 x ↔ ((¬ c2 ∧ x = b.toNatClampNeg) ∨ S1 x)) (h3 : ∀ x, S3 x ↔ ((¬ c3 ∧ x = c.toNatClampNeg) ∨ S2 x)) (ha : ¬ a < 0) (hb : ¬ b < 0) (hc : ¬ c < 0) (hq : ¬ q < 0) : r = w := by
  have k : S3 q.toNatClampNeg ↔ ((c1 ∧ ((c2 ∧ ((¬ c3) ∧ (q = c))) ∨ ((¬ c2) ∧ ((q = b) ∨ ((¬ c3) ∧ (q = c)))))) ∨ ((¬ c1) ∧ ((q = a) ∨ ((c2 ∧ ((¬ c3) ∧ (q = c))) ∨ ((¬ c2) ∧ ((q = b) ∨ ((¬ c3) ∧ (q = c)))))))) := by
    rw [h3, h2, h1, own_nat q a hq ha, own_nat q b hq hb, own_nat q c hq hc]
    generalize (q = a) = A
    generalize (q = b) = B
    generalize (q = c) = C
    by_cases d1 : c1 <;> by_cases d2 : c2 <;> by_cases d3 : c3 <;> by_cases e1 : A <;> by_cases e2 : B <;> by_cases e3 : C <;> simp [d1, d2, d3, e1, e2, e3]
  subst hw
  rcases hr with ⟨r1, r2⟩ | ⟨r1, r2⟩
  · rw [r1, if_pos (k.mp r2)]
  · rw [r1, if_neg (fun z => r2 (k.mpr z))]
theorem pd_2 : parseMethodDescriptor "(I)I" = some ⟨[.int], some .int⟩ := by decide +kernel
theorem pd_3 : parseMethodDescriptor "()V" = some ⟨[], none⟩ := by decide +kernel
theorem pd_4 : parseMethodDescriptor "(I)Z" = some ⟨[.int], some .boolean⟩ := by decide +kernel
theorem pd_5 : parseMethodDescriptor "(I)V" = some ⟨[.int], none⟩ := by decide +kernel
def Q_rm0 (Z : State) (p1 : Int32) (p2 : Int32) (p3 : Int32) (p4 : Int32) (p5 : Int32) (h0 : Heap) (n0 : Nat) (v : Option Value) (h : Heap) (L : List Loc) : Prop := v = some (.int 1) ∧ Fr n0 L
theorem ef_rm0 (m : MethodId) (x0 : Int32) (x1 : Int32) (x2 : Int32) (x3 : Int32) (x4 : Int32) : entryFrame m #[(.int x0), (.int x1), (.int x2), (.int x3), (.int x4)] maxLocals = mkF m 0 #[.val (.int x0), .val (.int x1), .val (.int x2), .val (.int x3), .val (.int x4), .unset, .unset, .unset, .unset, .unset, .unset, .unset, .unset] [] := by first | (simp [entryFrame, mkF, argsToLocals, Value.category, maxLocals]; done) | rfl
set_option maxRecDepth 65536 in
set_option maxHeartbeats 40000000 in
theorem rm0 (l : Launch) (Z : State) (a0 : Array Value) (hw : ∀ d ∈ tables_1, d.before a0 Z = true) (ws : List Jvm.Cond) (p1 : Int32) (p2 : Int32) (p3 : Int32) (p4 : Int32) (p5 : Int32) (h0 : Heap) (n0 : Nat) (Z0 : n0 ≤ h0.size)  :
    MetFree l x (head1 (Jvm.Cond.code x code maxLocals ret :: ws) room_1) (fun a U => a = #[(.int p1), (.int p2), (.int p3), (.int p4), (.int p5)] ∧ Z.Warmed39 U.vm ∧ U.heap = h0) (fun _ _ _ _ _ => True) (fun _ U o U' => ∃ v L, o = .returned v ∧ Q_rm0 Z p1 p2 p3 p4 p5 h0 n0 v U'.heap L ∧ FrameEnd U o U' L 4 50) := by
  refine MetFree.of_bodySF (plainFor_of_name pn_0) hisR ?_
  intro p e s m args below meth c s₁ Bd hml0 hP hK
  obtain ⟨rfl, hZ, hh⟩ := hP
  have hx := Bd.exec
  have hby := Bd.bytes
  have hml : c.maxLocals = 13 := hml0
  have hown : s.vm.findClass "murmuration/SourcesContainsPinLaw" = some m.cls := findClass_of_methodNamed Bd.named
  have hnm := (name_of_methodNamed Bd.named Bd.method).1
  have X0 : Stand p l e room_1 s m #[(.int p1), (.int p2), (.int p3), (.int p4), (.int p5)] below meth c s₁ [] 0 0 := Stand.of_body Bd
  have e0 : s₁.heap = h0 := by rw [← hh, Bd.state]; rfl
  have N0 := Fr.nil n0
  show Run p e below s 4 50 (Q_rm0 Z p1 p2 p3 p4 p5 h0 n0) (s₁.setTop (entryFrame m #[(.int p1), (.int p2), (.int p3), (.int p4), (.int p5)] maxLocals))
  refine Run.go (fun _ k => castTop (ef_rm0 m p1 p2 p3 p4 p5) k) ?_
  show Run p e below s 4 50 (Q_rm0 Z p1 p2 p3 p4 p5 h0 n0) (s₁.setTop (mkF m 0 #[.val (.int p1), .val (.int p2), .val (.int p3), .val (.int p4), .val (.int p5), .unset, .unset, .unset, .unset, .unset, .unset, .unset, .unset] []))
  refine Run.go (fun _ k => XS.iloadN X0.here hx rfl (hb hby at_0) rfl  k) ?_
  show Run p e below s 4 50 (Q_rm0 Z p1 p2 p3 p4 p5 h0 n0) (s₁.setTop (mkF m 1 #[.val (.int p1), .val (.int p2), .val (.int p3), .val (.int p4), .val (.int p5), .unset, .unset, .unset, .unset, .unset, .unset, .unset, .unset] [(.int p1)]))
  obtain ⟨_, _, ⟨T6, L6, k6, n6⟩, -, X6, ⟨Lc6, hQ6, l6, y6, z6⟩, st6⟩ := Jvm.LawKit.callS X0 hx (y := (⟨"murmuration/SourcesContainsPinLaw", "pick", "(I)I"⟩ : MethodName)) hown (mvT hZ (hw _ (List.mem_of_getElem? (i := 0) rfl))) (mvT hZ (hw _ (List.mem_of_getElem? (i := 1) rfl))) (mvT hZ (hw _ (List.mem_of_getElem? (i := 2) rfl))) (mvT hZ (hw _ (List.mem_of_getElem? (i := 3) rfl))) (by decide) (backOf (W := 0) (rm1 l Z a0 hw [] p1 h0 n0 Z0 ) hZ (hw _ (List.mem_of_getElem? (i := 3) rfl)) (hw _ (List.mem_of_getElem? (i := 2) rfl)) (by decide) (by decide)) (g := (mkF m 1 #[.val (.int p1), .val (.int p2), .val (.int p3), .val (.int p4), .val (.int p5), .unset, .unset, .unset, .unset, .unset, .unset, .unset, .unset] [(.int p1)])) rfl (by rw [hml]; rfl) (argsL := [(.int p1)]) (rest := []) (lenOf pd_2 rfl) rfl (by show 2 * 0 + _ ≤ _; exact Nat.le_of_eq rfl) (hb hby at_1) (fun _ _ => ⟨rfl, e0, (by decide : 0 + 0 ≤ _), (by decide : 0 + 0 ≤ _)⟩)
  dsimp only [Pt.U, Pt.locs, Pt.cells, Pt.slots] at X6 l6 y6 z6 st6 hQ6
  subst l6 y6 z6
  obtain ⟨rfl, N6q, e6q⟩ := hQ6
  have N6 := Fr.app N0 N6q
  obtain ⟨Lg6, Xg6, Ng6⟩ := Stand_gen X6 N6
  refine Run.go st6 ?_
  show Run p e below s 4 50 (Q_rm0 Z p1 p2 p3 p4 p5 h0 n0) (T6.setTop (mkF m 4 #[.val (.int p1), .val (.int p2), .val (.int p3), .val (.int p4), .val (.int p5), .unset, .unset, .unset, .unset, .unset, .unset, .unset, .unset] [(.int (F_rm1 p1))]))
  refine Run.go (fun _ k => XS.istore Xg6.here hx rfl (hb hby at_4) rfl (l' := #[.val (.int p1), .val (.int p2), .val (.int p3), .val (.int p4), .val (.int p5), .val (.int (F_rm1 p1)), .unset, .unset, .unset, .unset, .unset, .unset, .unset]) rfl k) ?_
  show Run p e below s 4 50 (Q_rm0 Z p1 p2 p3 p4 p5 h0 n0) (T6.setTop (mkF m 6 #[.val (.int p1), .val (.int p2), .val (.int p3), .val (.int p4), .val (.int p5), .val (.int (F_rm1 p1)), .unset, .unset, .unset, .unset, .unset, .unset, .unset] []))
  refine Run.go (fun _ k => XS.iloadN Xg6.here hx rfl (hb hby at_6) rfl  k) ?_
  show Run p e below s 4 50 (Q_rm0 Z p1 p2 p3 p4 p5 h0 n0) (T6.setTop (mkF m 7 #[.val (.int p1), .val (.int p2), .val (.int p3), .val (.int p4), .val (.int p5), .val (.int (F_rm1 p1)), .unset, .unset, .unset, .unset, .unset, .unset, .unset] [(.int p2)]))
  obtain ⟨_, _, ⟨T7, L7, k7, n7⟩, -, X7, ⟨Lc7, hQ7, l7, y7, z7⟩, st7⟩ := Jvm.LawKit.callS Xg6 hx (y := (⟨"murmuration/SourcesContainsPinLaw", "pick", "(I)I"⟩ : MethodName)) hown (mvT hZ (hw _ (List.mem_of_getElem? (i := 0) rfl))) (mvT hZ (hw _ (List.mem_of_getElem? (i := 1) rfl))) (mvT hZ (hw _ (List.mem_of_getElem? (i := 2) rfl))) (mvT hZ (hw _ (List.mem_of_getElem? (i := 3) rfl))) (by decide) (backOf (W := 0) (rm1 l Z a0 hw [] p2 h0 n0 Z0 ) hZ (hw _ (List.mem_of_getElem? (i := 3) rfl)) (hw _ (List.mem_of_getElem? (i := 2) rfl)) (by decide) (by decide)) (g := (mkF m 7 #[.val (.int p1), .val (.int p2), .val (.int p3), .val (.int p4), .val (.int p5), .val (.int (F_rm1 p1)), .unset, .unset, .unset, .unset, .unset, .unset, .unset] [(.int p2)])) rfl (by rw [hml]; rfl) (argsL := [(.int p2)]) (rest := []) (lenOf pd_2 rfl) rfl (by show 2 * 0 + _ ≤ _; exact Nat.le_of_eq rfl) (hb hby at_7) (fun _ _ => ⟨rfl, e6q, (by decide : 0 + 0 ≤ _), (by decide : 0 + 0 ≤ _)⟩)
  dsimp only [Pt.U, Pt.locs, Pt.cells, Pt.slots] at X7 l7 y7 z7 st7 hQ7
  subst l7 y7 z7
  obtain ⟨rfl, N7q, e7q⟩ := hQ7
  have N7 := Fr.app Ng6 N7q
  obtain ⟨Lg7, Xg7, Ng7⟩ := Stand_gen X7 N7
  refine Run.go st7 ?_
  show Run p e below s 4 50 (Q_rm0 Z p1 p2 p3 p4 p5 h0 n0) (T7.setTop (mkF m 10 #[.val (.int p1), .val (.int p2), .val (.int p3), .val (.int p4), .val (.int p5), .val (.int (F_rm1 p1)), .unset, .unset, .unset, .unset, .unset, .unset, .unset] [(.int (F_rm1 p2))]))
  refine Run.go (fun _ k => XS.istore Xg7.here hx rfl (hb hby at_10) rfl (l' := #[.val (.int p1), .val (.int p2), .val (.int p3), .val (.int p4), .val (.int p5), .val (.int (F_rm1 p1)), .val (.int (F_rm1 p2)), .unset, .unset, .unset, .unset, .unset, .unset]) rfl k) ?_
  show Run p e below s 4 50 (Q_rm0 Z p1 p2 p3 p4 p5 h0 n0) (T7.setTop (mkF m 12 #[.val (.int p1), .val (.int p2), .val (.int p3), .val (.int p4), .val (.int p5), .val (.int (F_rm1 p1)), .val (.int (F_rm1 p2)), .unset, .unset, .unset, .unset, .unset, .unset] []))
  refine Run.go (fun _ k => XS.iloadN Xg7.here hx rfl (hb hby at_12) rfl  k) ?_
  show Run p e below s 4 50 (Q_rm0 Z p1 p2 p3 p4 p5 h0 n0) (T7.setTop (mkF m 13 #[.val (.int p1), .val (.int p2), .val (.int p3), .val (.int p4), .val (.int p5), .val (.int (F_rm1 p1)), .val (.int (F_rm1 p2)), .unset, .unset, .unset, .unset, .unset, .unset] [(.int p3)]))
  obtain ⟨_, _, ⟨T8, L8, k8, n8⟩, -, X8, ⟨Lc8, hQ8, l8, y8, z8⟩, st8⟩ := Jvm.LawKit.callS Xg7 hx (y := (⟨"murmuration/SourcesContainsPinLaw", "pick", "(I)I"⟩ : MethodName)) hown (mvT hZ (hw _ (List.mem_of_getElem? (i := 0) rfl))) (mvT hZ (hw _ (List.mem_of_getElem? (i := 1) rfl))) (mvT hZ (hw _ (List.mem_of_getElem? (i := 2) rfl))) (mvT hZ (hw _ (List.mem_of_getElem? (i := 3) rfl))) (by decide) (backOf (W := 0) (rm1 l Z a0 hw [] p3 h0 n0 Z0 ) hZ (hw _ (List.mem_of_getElem? (i := 3) rfl)) (hw _ (List.mem_of_getElem? (i := 2) rfl)) (by decide) (by decide)) (g := (mkF m 13 #[.val (.int p1), .val (.int p2), .val (.int p3), .val (.int p4), .val (.int p5), .val (.int (F_rm1 p1)), .val (.int (F_rm1 p2)), .unset, .unset, .unset, .unset, .unset, .unset] [(.int p3)])) rfl (by rw [hml]; rfl) (argsL := [(.int p3)]) (rest := []) (lenOf pd_2 rfl) rfl (by show 2 * 0 + _ ≤ _; exact Nat.le_of_eq rfl) (hb hby at_13) (fun _ _ => ⟨rfl, e7q, (by decide : 0 + 0 ≤ _), (by decide : 0 + 0 ≤ _)⟩)
  dsimp only [Pt.U, Pt.locs, Pt.cells, Pt.slots] at X8 l8 y8 z8 st8 hQ8
  subst l8 y8 z8
  obtain ⟨rfl, N8q, e8q⟩ := hQ8
  have N8 := Fr.app Ng7 N8q
  obtain ⟨Lg8, Xg8, Ng8⟩ := Stand_gen X8 N8
  refine Run.go st8 ?_
  show Run p e below s 4 50 (Q_rm0 Z p1 p2 p3 p4 p5 h0 n0) (T8.setTop (mkF m 16 #[.val (.int p1), .val (.int p2), .val (.int p3), .val (.int p4), .val (.int p5), .val (.int (F_rm1 p1)), .val (.int (F_rm1 p2)), .unset, .unset, .unset, .unset, .unset, .unset] [(.int (F_rm1 p3))]))
  refine Run.go (fun _ k => XS.istore Xg8.here hx rfl (hb hby at_16) rfl (l' := #[.val (.int p1), .val (.int p2), .val (.int p3), .val (.int p4), .val (.int p5), .val (.int (F_rm1 p1)), .val (.int (F_rm1 p2)), .val (.int (F_rm1 p3)), .unset, .unset, .unset, .unset, .unset]) rfl k) ?_
  show Run p e below s 4 50 (Q_rm0 Z p1 p2 p3 p4 p5 h0 n0) (T8.setTop (mkF m 18 #[.val (.int p1), .val (.int p2), .val (.int p3), .val (.int p4), .val (.int p5), .val (.int (F_rm1 p1)), .val (.int (F_rm1 p2)), .val (.int (F_rm1 p3)), .unset, .unset, .unset, .unset, .unset] []))
  refine Run.go (fun _ k => XS.iload Xg8.here hx rfl (hb hby at_18) rfl  k) ?_
  show Run p e below s 4 50 (Q_rm0 Z p1 p2 p3 p4 p5 h0 n0) (T8.setTop (mkF m 20 #[.val (.int p1), .val (.int p2), .val (.int p3), .val (.int p4), .val (.int p5), .val (.int (F_rm1 p1)), .val (.int (F_rm1 p2)), .val (.int (F_rm1 p3)), .unset, .unset, .unset, .unset, .unset] [(.int p5)]))
  refine Run.go (fun _ k => XS.iconst Xg8.here hx rfl (hb hby at_20) k) ?_
  show Run p e below s 4 50 (Q_rm0 Z p1 p2 p3 p4 p5 h0 n0) (T8.setTop (mkF m 21 #[.val (.int p1), .val (.int p2), .val (.int p3), .val (.int p4), .val (.int p5), .val (.int (F_rm1 p1)), .val (.int (F_rm1 p2)), .val (.int (F_rm1 p3)), .unset, .unset, .unset, .unset, .unset] [(.int (3 : Int32)), (.int p5)]))
  refine Run.go (fun _ k => XS.iand Xg8.here hx rfl (hb hby at_21) rfl k) ?_
  show Run p e below s 4 50 (Q_rm0 Z p1 p2 p3 p4 p5 h0 n0) (T8.setTop (mkF m 22 #[.val (.int p1), .val (.int p2), .val (.int p3), .val (.int p4), .val (.int p5), .val (.int (F_rm1 p1)), .val (.int (F_rm1 p2)), .val (.int (F_rm1 p3)), .unset, .unset, .unset, .unset, .unset] [(.int (p5 &&& (3 : Int32)))]))
  refine Run.go (fun _ k => XS.istore Xg8.here hx rfl (hb hby at_22) rfl (l' := #[.val (.int p1), .val (.int p2), .val (.int p3), .val (.int p4), .val (.int p5), .val (.int (F_rm1 p1)), .val (.int (F_rm1 p2)), .val (.int (F_rm1 p3)), .val (.int (p5 &&& (3 : Int32))), .unset, .unset, .unset, .unset]) rfl k) ?_
  show Run p e below s 4 50 (Q_rm0 Z p1 p2 p3 p4 p5 h0 n0) (T8.setTop (mkF m 24 #[.val (.int p1), .val (.int p2), .val (.int p3), .val (.int p4), .val (.int p5), .val (.int (F_rm1 p1)), .val (.int (F_rm1 p2)), .val (.int (F_rm1 p3)), .val (.int (p5 &&& (3 : Int32))), .unset, .unset, .unset, .unset] []))
  obtain ⟨T9, h9, X9, e9, E9, A9, D9, -, st9⟩ := newO Xg8 hx hZ hown (hw _ (List.mem_of_getElem? (i := 4) rfl)) (hw _ (List.mem_of_getElem? (i := 5) rfl)) (hw _ (List.mem_of_getElem? (i := 6) rfl)) e8q (g := (mkF m 24 #[.val (.int p1), .val (.int p2), .val (.int p3), .val (.int p4), .val (.int p5), .val (.int (F_rm1 p1)), .val (.int (F_rm1 p2)), .val (.int (F_rm1 p3)), .val (.int (p5 &&& (3 : Int32))), .unset, .unset, .unset, .unset] [])) rfl (hb hby at_24) (by decide) (by decide)
  obtain ⟨b_s, g9⟩ : ∃ z, z = h0.size := ⟨_, rfl⟩
  rw [← g9] at A9 D9 st9
  have g_b_s : n0 ≤ b_s := Nat.le_trans Z0 (Nat.le_of_eq g9.symm)
  have Z9 : n0 ≤ h9.size := Nat.le_trans Z0 E9.1
  have fx10 : Fld Z h9 b_s "murmuration/Sources" "first" "J" (.long (0 : Int64)) := D9 (Or.inl (hw _ (List.mem_of_getElem? (i := 19) rfl))) (ty := .long) (by decide)
  have fx11 : Fld Z h9 b_s "murmuration/Sources" "more" "[J" .null := D9 (Or.inl (hw _ (List.mem_of_getElem? (i := 26) rfl))) (ty := (.array .long)) (by decide)
  refine Run.go st9 ?_
  show Run p e below s 4 50 (Q_rm0 Z p1 p2 p3 p4 p5 h0 n0) (T9.setTop (mkF m 27 #[.val (.int p1), .val (.int p2), .val (.int p3), .val (.int p4), .val (.int p5), .val (.int (F_rm1 p1)), .val (.int (F_rm1 p2)), .val (.int (F_rm1 p3)), .val (.int (p5 &&& (3 : Int32))), .unset, .unset, .unset, .unset] [(.ref b_s)]))
  refine Run.go (fun _ k => XS.dup X9.here hx rfl (hb hby at_27) rfl rfl k) ?_
  show Run p e below s 4 50 (Q_rm0 Z p1 p2 p3 p4 p5 h0 n0) (T9.setTop (mkF m 28 #[.val (.int p1), .val (.int p2), .val (.int p3), .val (.int p4), .val (.int p5), .val (.int (F_rm1 p1)), .val (.int (F_rm1 p2)), .val (.int (F_rm1 p3)), .val (.int (p5 &&& (3 : Int32))), .unset, .unset, .unset, .unset] [(.ref b_s), (.ref b_s)]))
  obtain ⟨_, _, ⟨T12, L12, k12, n12⟩, -, X12, ⟨Lc12, hQ12, l12, y12, z12⟩, st12⟩ := X9.specialBack hx (y := (⟨"murmuration/Sources", "<init>", "()V"⟩ : MethodName)) rfl hown (mvT hZ (hw _ (List.mem_of_getElem? (i := 7) rfl))) (mvT hZ (hw _ (List.mem_of_getElem? (i := 8) rfl))) (mvT hZ (hw _ (List.mem_of_getElem? (i := 9) rfl))) (by decide) (backOf (W := 1) (rm2 l Z a0 hw [] b_s h9 n0 Z9 ) hZ (hw _ (List.mem_of_getElem? (i := 9) rfl)) (hw _ (List.mem_of_getElem? (i := 6) rfl)) (by decide) (by decide)) (g := (mkF m 28 #[.val (.int p1), .val (.int p2), .val (.int p3), .val (.int p4), .val (.int p5), .val (.int (F_rm1 p1)), .val (.int (F_rm1 p2)), .val (.int (F_rm1 p3)), .val (.int (p5 &&& (3 : Int32))), .unset, .unset, .unset, .unset] [(.ref b_s), (.ref b_s)])) rfl (by rw [hml]; rfl) (Steps.refl _) (a := b_s) (argsL := []) (rest := [(.ref b_s)]) (lenOf pd_3 rfl) rfl (by show 2 * 0 + _ ≤ _; exact Nat.le_of_eq rfl) (hb hby at_28) (fun _ _ => ⟨rfl, e9, (by decide : 1 + 0 ≤ _), (by decide : 2 + 0 ≤ _)⟩)
  dsimp only [Pt.U, Pt.locs, Pt.cells, Pt.slots] at X12 l12 y12 z12 st12 hQ12
  subst l12 y12 z12
  obtain ⟨rfl, N12q, e12q⟩ := hQ12
  have N12 := Fr.app Ng8 N12q
  obtain ⟨Lg12, Xg12, Ng12⟩ := Stand_gen X12 N12
  refine Run.tr st12 ?_
  show Run p e below s 4 50 (Q_rm0 Z p1 p2 p3 p4 p5 h0 n0) (T12.setTop (mkF m 31 #[.val (.int p1), .val (.int p2), .val (.int p3), .val (.int p4), .val (.int p5), .val (.int (F_rm1 p1)), .val (.int (F_rm1 p2)), .val (.int (F_rm1 p3)), .val (.int (p5 &&& (3 : Int32))), .unset, .unset, .unset, .unset] [(.ref b_s)]))
  have src0 : Src Z n0 h9 b_s (fun _ => False) := ⟨0, A9, fx10, g_b_s, Or.inl ⟨fx11, fun q => ⟨fun h => h.elim, fun h => own_zero _ h.2⟩⟩⟩
  refine Run.go (fun _ k => XS.astore Xg12.here hx rfl (hb hby at_31) rfl rfl (l' := #[.val (.int p1), .val (.int p2), .val (.int p3), .val (.int p4), .val (.int p5), .val (.int (F_rm1 p1)), .val (.int (F_rm1 p2)), .val (.int (F_rm1 p3)), .val (.int (p5 &&& (3 : Int32))), .val (.ref b_s), .unset, .unset, .unset]) rfl k) ?_
  show Run p e below s 4 50 (Q_rm0 Z p1 p2 p3 p4 p5 h0 n0) (T12.setTop (mkF m 33 #[.val (.int p1), .val (.int p2), .val (.int p3), .val (.int p4), .val (.int p5), .val (.int (F_rm1 p1)), .val (.int (F_rm1 p2)), .val (.int (F_rm1 p3)), .val (.int (p5 &&& (3 : Int32))), .val (.ref b_s), .unset, .unset, .unset] []))
  have HJ13 : ∀ (S1 : Nat → Prop) (hh14 : Heap) (T14 : State) (L14 : List Loc) (X14 : Stand p l e room_1 s m #[(.int p1), (.int p2), (.int p3), (.int p4), (.int p5)] below meth c T14 L14 2 18) (e14 : T14.heap = hh14) (N14 : Fr n0 L14) (Z14 : n0 ≤ hh14.size) (fk14_0 : Src Z n0 hh14 b_s S1) (fk14_1 : Exa Z hh14 b_s "murmuration/Sources") (hS1 : ∀ x, S1 x ↔ ((¬ ((p5 &&& (3 : Int32)) < (1 : Int32)) ∧ x = (F_rm1 p1).toNatClampNeg) ∨ (fun _ => False) x)), Run p e below s 4 50 (Q_rm0 Z p1 p2 p3 p4 p5 h0 n0) (T14.setTop (mkF m 46 #[.val (.int p1), .val (.int p2), .val (.int p3), .val (.int p4), .val (.int p5), .val (.int (F_rm1 p1)), .val (.int (F_rm1 p2)), .val (.int (F_rm1 p3)), .val (.int (p5 &&& (3 : Int32))), .val (.ref b_s), .unset, .unset, .unset] [])) := by
    intro S1 hh14 T14 L14 X14 e14 N14 Z14 fk14_0 fk14_1 hS1
    show Run p e below s 4 50 (Q_rm0 Z p1 p2 p3 p4 p5 h0 n0) (T14.setTop (mkF m 46 #[.val (.int p1), .val (.int p2), .val (.int p3), .val (.int p4), .val (.int p5), .val (.int (F_rm1 p1)), .val (.int (F_rm1 p2)), .val (.int (F_rm1 p3)), .val (.int (p5 &&& (3 : Int32))), .val (.ref b_s), .unset, .unset, .unset] []))
    have HJ15 : ∀ (S2 : Nat → Prop) (hh16 : Heap) (T16 : State) (L16 : List Loc) (X16 : Stand p l e room_1 s m #[(.int p1), (.int p2), (.int p3), (.int p4), (.int p5)] below meth c T16 L16 3 34) (e16 : T16.heap = hh16) (N16 : Fr n0 L16) (Z16 : n0 ≤ hh16.size) (fk16_0 : Src Z n0 hh16 b_s S2) (fk16_1 : Exa Z hh16 b_s "murmuration/Sources") (hS2 : ∀ x, S2 x ↔ ((¬ ((p5 &&& (3 : Int32)) < (2 : Int32)) ∧ x = (F_rm1 p2).toNatClampNeg) ∨ S1 x)), Run p e below s 4 50 (Q_rm0 Z p1 p2 p3 p4 p5 h0 n0) (T16.setTop (mkF m 59 #[.val (.int p1), .val (.int p2), .val (.int p3), .val (.int p4), .val (.int p5), .val (.int (F_rm1 p1)), .val (.int (F_rm1 p2)), .val (.int (F_rm1 p3)), .val (.int (p5 &&& (3 : Int32))), .val (.ref b_s), .unset, .unset, .unset] [])) := by
      intro S2 hh16 T16 L16 X16 e16 N16 Z16 fk16_0 fk16_1 hS2
      show Run p e below s 4 50 (Q_rm0 Z p1 p2 p3 p4 p5 h0 n0) (T16.setTop (mkF m 59 #[.val (.int p1), .val (.int p2), .val (.int p3), .val (.int p4), .val (.int p5), .val (.int (F_rm1 p1)), .val (.int (F_rm1 p2)), .val (.int (F_rm1 p3)), .val (.int (p5 &&& (3 : Int32))), .val (.ref b_s), .unset, .unset, .unset] []))
      have HJ17 : ∀ (S3 : Nat → Prop) (hh18 : Heap) (T18 : State) (L18 : List Loc) (X18 : Stand p l e room_1 s m #[(.int p1), (.int p2), (.int p3), (.int p4), (.int p5)] below meth c T18 L18 4 50) (e18 : T18.heap = hh18) (N18 : Fr n0 L18) (Z18 : n0 ≤ hh18.size) (fk18_0 : Src Z n0 hh18 b_s S3) (fk18_1 : Exa Z hh18 b_s "murmuration/Sources") (hS3 : ∀ x, S3 x ↔ ((¬ ((p5 &&& (3 : Int32)) < (3 : Int32)) ∧ x = (F_rm1 p3).toNatClampNeg) ∨ S2 x)), Run p e below s 4 50 (Q_rm0 Z p1 p2 p3 p4 p5 h0 n0) (T18.setTop (mkF m 72 #[.val (.int p1), .val (.int p2), .val (.int p3), .val (.int p4), .val (.int p5), .val (.int (F_rm1 p1)), .val (.int (F_rm1 p2)), .val (.int (F_rm1 p3)), .val (.int (p5 &&& (3 : Int32))), .val (.ref b_s), .unset, .unset, .unset] [])) := by
        intro S3 hh18 T18 L18 X18 e18 N18 Z18 fk18_0 fk18_1 hS3
        show Run p e below s 4 50 (Q_rm0 Z p1 p2 p3 p4 p5 h0 n0) (T18.setTop (mkF m 72 #[.val (.int p1), .val (.int p2), .val (.int p3), .val (.int p4), .val (.int p5), .val (.int (F_rm1 p1)), .val (.int (F_rm1 p2)), .val (.int (F_rm1 p3)), .val (.int (p5 &&& (3 : Int32))), .val (.ref b_s), .unset, .unset, .unset] []))
        refine Run.go (fun _ k => XS.iload X18.here hx rfl (hb hby at_72) rfl  k) ?_
        show Run p e below s 4 50 (Q_rm0 Z p1 p2 p3 p4 p5 h0 n0) (T18.setTop (mkF m 74 #[.val (.int p1), .val (.int p2), .val (.int p3), .val (.int p4), .val (.int p5), .val (.int (F_rm1 p1)), .val (.int (F_rm1 p2)), .val (.int (F_rm1 p3)), .val (.int (p5 &&& (3 : Int32))), .val (.ref b_s), .unset, .unset, .unset] [(.int p5)]))
        refine Run.go (fun _ k => XS.iconst X18.here hx rfl (hb hby at_74) k) ?_
        show Run p e below s 4 50 (Q_rm0 Z p1 p2 p3 p4 p5 h0 n0) (T18.setTop (mkF m 75 #[.val (.int p1), .val (.int p2), .val (.int p3), .val (.int p4), .val (.int p5), .val (.int (F_rm1 p1)), .val (.int (F_rm1 p2)), .val (.int (F_rm1 p3)), .val (.int (p5 &&& (3 : Int32))), .val (.ref b_s), .unset, .unset, .unset] [(.int (2 : Int32)), (.int p5)]))
        refine Run.go (fun _ k => XS.iushr X18.here hx rfl (hb hby at_75) rfl k) ?_
        show Run p e below s 4 50 (Q_rm0 Z p1 p2 p3 p4 p5 h0 n0) (T18.setTop (mkF m 76 #[.val (.int p1), .val (.int p2), .val (.int p3), .val (.int p4), .val (.int p5), .val (.int (F_rm1 p1)), .val (.int (F_rm1 p2)), .val (.int (F_rm1 p3)), .val (.int (p5 &&& (3 : Int32))), .val (.ref b_s), .unset, .unset, .unset] [(.int ((p5.toUInt32 >>> ((2 : Int32) &&& 31).toUInt32).toInt32))]))
        refine Run.go (fun _ k => XS.bipush X18.here hx rfl (hb hby at_76) k) ?_
        show Run p e below s 4 50 (Q_rm0 Z p1 p2 p3 p4 p5 h0 n0) (T18.setTop (mkF m 78 #[.val (.int p1), .val (.int p2), .val (.int p3), .val (.int p4), .val (.int p5), .val (.int (F_rm1 p1)), .val (.int (F_rm1 p2)), .val (.int (F_rm1 p3)), .val (.int (p5 &&& (3 : Int32))), .val (.ref b_s), .unset, .unset, .unset] [(.int (7 : Int32)), (.int ((p5.toUInt32 >>> ((2 : Int32) &&& 31).toUInt32).toInt32))]))
        refine Run.go (fun _ k => XS.iand X18.here hx rfl (hb hby at_78) rfl k) ?_
        show Run p e below s 4 50 (Q_rm0 Z p1 p2 p3 p4 p5 h0 n0) (T18.setTop (mkF m 79 #[.val (.int p1), .val (.int p2), .val (.int p3), .val (.int p4), .val (.int p5), .val (.int (F_rm1 p1)), .val (.int (F_rm1 p2)), .val (.int (F_rm1 p3)), .val (.int (p5 &&& (3 : Int32))), .val (.ref b_s), .unset, .unset, .unset] [(.int (((p5.toUInt32 >>> ((2 : Int32) &&& 31).toUInt32).toInt32) &&& (7 : Int32)))]))
        refine Run.go (fun _ k => XS.istore X18.here hx rfl (hb hby at_79) rfl (l' := #[.val (.int p1), .val (.int p2), .val (.int p3), .val (.int p4), .val (.int p5), .val (.int (F_rm1 p1)), .val (.int (F_rm1 p2)), .val (.int (F_rm1 p3)), .val (.int (p5 &&& (3 : Int32))), .val (.ref b_s), .val (.int (((p5.toUInt32 >>> ((2 : Int32) &&& 31).toUInt32).toInt32) &&& (7 : Int32))), .unset, .unset]) rfl k) ?_
        show Run p e below s 4 50 (Q_rm0 Z p1 p2 p3 p4 p5 h0 n0) (T18.setTop (mkF m 81 #[.val (.int p1), .val (.int p2), .val (.int p3), .val (.int p4), .val (.int p5), .val (.int (F_rm1 p1)), .val (.int (F_rm1 p2)), .val (.int (F_rm1 p3)), .val (.int (p5 &&& (3 : Int32))), .val (.ref b_s), .val (.int (((p5.toUInt32 >>> ((2 : Int32) &&& 31).toUInt32).toInt32) &&& (7 : Int32))), .unset, .unset] []))
        refine Run.go (fun _ k => XS.iload X18.here hx rfl (hb hby at_81) rfl  k) ?_
        show Run p e below s 4 50 (Q_rm0 Z p1 p2 p3 p4 p5 h0 n0) (T18.setTop (mkF m 83 #[.val (.int p1), .val (.int p2), .val (.int p3), .val (.int p4), .val (.int p5), .val (.int (F_rm1 p1)), .val (.int (F_rm1 p2)), .val (.int (F_rm1 p3)), .val (.int (p5 &&& (3 : Int32))), .val (.ref b_s), .val (.int (((p5.toUInt32 >>> ((2 : Int32) &&& 31).toUInt32).toInt32) &&& (7 : Int32))), .unset, .unset] [(.int (((p5.toUInt32 >>> ((2 : Int32) &&& 31).toUInt32).toInt32) &&& (7 : Int32)))]))
        have J19 : ∀ (w20 : Int32) (hw20 : w20 = (if ((((p5.toUInt32 >>> ((2 : Int32) &&& 31).toUInt32).toInt32) &&& (7 : Int32)) = (0 : Int32)) then (F_rm1 p1) else (if ((((p5.toUInt32 >>> ((2 : Int32) &&& 31).toUInt32).toInt32) &&& (7 : Int32)) = (1 : Int32)) then (F_rm1 p2) else (if ((((p5.toUInt32 >>> ((2 : Int32) &&& 31).toUInt32).toInt32) &&& (7 : Int32)) = (2 : Int32)) then (F_rm1 p3) else (if ((((p5.toUInt32 >>> ((2 : Int32) &&& 31).toUInt32).toInt32) &&& (7 : Int32)) = (3 : Int32)) then ((F_rm1 p1) ^^^ (64 : Int32)) else (if ((((p5.toUInt32 >>> ((2 : Int32) &&& 31).toUInt32).toInt32) &&& (7 : Int32)) = (4 : Int32)) then ((F_rm1 p1) ^^^ ((1 : Int32) <<< ((p4 &&& (15 : Int32)) &&& 31))) else (p4 &&& (2147483647 : Int32)))))))) (T21 : State) (L21 : List Loc) (X21 : Stand p l e room_1 s m #[(.int p1), (.int p2), (.int p3), (.int p4), (.int p5)] below meth c T21 L21 4 50) (e21 : T21.heap = hh18) (N21 : Fr n0 L21), Run p e below s 4 50 (Q_rm0 Z p1 p2 p3 p4 p5 h0 n0) (T21.setTop (mkF m 161 #[.val (.int p1), .val (.int p2), .val (.int p3), .val (.int p4), .val (.int p5), .val (.int (F_rm1 p1)), .val (.int (F_rm1 p2)), .val (.int (F_rm1 p3)), .val (.int (p5 &&& (3 : Int32))), .val (.ref b_s), .val (.int (((p5.toUInt32 >>> ((2 : Int32) &&& 31).toUInt32).toInt32) &&& (7 : Int32))), .val (.int w20), .unset] [])) := by
          intro w20 hw20 T21 L21 X21 e21 N21
          show Run p e below s 4 50 (Q_rm0 Z p1 p2 p3 p4 p5 h0 n0) (T21.setTop (mkF m 161 #[.val (.int p1), .val (.int p2), .val (.int p3), .val (.int p4), .val (.int p5), .val (.int (F_rm1 p1)), .val (.int (F_rm1 p2)), .val (.int (F_rm1 p3)), .val (.int (p5 &&& (3 : Int32))), .val (.ref b_s), .val (.int (((p5.toUInt32 >>> ((2 : Int32) &&& 31).toUInt32).toInt32) &&& (7 : Int32))), .val (.int w20), .unset] []))
          refine Run.go (fun _ k => XS.iload X21.here hx rfl (hb hby at_161) rfl  k) ?_
          show Run p e below s 4 50 (Q_rm0 Z p1 p2 p3 p4 p5 h0 n0) (T21.setTop (mkF m 163 #[.val (.int p1), .val (.int p2), .val (.int p3), .val (.int p4), .val (.int p5), .val (.int (F_rm1 p1)), .val (.int (F_rm1 p2)), .val (.int (F_rm1 p3)), .val (.int (p5 &&& (3 : Int32))), .val (.ref b_s), .val (.int (((p5.toUInt32 >>> ((2 : Int32) &&& 31).toUInt32).toInt32) &&& (7 : Int32))), .val (.int w20), .unset] [(.int (p5 &&& (3 : Int32)))]))
          refine Run.go (fun _ k => XS.iconst X21.here hx rfl (hb hby at_163) k) ?_
          show Run p e below s 4 50 (Q_rm0 Z p1 p2 p3 p4 p5 h0 n0) (T21.setTop (mkF m 164 #[.val (.int p1), .val (.int p2), .val (.int p3), .val (.int p4), .val (.int p5), .val (.int (F_rm1 p1)), .val (.int (F_rm1 p2)), .val (.int (F_rm1 p3)), .val (.int (p5 &&& (3 : Int32))), .val (.ref b_s), .val (.int (((p5.toUInt32 >>> ((2 : Int32) &&& 31).toUInt32).toInt32) &&& (7 : Int32))), .val (.int w20), .unset] [(.int (1 : Int32)), (.int (p5 &&& (3 : Int32)))]))
          have J22 : ∀ (w23 : Int32) (hw23 : w23 = (if ((((p5 &&& (3 : Int32)) < (1 : Int32)) ∧ ((((p5 &&& (3 : Int32)) < (2 : Int32)) ∧ ((¬ ((p5 &&& (3 : Int32)) < (3 : Int32))) ∧ (w20 = (F_rm1 p3)))) ∨ ((¬ ((p5 &&& (3 : Int32)) < (2 : Int32))) ∧ ((w20 = (F_rm1 p2)) ∨ ((¬ ((p5 &&& (3 : Int32)) < (3 : Int32))) ∧ (w20 = (F_rm1 p3))))))) ∨ ((¬ ((p5 &&& (3 : Int32)) < (1 : Int32))) ∧ ((w20 = (F_rm1 p1)) ∨ ((((p5 &&& (3 : Int32)) < (2 : Int32)) ∧ ((¬ ((p5 &&& (3 : Int32)) < (3 : Int32))) ∧ (w20 = (F_rm1 p3)))) ∨ ((¬ ((p5 &&& (3 : Int32)) < (2 : Int32))) ∧ ((w20 = (F_rm1 p2)) ∨ ((¬ ((p5 &&& (3 : Int32)) < (3 : Int32))) ∧ (w20 = (F_rm1 p3))))))))) then (1 : Int32) else 0)) (T24 : State) (L24 : List Loc) (X24 : Stand p l e room_1 s m #[(.int p1), (.int p2), (.int p3), (.int p4), (.int p5)] below meth c T24 L24 4 50) (e24 : T24.heap = hh18) (N24 : Fr n0 L24), Run p e below s 4 50 (Q_rm0 Z p1 p2 p3 p4 p5 h0 n0) (T24.setTop (mkF m 205 #[.val (.int p1), .val (.int p2), .val (.int p3), .val (.int p4), .val (.int p5), .val (.int (F_rm1 p1)), .val (.int (F_rm1 p2)), .val (.int (F_rm1 p3)), .val (.int (p5 &&& (3 : Int32))), .val (.ref b_s), .val (.int (((p5.toUInt32 >>> ((2 : Int32) &&& 31).toUInt32).toInt32) &&& (7 : Int32))), .val (.int w20), .unset] [(.int w23)])) := by
            intro w23 hw23 T24 L24 X24 e24 N24
            show Run p e below s 4 50 (Q_rm0 Z p1 p2 p3 p4 p5 h0 n0) (T24.setTop (mkF m 205 #[.val (.int p1), .val (.int p2), .val (.int p3), .val (.int p4), .val (.int p5), .val (.int (F_rm1 p1)), .val (.int (F_rm1 p2)), .val (.int (F_rm1 p3)), .val (.int (p5 &&& (3 : Int32))), .val (.ref b_s), .val (.int (((p5.toUInt32 >>> ((2 : Int32) &&& 31).toUInt32).toInt32) &&& (7 : Int32))), .val (.int w20), .unset] [(.int w23)]))
            refine Run.go (fun _ k => XS.istore X24.here hx rfl (hb hby at_205) rfl (l' := #[.val (.int p1), .val (.int p2), .val (.int p3), .val (.int p4), .val (.int p5), .val (.int (F_rm1 p1)), .val (.int (F_rm1 p2)), .val (.int (F_rm1 p3)), .val (.int (p5 &&& (3 : Int32))), .val (.ref b_s), .val (.int (((p5.toUInt32 >>> ((2 : Int32) &&& 31).toUInt32).toInt32) &&& (7 : Int32))), .val (.int w20), .val (.int w23)]) rfl k) ?_
            show Run p e below s 4 50 (Q_rm0 Z p1 p2 p3 p4 p5 h0 n0) (T24.setTop (mkF m 207 #[.val (.int p1), .val (.int p2), .val (.int p3), .val (.int p4), .val (.int p5), .val (.int (F_rm1 p1)), .val (.int (F_rm1 p2)), .val (.int (F_rm1 p3)), .val (.int (p5 &&& (3 : Int32))), .val (.ref b_s), .val (.int (((p5.toUInt32 >>> ((2 : Int32) &&& 31).toUInt32).toInt32) &&& (7 : Int32))), .val (.int w20), .val (.int w23)] []))
            refine Run.go (fun _ k => XS.aload X24.here hx rfl (hb hby at_207) rfl rfl k) ?_
            show Run p e below s 4 50 (Q_rm0 Z p1 p2 p3 p4 p5 h0 n0) (T24.setTop (mkF m 209 #[.val (.int p1), .val (.int p2), .val (.int p3), .val (.int p4), .val (.int p5), .val (.int (F_rm1 p1)), .val (.int (F_rm1 p2)), .val (.int (F_rm1 p3)), .val (.int (p5 &&& (3 : Int32))), .val (.ref b_s), .val (.int (((p5.toUInt32 >>> ((2 : Int32) &&& 31).toUInt32).toInt32) &&& (7 : Int32))), .val (.int w20), .val (.int w23)] [(.ref b_s)]))
            refine Run.go (fun _ k => XS.iload X24.here hx rfl (hb hby at_209) rfl  k) ?_
            show Run p e below s 4 50 (Q_rm0 Z p1 p2 p3 p4 p5 h0 n0) (T24.setTop (mkF m 211 #[.val (.int p1), .val (.int p2), .val (.int p3), .val (.int p4), .val (.int p5), .val (.int (F_rm1 p1)), .val (.int (F_rm1 p2)), .val (.int (F_rm1 p3)), .val (.int (p5 &&& (3 : Int32))), .val (.ref b_s), .val (.int (((p5.toUInt32 >>> ((2 : Int32) &&& 31).toUInt32).toInt32) &&& (7 : Int32))), .val (.int w20), .val (.int w23)] [(.int w20), (.ref b_s)]))
            obtain ⟨cq25, kq25, q25a, q25b, q25c⟩ := isOf hZ e24 fk18_1
            obtain ⟨_, _, ⟨T25, L25, k25, n25⟩, -, X25, ⟨Lc25, hQ25, l25, y25, z25⟩, st25⟩ := X24.virtualBack hx (y := (⟨"murmuration/Sources", "contains", "(I)Z"⟩ : MethodName)) (z := (⟨"murmuration/Sources", "contains", "(I)Z"⟩ : MethodName)) hown (mvT hZ (hw _ (List.mem_of_getElem? (i := 13) rfl))) (mvT hZ (hw _ (List.mem_of_getElem? (i := 14) rfl))) (notFace_of_selects (args := #[]) (mvT hZ (hw _ (List.mem_of_getElem? (i := 16) rfl)))) (mvT hZ (hw _ (List.mem_of_getElem? (i := 16) rfl))) (mvT hZ (hw _ (List.mem_of_getElem? (i := 15) rfl))) (by decide) (backOf (W := 0) (rm4 l Z a0 hw [] b_s w20 S3 hh18 n0 Z18 fk18_0 (by rw [hw20]; exact own_ite6 _ _ _ _ _ _ _ _ _ _ _ (own_pk _).1 (own_pk _).1 (own_pk _).1 (own_xor _ _ (own_pk _).1 (by decide)) (own_xor _ _ (own_pk _).1 (own_shl _)) (own_max _))) hZ (hw _ (List.mem_of_getElem? (i := 17) rfl)) (hw _ (List.mem_of_getElem? (i := 6) rfl)) (by decide) (by decide)) q25a q25c (g := (mkF m 211 #[.val (.int p1), .val (.int p2), .val (.int p3), .val (.int p4), .val (.int p5), .val (.int (F_rm1 p1)), .val (.int (F_rm1 p2)), .val (.int (F_rm1 p3)), .val (.int (p5 &&& (3 : Int32))), .val (.ref b_s), .val (.int (((p5.toUInt32 >>> ((2 : Int32) &&& 31).toUInt32).toInt32) &&& (7 : Int32))), .val (.int w20), .val (.int w23)] [(.int w20), (.ref b_s)])) rfl (by rw [hml]; rfl) (Steps.refl _) (argsL := [(.int w20)]) (rest := []) (lenOf pd_4 rfl) rfl (by show 2 * 0 + _ ≤ _; exact Nat.le_of_eq rfl) (hb hby at_211) (fun _ _ => ⟨rfl, e24, (by decide : 4 + 0 ≤ _), (by decide : 50 + 0 ≤ _)⟩)
            dsimp only [Pt.U, Pt.locs, Pt.cells, Pt.slots] at X25 l25 y25 z25 st25 hQ25
            subst l25 y25 z25
            obtain ⟨r26, rfl, N25q, e25q, hp25_r⟩ := hQ25
            have N25 := Fr.app N24 N25q
            obtain ⟨Lg25, Xg25, Ng25⟩ := Stand_gen X25 N25
            refine Run.tr st25 ?_
            show Run p e below s 4 50 (Q_rm0 Z p1 p2 p3 p4 p5 h0 n0) (T25.setTop (mkF m 214 #[.val (.int p1), .val (.int p2), .val (.int p3), .val (.int p4), .val (.int p5), .val (.int (F_rm1 p1)), .val (.int (F_rm1 p2)), .val (.int (F_rm1 p3)), .val (.int (p5 &&& (3 : Int32))), .val (.ref b_s), .val (.int (((p5.toUInt32 >>> ((2 : Int32) &&& 31).toUInt32).toInt32) &&& (7 : Int32))), .val (.int w20), .val (.int w23)] [(.int r26)]))
            refine Run.go (fun _ k => XS.iload Xg25.here hx rfl (hb hby at_214) rfl  k) ?_
            show Run p e below s 4 50 (Q_rm0 Z p1 p2 p3 p4 p5 h0 n0) (T25.setTop (mkF m 216 #[.val (.int p1), .val (.int p2), .val (.int p3), .val (.int p4), .val (.int p5), .val (.int (F_rm1 p1)), .val (.int (F_rm1 p2)), .val (.int (F_rm1 p3)), .val (.int (p5 &&& (3 : Int32))), .val (.ref b_s), .val (.int (((p5.toUInt32 >>> ((2 : Int32) &&& 31).toUInt32).toInt32) &&& (7 : Int32))), .val (.int w20), .val (.int w23)] [(.int w23), (.int r26)]))
            refine Run.go (fun _ k => XS.icmpNo Xg25.here hx rfl (hb hby at_216) rfl (teq (own_fin _ _ _ _ _ _ _ _ _ _ _ _ hp25_r hw23 hS1 hS2 hS3 (own_pk _).1 (own_pk _).1 (own_pk _).1 (by rw [hw20]; exact own_ite6 _ _ _ _ _ _ _ _ _ _ _ (own_pk _).1 (own_pk _).1 (own_pk _).1 (own_xor _ _ (own_pk _).1 (by decide)) (own_xor _ _ (own_pk _).1 (own_shl _)) (own_max _)))).2 k) ?_
            show Run p e below s 4 50 (Q_rm0 Z p1 p2 p3 p4 p5 h0 n0) (T25.setTop (mkF m 219 #[.val (.int p1), .val (.int p2), .val (.int p3), .val (.int p4), .val (.int p5), .val (.int (F_rm1 p1)), .val (.int (F_rm1 p2)), .val (.int (F_rm1 p3)), .val (.int (p5 &&& (3 : Int32))), .val (.ref b_s), .val (.int (((p5.toUInt32 >>> ((2 : Int32) &&& 31).toUInt32).toInt32) &&& (7 : Int32))), .val (.int w20), .val (.int w23)] []))
            refine Run.go (fun _ k => XS.iconst Xg25.here hx rfl (hb hby at_219) k) ?_
            show Run p e below s 4 50 (Q_rm0 Z p1 p2 p3 p4 p5 h0 n0) (T25.setTop (mkF m 220 #[.val (.int p1), .val (.int p2), .val (.int p3), .val (.int p4), .val (.int p5), .val (.int (F_rm1 p1)), .val (.int (F_rm1 p2)), .val (.int (F_rm1 p3)), .val (.int (p5 &&& (3 : Int32))), .val (.ref b_s), .val (.int (((p5.toUInt32 >>> ((2 : Int32) &&& 31).toUInt32).toInt32) &&& (7 : Int32))), .val (.int w20), .val (.int w23)] [(.int (1 : Int32))]))
            refine Run.go (fun _ k => XS.goto Xg25.here hx rfl (pc0 := 220) (pc' := 224) rfl (hb hby at_220) (by decide) (by decide) k) ?_
            show Run p e below s 4 50 (Q_rm0 Z p1 p2 p3 p4 p5 h0 n0) (T25.setTop (mkF m 224 #[.val (.int p1), .val (.int p2), .val (.int p3), .val (.int p4), .val (.int p5), .val (.int (F_rm1 p1)), .val (.int (F_rm1 p2)), .val (.int (F_rm1 p3)), .val (.int (p5 &&& (3 : Int32))), .val (.ref b_s), .val (.int (((p5.toUInt32 >>> ((2 : Int32) &&& 31).toUInt32).toInt32) &&& (7 : Int32))), .val (.int w20), .val (.int w23)] [(.int (1 : Int32))]))
            exact Run.retN (y := 1) Xg25 hx (t := .boolean) Bd.returns (by simp) rfl Bd.notSynchronized (hb hby at_224) (by decide) (by decide) ⟨rfl, Ng25⟩
          by_cases hc27 : ((p5 &&& (3 : Int32)) < (1 : Int32))
          · refine Run.go (fun _ k => XS.icmpYes X21.here hx rfl (pc0 := 164) (pc' := 174) rfl (hb hby at_164) rfl (tlt hc27).1 (by decide) (by decide) k) ?_
            show Run p e below s 4 50 (Q_rm0 Z p1 p2 p3 p4 p5 h0 n0) (T21.setTop (mkF m 174 #[.val (.int p1), .val (.int p2), .val (.int p3), .val (.int p4), .val (.int p5), .val (.int (F_rm1 p1)), .val (.int (F_rm1 p2)), .val (.int (F_rm1 p3)), .val (.int (p5 &&& (3 : Int32))), .val (.ref b_s), .val (.int (((p5.toUInt32 >>> ((2 : Int32) &&& 31).toUInt32).toInt32) &&& (7 : Int32))), .val (.int w20), .unset] []))
            refine Run.go (fun _ k => XS.iload X21.here hx rfl (hb hby at_174) rfl  k) ?_
            show Run p e below s 4 50 (Q_rm0 Z p1 p2 p3 p4 p5 h0 n0) (T21.setTop (mkF m 176 #[.val (.int p1), .val (.int p2), .val (.int p3), .val (.int p4), .val (.int p5), .val (.int (F_rm1 p1)), .val (.int (F_rm1 p2)), .val (.int (F_rm1 p3)), .val (.int (p5 &&& (3 : Int32))), .val (.ref b_s), .val (.int (((p5.toUInt32 >>> ((2 : Int32) &&& 31).toUInt32).toInt32) &&& (7 : Int32))), .val (.int w20), .unset] [(.int (p5 &&& (3 : Int32)))]))
            refine Run.go (fun _ k => XS.iconst X21.here hx rfl (hb hby at_176) k) ?_
            show Run p e below s 4 50 (Q_rm0 Z p1 p2 p3 p4 p5 h0 n0) (T21.setTop (mkF m 177 #[.val (.int p1), .val (.int p2), .val (.int p3), .val (.int p4), .val (.int p5), .val (.int (F_rm1 p1)), .val (.int (F_rm1 p2)), .val (.int (F_rm1 p3)), .val (.int (p5 &&& (3 : Int32))), .val (.ref b_s), .val (.int (((p5.toUInt32 >>> ((2 : Int32) &&& 31).toUInt32).toInt32) &&& (7 : Int32))), .val (.int w20), .unset] [(.int (2 : Int32)), (.int (p5 &&& (3 : Int32)))]))
            by_cases hc28 : ((p5 &&& (3 : Int32)) < (2 : Int32))
            · refine Run.go (fun _ k => XS.icmpYes X21.here hx rfl (pc0 := 177) (pc' := 187) rfl (hb hby at_177) rfl (tlt hc28).1 (by decide) (by decide) k) ?_
              show Run p e below s 4 50 (Q_rm0 Z p1 p2 p3 p4 p5 h0 n0) (T21.setTop (mkF m 187 #[.val (.int p1), .val (.int p2), .val (.int p3), .val (.int p4), .val (.int p5), .val (.int (F_rm1 p1)), .val (.int (F_rm1 p2)), .val (.int (F_rm1 p3)), .val (.int (p5 &&& (3 : Int32))), .val (.ref b_s), .val (.int (((p5.toUInt32 >>> ((2 : Int32) &&& 31).toUInt32).toInt32) &&& (7 : Int32))), .val (.int w20), .unset] []))
              refine Run.go (fun _ k => XS.iload X21.here hx rfl (hb hby at_187) rfl  k) ?_
              show Run p e below s 4 50 (Q_rm0 Z p1 p2 p3 p4 p5 h0 n0) (T21.setTop (mkF m 189 #[.val (.int p1), .val (.int p2), .val (.int p3), .val (.int p4), .val (.int p5), .val (.int (F_rm1 p1)), .val (.int (F_rm1 p2)), .val (.int (F_rm1 p3)), .val (.int (p5 &&& (3 : Int32))), .val (.ref b_s), .val (.int (((p5.toUInt32 >>> ((2 : Int32) &&& 31).toUInt32).toInt32) &&& (7 : Int32))), .val (.int w20), .unset] [(.int (p5 &&& (3 : Int32)))]))
              refine Run.go (fun _ k => XS.iconst X21.here hx rfl (hb hby at_189) k) ?_
              show Run p e below s 4 50 (Q_rm0 Z p1 p2 p3 p4 p5 h0 n0) (T21.setTop (mkF m 190 #[.val (.int p1), .val (.int p2), .val (.int p3), .val (.int p4), .val (.int p5), .val (.int (F_rm1 p1)), .val (.int (F_rm1 p2)), .val (.int (F_rm1 p3)), .val (.int (p5 &&& (3 : Int32))), .val (.ref b_s), .val (.int (((p5.toUInt32 >>> ((2 : Int32) &&& 31).toUInt32).toInt32) &&& (7 : Int32))), .val (.int w20), .unset] [(.int (3 : Int32)), (.int (p5 &&& (3 : Int32)))]))
              by_cases hc29 : ((p5 &&& (3 : Int32)) < (3 : Int32))
              · refine Run.go (fun _ k => XS.icmpYes X21.here hx rfl (pc0 := 190) (pc' := 204) rfl (hb hby at_190) rfl (tlt hc29).1 (by decide) (by decide) k) ?_
                show Run p e below s 4 50 (Q_rm0 Z p1 p2 p3 p4 p5 h0 n0) (T21.setTop (mkF m 204 #[.val (.int p1), .val (.int p2), .val (.int p3), .val (.int p4), .val (.int p5), .val (.int (F_rm1 p1)), .val (.int (F_rm1 p2)), .val (.int (F_rm1 p3)), .val (.int (p5 &&& (3 : Int32))), .val (.ref b_s), .val (.int (((p5.toUInt32 >>> ((2 : Int32) &&& 31).toUInt32).toInt32) &&& (7 : Int32))), .val (.int w20), .unset] []))
                refine Run.go (fun _ k => XS.iconst X21.here hx rfl (hb hby at_204) k) ?_
                show Run p e below s 4 50 (Q_rm0 Z p1 p2 p3 p4 p5 h0 n0) (T21.setTop (mkF m 205 #[.val (.int p1), .val (.int p2), .val (.int p3), .val (.int p4), .val (.int p5), .val (.int (F_rm1 p1)), .val (.int (F_rm1 p2)), .val (.int (F_rm1 p3)), .val (.int (p5 &&& (3 : Int32))), .val (.ref b_s), .val (.int (((p5.toUInt32 >>> ((2 : Int32) &&& 31).toUInt32).toInt32) &&& (7 : Int32))), .val (.int w20), .unset] [(.int (0 : Int32))]))
                exact J22 _ (if_neg (fun q => q.elim (fun q => (fun q => q.elim (fun q => (fun q => (fun q => q hc29) q.1) q.2) (fun q => (fun q => q hc28) q.1)) q.2) (fun q => (fun q => q hc27) q.1))).symm _ _ X21 e21 N21
              · refine Run.go (fun _ k => XS.icmpNo X21.here hx rfl (hb hby at_190) rfl (flt hc29).1 k) ?_
                show Run p e below s 4 50 (Q_rm0 Z p1 p2 p3 p4 p5 h0 n0) (T21.setTop (mkF m 193 #[.val (.int p1), .val (.int p2), .val (.int p3), .val (.int p4), .val (.int p5), .val (.int (F_rm1 p1)), .val (.int (F_rm1 p2)), .val (.int (F_rm1 p3)), .val (.int (p5 &&& (3 : Int32))), .val (.ref b_s), .val (.int (((p5.toUInt32 >>> ((2 : Int32) &&& 31).toUInt32).toInt32) &&& (7 : Int32))), .val (.int w20), .unset] []))
                refine Run.go (fun _ k => XS.iload X21.here hx rfl (hb hby at_193) rfl  k) ?_
                show Run p e below s 4 50 (Q_rm0 Z p1 p2 p3 p4 p5 h0 n0) (T21.setTop (mkF m 195 #[.val (.int p1), .val (.int p2), .val (.int p3), .val (.int p4), .val (.int p5), .val (.int (F_rm1 p1)), .val (.int (F_rm1 p2)), .val (.int (F_rm1 p3)), .val (.int (p5 &&& (3 : Int32))), .val (.ref b_s), .val (.int (((p5.toUInt32 >>> ((2 : Int32) &&& 31).toUInt32).toInt32) &&& (7 : Int32))), .val (.int w20), .unset] [(.int w20)]))
                refine Run.go (fun _ k => XS.iload X21.here hx rfl (hb hby at_195) rfl  k) ?_
                show Run p e below s 4 50 (Q_rm0 Z p1 p2 p3 p4 p5 h0 n0) (T21.setTop (mkF m 197 #[.val (.int p1), .val (.int p2), .val (.int p3), .val (.int p4), .val (.int p5), .val (.int (F_rm1 p1)), .val (.int (F_rm1 p2)), .val (.int (F_rm1 p3)), .val (.int (p5 &&& (3 : Int32))), .val (.ref b_s), .val (.int (((p5.toUInt32 >>> ((2 : Int32) &&& 31).toUInt32).toInt32) &&& (7 : Int32))), .val (.int w20), .unset] [(.int (F_rm1 p3)), (.int w20)]))
                by_cases hc30 : (w20 = (F_rm1 p3))
                · refine Run.go (fun _ k => XS.icmpNo X21.here hx rfl (hb hby at_197) rfl (teq hc30).2 k) ?_
                  show Run p e below s 4 50 (Q_rm0 Z p1 p2 p3 p4 p5 h0 n0) (T21.setTop (mkF m 200 #[.val (.int p1), .val (.int p2), .val (.int p3), .val (.int p4), .val (.int p5), .val (.int (F_rm1 p1)), .val (.int (F_rm1 p2)), .val (.int (F_rm1 p3)), .val (.int (p5 &&& (3 : Int32))), .val (.ref b_s), .val (.int (((p5.toUInt32 >>> ((2 : Int32) &&& 31).toUInt32).toInt32) &&& (7 : Int32))), .val (.int w20), .unset] []))
                  refine Run.go (fun _ k => XS.iconst X21.here hx rfl (hb hby at_200) k) ?_
                  show Run p e below s 4 50 (Q_rm0 Z p1 p2 p3 p4 p5 h0 n0) (T21.setTop (mkF m 201 #[.val (.int p1), .val (.int p2), .val (.int p3), .val (.int p4), .val (.int p5), .val (.int (F_rm1 p1)), .val (.int (F_rm1 p2)), .val (.int (F_rm1 p3)), .val (.int (p5 &&& (3 : Int32))), .val (.ref b_s), .val (.int (((p5.toUInt32 >>> ((2 : Int32) &&& 31).toUInt32).toInt32) &&& (7 : Int32))), .val (.int w20), .unset] [(.int (1 : Int32))]))
                  refine Run.go (fun _ k => XS.goto X21.here hx rfl (pc0 := 201) (pc' := 205) rfl (hb hby at_201) (by decide) (by decide) k) ?_
                  show Run p e below s 4 50 (Q_rm0 Z p1 p2 p3 p4 p5 h0 n0) (T21.setTop (mkF m 205 #[.val (.int p1), .val (.int p2), .val (.int p3), .val (.int p4), .val (.int p5), .val (.int (F_rm1 p1)), .val (.int (F_rm1 p2)), .val (.int (F_rm1 p3)), .val (.int (p5 &&& (3 : Int32))), .val (.ref b_s), .val (.int (((p5.toUInt32 >>> ((2 : Int32) &&& 31).toUInt32).toInt32) &&& (7 : Int32))), .val (.int w20), .unset] [(.int (1 : Int32))]))
                  exact J22 _ (if_pos (Or.inl ⟨hc27, (Or.inl ⟨hc28, ⟨hc29, hc30⟩⟩)⟩)).symm _ _ X21 e21 N21
                · refine Run.go (fun _ k => XS.icmpYes X21.here hx rfl (pc0 := 197) (pc' := 204) rfl (hb hby at_197) rfl (feq hc30).2 (by decide) (by decide) k) ?_
                  show Run p e below s 4 50 (Q_rm0 Z p1 p2 p3 p4 p5 h0 n0) (T21.setTop (mkF m 204 #[.val (.int p1), .val (.int p2), .val (.int p3), .val (.int p4), .val (.int p5), .val (.int (F_rm1 p1)), .val (.int (F_rm1 p2)), .val (.int (F_rm1 p3)), .val (.int (p5 &&& (3 : Int32))), .val (.ref b_s), .val (.int (((p5.toUInt32 >>> ((2 : Int32) &&& 31).toUInt32).toInt32) &&& (7 : Int32))), .val (.int w20), .unset] []))
                  refine Run.go (fun _ k => XS.iconst X21.here hx rfl (hb hby at_204) k) ?_
                  show Run p e below s 4 50 (Q_rm0 Z p1 p2 p3 p4 p5 h0 n0) (T21.setTop (mkF m 205 #[.val (.int p1), .val (.int p2), .val (.int p3), .val (.int p4), .val (.int p5), .val (.int (F_rm1 p1)), .val (.int (F_rm1 p2)), .val (.int (F_rm1 p3)), .val (.int (p5 &&& (3 : Int32))), .val (.ref b_s), .val (.int (((p5.toUInt32 >>> ((2 : Int32) &&& 31).toUInt32).toInt32) &&& (7 : Int32))), .val (.int w20), .unset] [(.int (0 : Int32))]))
                  exact J22 _ (if_neg (fun q => q.elim (fun q => (fun q => q.elim (fun q => (fun q => hc30 q.2) q.2) (fun q => (fun q => q hc28) q.1)) q.2) (fun q => (fun q => q hc27) q.1))).symm _ _ X21 e21 N21
            · refine Run.go (fun _ k => XS.icmpNo X21.here hx rfl (hb hby at_177) rfl (flt hc28).1 k) ?_
              show Run p e below s 4 50 (Q_rm0 Z p1 p2 p3 p4 p5 h0 n0) (T21.setTop (mkF m 180 #[.val (.int p1), .val (.int p2), .val (.int p3), .val (.int p4), .val (.int p5), .val (.int (F_rm1 p1)), .val (.int (F_rm1 p2)), .val (.int (F_rm1 p3)), .val (.int (p5 &&& (3 : Int32))), .val (.ref b_s), .val (.int (((p5.toUInt32 >>> ((2 : Int32) &&& 31).toUInt32).toInt32) &&& (7 : Int32))), .val (.int w20), .unset] []))
              refine Run.go (fun _ k => XS.iload X21.here hx rfl (hb hby at_180) rfl  k) ?_
              show Run p e below s 4 50 (Q_rm0 Z p1 p2 p3 p4 p5 h0 n0) (T21.setTop (mkF m 182 #[.val (.int p1), .val (.int p2), .val (.int p3), .val (.int p4), .val (.int p5), .val (.int (F_rm1 p1)), .val (.int (F_rm1 p2)), .val (.int (F_rm1 p3)), .val (.int (p5 &&& (3 : Int32))), .val (.ref b_s), .val (.int (((p5.toUInt32 >>> ((2 : Int32) &&& 31).toUInt32).toInt32) &&& (7 : Int32))), .val (.int w20), .unset] [(.int w20)]))
              refine Run.go (fun _ k => XS.iload X21.here hx rfl (hb hby at_182) rfl  k) ?_
              show Run p e below s 4 50 (Q_rm0 Z p1 p2 p3 p4 p5 h0 n0) (T21.setTop (mkF m 184 #[.val (.int p1), .val (.int p2), .val (.int p3), .val (.int p4), .val (.int p5), .val (.int (F_rm1 p1)), .val (.int (F_rm1 p2)), .val (.int (F_rm1 p3)), .val (.int (p5 &&& (3 : Int32))), .val (.ref b_s), .val (.int (((p5.toUInt32 >>> ((2 : Int32) &&& 31).toUInt32).toInt32) &&& (7 : Int32))), .val (.int w20), .unset] [(.int (F_rm1 p2)), (.int w20)]))
              by_cases hc31 : (w20 = (F_rm1 p2))
              · refine Run.go (fun _ k => XS.icmpYes X21.here hx rfl (pc0 := 184) (pc' := 200) rfl (hb hby at_184) rfl (teq hc31).1 (by decide) (by decide) k) ?_
                show Run p e below s 4 50 (Q_rm0 Z p1 p2 p3 p4 p5 h0 n0) (T21.setTop (mkF m 200 #[.val (.int p1), .val (.int p2), .val (.int p3), .val (.int p4), .val (.int p5), .val (.int (F_rm1 p1)), .val (.int (F_rm1 p2)), .val (.int (F_rm1 p3)), .val (.int (p5 &&& (3 : Int32))), .val (.ref b_s), .val (.int (((p5.toUInt32 >>> ((2 : Int32) &&& 31).toUInt32).toInt32) &&& (7 : Int32))), .val (.int w20), .unset] []))
                refine Run.go (fun _ k => XS.iconst X21.here hx rfl (hb hby at_200) k) ?_
                show Run p e below s 4 50 (Q_rm0 Z p1 p2 p3 p4 p5 h0 n0) (T21.setTop (mkF m 201 #[.val (.int p1), .val (.int p2), .val (.int p3), .val (.int p4), .val (.int p5), .val (.int (F_rm1 p1)), .val (.int (F_rm1 p2)), .val (.int (F_rm1 p3)), .val (.int (p5 &&& (3 : Int32))), .val (.ref b_s), .val (.int (((p5.toUInt32 >>> ((2 : Int32) &&& 31).toUInt32).toInt32) &&& (7 : Int32))), .val (.int w20), .unset] [(.int (1 : Int32))]))
                refine Run.go (fun _ k => XS.goto X21.here hx rfl (pc0 := 201) (pc' := 205) rfl (hb hby at_201) (by decide) (by decide) k) ?_
                show Run p e below s 4 50 (Q_rm0 Z p1 p2 p3 p4 p5 h0 n0) (T21.setTop (mkF m 205 #[.val (.int p1), .val (.int p2), .val (.int p3), .val (.int p4), .val (.int p5), .val (.int (F_rm1 p1)), .val (.int (F_rm1 p2)), .val (.int (F_rm1 p3)), .val (.int (p5 &&& (3 : Int32))), .val (.ref b_s), .val (.int (((p5.toUInt32 >>> ((2 : Int32) &&& 31).toUInt32).toInt32) &&& (7 : Int32))), .val (.int w20), .unset] [(.int (1 : Int32))]))
                exact J22 _ (if_pos (Or.inl ⟨hc27, (Or.inr ⟨hc28, (Or.inl hc31)⟩)⟩)).symm _ _ X21 e21 N21
              · refine Run.go (fun _ k => XS.icmpNo X21.here hx rfl (hb hby at_184) rfl (feq hc31).1 k) ?_
                show Run p e below s 4 50 (Q_rm0 Z p1 p2 p3 p4 p5 h0 n0) (T21.setTop (mkF m 187 #[.val (.int p1), .val (.int p2), .val (.int p3), .val (.int p4), .val (.int p5), .val (.int (F_rm1 p1)), .val (.int (F_rm1 p2)), .val (.int (F_rm1 p3)), .val (.int (p5 &&& (3 : Int32))), .val (.ref b_s), .val (.int (((p5.toUInt32 >>> ((2 : Int32) &&& 31).toUInt32).toInt32) &&& (7 : Int32))), .val (.int w20), .unset] []))
                refine Run.go (fun _ k => XS.iload X21.here hx rfl (hb hby at_187) rfl  k) ?_
                show Run p e below s 4 50 (Q_rm0 Z p1 p2 p3 p4 p5 h0 n0) (T21.setTop (mkF m 189 #[.val (.int p1), .val (.int p2), .val (.int p3), .val (.int p4), .val (.int p5), .val (.int (F_rm1 p1)), .val (.int (F_rm1 p2)), .val (.int (F_rm1 p3)), .val (.int (p5 &&& (3 : Int32))), .val (.ref b_s), .val (.int (((p5.toUInt32 >>> ((2 : Int32) &&& 31).toUInt32).toInt32) &&& (7 : Int32))), .val (.int w20), .unset] [(.int (p5 &&& (3 : Int32)))]))
                refine Run.go (fun _ k => XS.iconst X21.here hx rfl (hb hby at_189) k) ?_
                show Run p e below s 4 50 (Q_rm0 Z p1 p2 p3 p4 p5 h0 n0) (T21.setTop (mkF m 190 #[.val (.int p1), .val (.int p2), .val (.int p3), .val (.int p4), .val (.int p5), .val (.int (F_rm1 p1)), .val (.int (F_rm1 p2)), .val (.int (F_rm1 p3)), .val (.int (p5 &&& (3 : Int32))), .val (.ref b_s), .val (.int (((p5.toUInt32 >>> ((2 : Int32) &&& 31).toUInt32).toInt32) &&& (7 : Int32))), .val (.int w20), .unset] [(.int (3 : Int32)), (.int (p5 &&& (3 : Int32)))]))
                by_cases hc32 : ((p5 &&& (3 : Int32)) < (3 : Int32))
                · refine Run.go (fun _ k => XS.icmpYes X21.here hx rfl (pc0 := 190) (pc' := 204) rfl (hb hby at_190) rfl (tlt hc32).1 (by decide) (by decide) k) ?_
                  show Run p e below s 4 50 (Q_rm0 Z p1 p2 p3 p4 p5 h0 n0) (T21.setTop (mkF m 204 #[.val (.int p1), .val (.int p2), .val (.int p3), .val (.int p4), .val (.int p5), .val (.int (F_rm1 p1)), .val (.int (F_rm1 p2)), .val (.int (F_rm1 p3)), .val (.int (p5 &&& (3 : Int32))), .val (.ref b_s), .val (.int (((p5.toUInt32 >>> ((2 : Int32) &&& 31).toUInt32).toInt32) &&& (7 : Int32))), .val (.int w20), .unset] []))
                  refine Run.go (fun _ k => XS.iconst X21.here hx rfl (hb hby at_204) k) ?_
                  show Run p e below s 4 50 (Q_rm0 Z p1 p2 p3 p4 p5 h0 n0) (T21.setTop (mkF m 205 #[.val (.int p1), .val (.int p2), .val (.int p3), .val (.int p4), .val (.int p5), .val (.int (F_rm1 p1)), .val (.int (F_rm1 p2)), .val (.int (F_rm1 p3)), .val (.int (p5 &&& (3 : Int32))), .val (.ref b_s), .val (.int (((p5.toUInt32 >>> ((2 : Int32) &&& 31).toUInt32).toInt32) &&& (7 : Int32))), .val (.int w20), .unset] [(.int (0 : Int32))]))
                  exact J22 _ (if_neg (fun q => q.elim (fun q => (fun q => q.elim (fun q => hc28 q.1) (fun q => (fun q => q.elim hc31 (fun q => (fun q => q hc32) q.1)) q.2)) q.2) (fun q => (fun q => q hc27) q.1))).symm _ _ X21 e21 N21
                · refine Run.go (fun _ k => XS.icmpNo X21.here hx rfl (hb hby at_190) rfl (flt hc32).1 k) ?_
                  show Run p e below s 4 50 (Q_rm0 Z p1 p2 p3 p4 p5 h0 n0) (T21.setTop (mkF m 193 #[.val (.int p1), .val (.int p2), .val (.int p3), .val (.int p4), .val (.int p5), .val (.int (F_rm1 p1)), .val (.int (F_rm1 p2)), .val (.int (F_rm1 p3)), .val (.int (p5 &&& (3 : Int32))), .val (.ref b_s), .val (.int (((p5.toUInt32 >>> ((2 : Int32) &&& 31).toUInt32).toInt32) &&& (7 : Int32))), .val (.int w20), .unset] []))
                  refine Run.go (fun _ k => XS.iload X21.here hx rfl (hb hby at_193) rfl  k) ?_
                  show Run p e below s 4 50 (Q_rm0 Z p1 p2 p3 p4 p5 h0 n0) (T21.setTop (mkF m 195 #[.val (.int p1), .val (.int p2), .val (.int p3), .val (.int p4), .val (.int p5), .val (.int (F_rm1 p1)), .val (.int (F_rm1 p2)), .val (.int (F_rm1 p3)), .val (.int (p5 &&& (3 : Int32))), .val (.ref b_s), .val (.int (((p5.toUInt32 >>> ((2 : Int32) &&& 31).toUInt32).toInt32) &&& (7 : Int32))), .val (.int w20), .unset] [(.int w20)]))
                  refine Run.go (fun _ k => XS.iload X21.here hx rfl (hb hby at_195) rfl  k) ?_
                  show Run p e below s 4 50 (Q_rm0 Z p1 p2 p3 p4 p5 h0 n0) (T21.setTop (mkF m 197 #[.val (.int p1), .val (.int p2), .val (.int p3), .val (.int p4), .val (.int p5), .val (.int (F_rm1 p1)), .val (.int (F_rm1 p2)), .val (.int (F_rm1 p3)), .val (.int (p5 &&& (3 : Int32))), .val (.ref b_s), .val (.int (((p5.toUInt32 >>> ((2 : Int32) &&& 31).toUInt32).toInt32) &&& (7 : Int32))), .val (.int w20), .unset] [(.int (F_rm1 p3)), (.int w20)]))
                  by_cases hc33 : (w20 = (F_rm1 p3))
                  · refine Run.go (fun _ k => XS.icmpNo X21.here hx rfl (hb hby at_197) rfl (teq hc33).2 k) ?_
                    show Run p e below s 4 50 (Q_rm0 Z p1 p2 p3 p4 p5 h0 n0) (T21.setTop (mkF m 200 #[.val (.int p1), .val (.int p2), .val (.int p3), .val (.int p4), .val (.int p5), .val (.int (F_rm1 p1)), .val (.int (F_rm1 p2)), .val (.int (F_rm1 p3)), .val (.int (p5 &&& (3 : Int32))), .val (.ref b_s), .val (.int (((p5.toUInt32 >>> ((2 : Int32) &&& 31).toUInt32).toInt32) &&& (7 : Int32))), .val (.int w20), .unset] []))
                    refine Run.go (fun _ k => XS.iconst X21.here hx rfl (hb hby at_200) k) ?_
                    show Run p e below s 4 50 (Q_rm0 Z p1 p2 p3 p4 p5 h0 n0) (T21.setTop (mkF m 201 #[.val (.int p1), .val (.int p2), .val (.int p3), .val (.int p4), .val (.int p5), .val (.int (F_rm1 p1)), .val (.int (F_rm1 p2)), .val (.int (F_rm1 p3)), .val (.int (p5 &&& (3 : Int32))), .val (.ref b_s), .val (.int (((p5.toUInt32 >>> ((2 : Int32) &&& 31).toUInt32).toInt32) &&& (7 : Int32))), .val (.int w20), .unset] [(.int (1 : Int32))]))
                    refine Run.go (fun _ k => XS.goto X21.here hx rfl (pc0 := 201) (pc' := 205) rfl (hb hby at_201) (by decide) (by decide) k) ?_
                    show Run p e below s 4 50 (Q_rm0 Z p1 p2 p3 p4 p5 h0 n0) (T21.setTop (mkF m 205 #[.val (.int p1), .val (.int p2), .val (.int p3), .val (.int p4), .val (.int p5), .val (.int (F_rm1 p1)), .val (.int (F_rm1 p2)), .val (.int (F_rm1 p3)), .val (.int (p5 &&& (3 : Int32))), .val (.ref b_s), .val (.int (((p5.toUInt32 >>> ((2 : Int32) &&& 31).toUInt32).toInt32) &&& (7 : Int32))), .val (.int w20), .unset] [(.int (1 : Int32))]))
                    exact J22 _ (if_pos (Or.inl ⟨hc27, (Or.inr ⟨hc28, (Or.inr ⟨hc32, hc33⟩)⟩)⟩)).symm _ _ X21 e21 N21
                  · refine Run.go (fun _ k => XS.icmpYes X21.here hx rfl (pc0 := 197) (pc' := 204) rfl (hb hby at_197) rfl (feq hc33).2 (by decide) (by decide) k) ?_
                    show Run p e below s 4 50 (Q_rm0 Z p1 p2 p3 p4 p5 h0 n0) (T21.setTop (mkF m 204 #[.val (.int p1), .val (.int p2), .val (.int p3), .val (.int p4), .val (.int p5), .val (.int (F_rm1 p1)), .val (.int (F_rm1 p2)), .val (.int (F_rm1 p3)), .val (.int (p5 &&& (3 : Int32))), .val (.ref b_s), .val (.int (((p5.toUInt32 >>> ((2 : Int32) &&& 31).toUInt32).toInt32) &&& (7 : Int32))), .val (.int w20), .unset] []))
                    refine Run.go (fun _ k => XS.iconst X21.here hx rfl (hb hby at_204) k) ?_
                    show Run p e below s 4 50 (Q_rm0 Z p1 p2 p3 p4 p5 h0 n0) (T21.setTop (mkF m 205 #[.val (.int p1), .val (.int p2), .val (.int p3), .val (.int p4), .val (.int p5), .val (.int (F_rm1 p1)), .val (.int (F_rm1 p2)), .val (.int (F_rm1 p3)), .val (.int (p5 &&& (3 : Int32))), .val (.ref b_s), .val (.int (((p5.toUInt32 >>> ((2 : Int32) &&& 31).toUInt32).toInt32) &&& (7 : Int32))), .val (.int w20), .unset] [(.int (0 : Int32))]))
                    exact J22 _ (if_neg (fun q => q.elim (fun q => (fun q => q.elim (fun q => hc28 q.1) (fun q => (fun q => q.elim hc31 (fun q => hc33 q.2)) q.2)) q.2) (fun q => (fun q => q hc27) q.1))).symm _ _ X21 e21 N21
          · refine Run.go (fun _ k => XS.icmpNo X21.here hx rfl (hb hby at_164) rfl (flt hc27).1 k) ?_
            show Run p e below s 4 50 (Q_rm0 Z p1 p2 p3 p4 p5 h0 n0) (T21.setTop (mkF m 167 #[.val (.int p1), .val (.int p2), .val (.int p3), .val (.int p4), .val (.int p5), .val (.int (F_rm1 p1)), .val (.int (F_rm1 p2)), .val (.int (F_rm1 p3)), .val (.int (p5 &&& (3 : Int32))), .val (.ref b_s), .val (.int (((p5.toUInt32 >>> ((2 : Int32) &&& 31).toUInt32).toInt32) &&& (7 : Int32))), .val (.int w20), .unset] []))
            refine Run.go (fun _ k => XS.iload X21.here hx rfl (hb hby at_167) rfl  k) ?_
            show Run p e below s 4 50 (Q_rm0 Z p1 p2 p3 p4 p5 h0 n0) (T21.setTop (mkF m 169 #[.val (.int p1), .val (.int p2), .val (.int p3), .val (.int p4), .val (.int p5), .val (.int (F_rm1 p1)), .val (.int (F_rm1 p2)), .val (.int (F_rm1 p3)), .val (.int (p5 &&& (3 : Int32))), .val (.ref b_s), .val (.int (((p5.toUInt32 >>> ((2 : Int32) &&& 31).toUInt32).toInt32) &&& (7 : Int32))), .val (.int w20), .unset] [(.int w20)]))
            refine Run.go (fun _ k => XS.iload X21.here hx rfl (hb hby at_169) rfl  k) ?_
            show Run p e below s 4 50 (Q_rm0 Z p1 p2 p3 p4 p5 h0 n0) (T21.setTop (mkF m 171 #[.val (.int p1), .val (.int p2), .val (.int p3), .val (.int p4), .val (.int p5), .val (.int (F_rm1 p1)), .val (.int (F_rm1 p2)), .val (.int (F_rm1 p3)), .val (.int (p5 &&& (3 : Int32))), .val (.ref b_s), .val (.int (((p5.toUInt32 >>> ((2 : Int32) &&& 31).toUInt32).toInt32) &&& (7 : Int32))), .val (.int w20), .unset] [(.int (F_rm1 p1)), (.int w20)]))
            by_cases hc34 : (w20 = (F_rm1 p1))
            · refine Run.go (fun _ k => XS.icmpYes X21.here hx rfl (pc0 := 171) (pc' := 200) rfl (hb hby at_171) rfl (teq hc34).1 (by decide) (by decide) k) ?_
              show Run p e below s 4 50 (Q_rm0 Z p1 p2 p3 p4 p5 h0 n0) (T21.setTop (mkF m 200 #[.val (.int p1), .val (.int p2), .val (.int p3), .val (.int p4), .val (.int p5), .val (.int (F_rm1 p1)), .val (.int (F_rm1 p2)), .val (.int (F_rm1 p3)), .val (.int (p5 &&& (3 : Int32))), .val (.ref b_s), .val (.int (((p5.toUInt32 >>> ((2 : Int32) &&& 31).toUInt32).toInt32) &&& (7 : Int32))), .val (.int w20), .unset] []))
              refine Run.go (fun _ k => XS.iconst X21.here hx rfl (hb hby at_200) k) ?_
              show Run p e below s 4 50 (Q_rm0 Z p1 p2 p3 p4 p5 h0 n0) (T21.setTop (mkF m 201 #[.val (.int p1), .val (.int p2), .val (.int p3), .val (.int p4), .val (.int p5), .val (.int (F_rm1 p1)), .val (.int (F_rm1 p2)), .val (.int (F_rm1 p3)), .val (.int (p5 &&& (3 : Int32))), .val (.ref b_s), .val (.int (((p5.toUInt32 >>> ((2 : Int32) &&& 31).toUInt32).toInt32) &&& (7 : Int32))), .val (.int w20), .unset] [(.int (1 : Int32))]))
              refine Run.go (fun _ k => XS.goto X21.here hx rfl (pc0 := 201) (pc' := 205) rfl (hb hby at_201) (by decide) (by decide) k) ?_
              show Run p e below s 4 50 (Q_rm0 Z p1 p2 p3 p4 p5 h0 n0) (T21.setTop (mkF m 205 #[.val (.int p1), .val (.int p2), .val (.int p3), .val (.int p4), .val (.int p5), .val (.int (F_rm1 p1)), .val (.int (F_rm1 p2)), .val (.int (F_rm1 p3)), .val (.int (p5 &&& (3 : Int32))), .val (.ref b_s), .val (.int (((p5.toUInt32 >>> ((2 : Int32) &&& 31).toUInt32).toInt32) &&& (7 : Int32))), .val (.int w20), .unset] [(.int (1 : Int32))]))
              exact J22 _ (if_pos (Or.inr ⟨hc27, (Or.inl hc34)⟩)).symm _ _ X21 e21 N21
            · refine Run.go (fun _ k => XS.icmpNo X21.here hx rfl (hb hby at_171) rfl (feq hc34).1 k) ?_
              show Run p e below s 4 50 (Q_rm0 Z p1 p2 p3 p4 p5 h0 n0) (T21.setTop (mkF m 174 #[.val (.int p1), .val (.int p2), .val (.int p3), .val (.int p4), .val (.int p5), .val (.int (F_rm1 p1)), .val (.int (F_rm1 p2)), .val (.int (F_rm1 p3)), .val (.int (p5 &&& (3 : Int32))), .val (.ref b_s), .val (.int (((p5.toUInt32 >>> ((2 : Int32) &&& 31).toUInt32).toInt32) &&& (7 : Int32))), .val (.int w20), .unset] []))
              refine Run.go (fun _ k => XS.iload X21.here hx rfl (hb hby at_174) rfl  k) ?_
              show Run p e below s 4 50 (Q_rm0 Z p1 p2 p3 p4 p5 h0 n0) (T21.setTop (mkF m 176 #[.val (.int p1), .val (.int p2), .val (.int p3), .val (.int p4), .val (.int p5), .val (.int (F_rm1 p1)), .val (.int (F_rm1 p2)), .val (.int (F_rm1 p3)), .val (.int (p5 &&& (3 : Int32))), .val (.ref b_s), .val (.int (((p5.toUInt32 >>> ((2 : Int32) &&& 31).toUInt32).toInt32) &&& (7 : Int32))), .val (.int w20), .unset] [(.int (p5 &&& (3 : Int32)))]))
              refine Run.go (fun _ k => XS.iconst X21.here hx rfl (hb hby at_176) k) ?_
              show Run p e below s 4 50 (Q_rm0 Z p1 p2 p3 p4 p5 h0 n0) (T21.setTop (mkF m 177 #[.val (.int p1), .val (.int p2), .val (.int p3), .val (.int p4), .val (.int p5), .val (.int (F_rm1 p1)), .val (.int (F_rm1 p2)), .val (.int (F_rm1 p3)), .val (.int (p5 &&& (3 : Int32))), .val (.ref b_s), .val (.int (((p5.toUInt32 >>> ((2 : Int32) &&& 31).toUInt32).toInt32) &&& (7 : Int32))), .val (.int w20), .unset] [(.int (2 : Int32)), (.int (p5 &&& (3 : Int32)))]))
              by_cases hc35 : ((p5 &&& (3 : Int32)) < (2 : Int32))
              · refine Run.go (fun _ k => XS.icmpYes X21.here hx rfl (pc0 := 177) (pc' := 187) rfl (hb hby at_177) rfl (tlt hc35).1 (by decide) (by decide) k) ?_
                show Run p e below s 4 50 (Q_rm0 Z p1 p2 p3 p4 p5 h0 n0) (T21.setTop (mkF m 187 #[.val (.int p1), .val (.int p2), .val (.int p3), .val (.int p4), .val (.int p5), .val (.int (F_rm1 p1)), .val (.int (F_rm1 p2)), .val (.int (F_rm1 p3)), .val (.int (p5 &&& (3 : Int32))), .val (.ref b_s), .val (.int (((p5.toUInt32 >>> ((2 : Int32) &&& 31).toUInt32).toInt32) &&& (7 : Int32))), .val (.int w20), .unset] []))
                refine Run.go (fun _ k => XS.iload X21.here hx rfl (hb hby at_187) rfl  k) ?_
                show Run p e below s 4 50 (Q_rm0 Z p1 p2 p3 p4 p5 h0 n0) (T21.setTop (mkF m 189 #[.val (.int p1), .val (.int p2), .val (.int p3), .val (.int p4), .val (.int p5), .val (.int (F_rm1 p1)), .val (.int (F_rm1 p2)), .val (.int (F_rm1 p3)), .val (.int (p5 &&& (3 : Int32))), .val (.ref b_s), .val (.int (((p5.toUInt32 >>> ((2 : Int32) &&& 31).toUInt32).toInt32) &&& (7 : Int32))), .val (.int w20), .unset] [(.int (p5 &&& (3 : Int32)))]))
                refine Run.go (fun _ k => XS.iconst X21.here hx rfl (hb hby at_189) k) ?_
                show Run p e below s 4 50 (Q_rm0 Z p1 p2 p3 p4 p5 h0 n0) (T21.setTop (mkF m 190 #[.val (.int p1), .val (.int p2), .val (.int p3), .val (.int p4), .val (.int p5), .val (.int (F_rm1 p1)), .val (.int (F_rm1 p2)), .val (.int (F_rm1 p3)), .val (.int (p5 &&& (3 : Int32))), .val (.ref b_s), .val (.int (((p5.toUInt32 >>> ((2 : Int32) &&& 31).toUInt32).toInt32) &&& (7 : Int32))), .val (.int w20), .unset] [(.int (3 : Int32)), (.int (p5 &&& (3 : Int32)))]))
                by_cases hc36 : ((p5 &&& (3 : Int32)) < (3 : Int32))
                · refine Run.go (fun _ k => XS.icmpYes X21.here hx rfl (pc0 := 190) (pc' := 204) rfl (hb hby at_190) rfl (tlt hc36).1 (by decide) (by decide) k) ?_
                  show Run p e below s 4 50 (Q_rm0 Z p1 p2 p3 p4 p5 h0 n0) (T21.setTop (mkF m 204 #[.val (.int p1), .val (.int p2), .val (.int p3), .val (.int p4), .val (.int p5), .val (.int (F_rm1 p1)), .val (.int (F_rm1 p2)), .val (.int (F_rm1 p3)), .val (.int (p5 &&& (3 : Int32))), .val (.ref b_s), .val (.int (((p5.toUInt32 >>> ((2 : Int32) &&& 31).toUInt32).toInt32) &&& (7 : Int32))), .val (.int w20), .unset] []))
                  refine Run.go (fun _ k => XS.iconst X21.here hx rfl (hb hby at_204) k) ?_
                  show Run p e below s 4 50 (Q_rm0 Z p1 p2 p3 p4 p5 h0 n0) (T21.setTop (mkF m 205 #[.val (.int p1), .val (.int p2), .val (.int p3), .val (.int p4), .val (.int p5), .val (.int (F_rm1 p1)), .val (.int (F_rm1 p2)), .val (.int (F_rm1 p3)), .val (.int (p5 &&& (3 : Int32))), .val (.ref b_s), .val (.int (((p5.toUInt32 >>> ((2 : Int32) &&& 31).toUInt32).toInt32) &&& (7 : Int32))), .val (.int w20), .unset] [(.int (0 : Int32))]))
                  exact J22 _ (if_neg (fun q => q.elim (fun q => hc27 q.1) (fun q => (fun q => q.elim hc34 (fun q => q.elim (fun q => (fun q => (fun q => q hc36) q.1) q.2) (fun q => (fun q => q hc35) q.1))) q.2))).symm _ _ X21 e21 N21
                · refine Run.go (fun _ k => XS.icmpNo X21.here hx rfl (hb hby at_190) rfl (flt hc36).1 k) ?_
                  show Run p e below s 4 50 (Q_rm0 Z p1 p2 p3 p4 p5 h0 n0) (T21.setTop (mkF m 193 #[.val (.int p1), .val (.int p2), .val (.int p3), .val (.int p4), .val (.int p5), .val (.int (F_rm1 p1)), .val (.int (F_rm1 p2)), .val (.int (F_rm1 p3)), .val (.int (p5 &&& (3 : Int32))), .val (.ref b_s), .val (.int (((p5.toUInt32 >>> ((2 : Int32) &&& 31).toUInt32).toInt32) &&& (7 : Int32))), .val (.int w20), .unset] []))
                  refine Run.go (fun _ k => XS.iload X21.here hx rfl (hb hby at_193) rfl  k) ?_
                  show Run p e below s 4 50 (Q_rm0 Z p1 p2 p3 p4 p5 h0 n0) (T21.setTop (mkF m 195 #[.val (.int p1), .val (.int p2), .val (.int p3), .val (.int p4), .val (.int p5), .val (.int (F_rm1 p1)), .val (.int (F_rm1 p2)), .val (.int (F_rm1 p3)), .val (.int (p5 &&& (3 : Int32))), .val (.ref b_s), .val (.int (((p5.toUInt32 >>> ((2 : Int32) &&& 31).toUInt32).toInt32) &&& (7 : Int32))), .val (.int w20), .unset] [(.int w20)]))
                  refine Run.go (fun _ k => XS.iload X21.here hx rfl (hb hby at_195) rfl  k) ?_
                  show Run p e below s 4 50 (Q_rm0 Z p1 p2 p3 p4 p5 h0 n0) (T21.setTop (mkF m 197 #[.val (.int p1), .val (.int p2), .val (.int p3), .val (.int p4), .val (.int p5), .val (.int (F_rm1 p1)), .val (.int (F_rm1 p2)), .val (.int (F_rm1 p3)), .val (.int (p5 &&& (3 : Int32))), .val (.ref b_s), .val (.int (((p5.toUInt32 >>> ((2 : Int32) &&& 31).toUInt32).toInt32) &&& (7 : Int32))), .val (.int w20), .unset] [(.int (F_rm1 p3)), (.int w20)]))
                  by_cases hc37 : (w20 = (F_rm1 p3))
                  · refine Run.go (fun _ k => XS.icmpNo X21.here hx rfl (hb hby at_197) rfl (teq hc37).2 k) ?_
                    show Run p e below s 4 50 (Q_rm0 Z p1 p2 p3 p4 p5 h0 n0) (T21.setTop (mkF m 200 #[.val (.int p1), .val (.int p2), .val (.int p3), .val (.int p4), .val (.int p5), .val (.int (F_rm1 p1)), .val (.int (F_rm1 p2)), .val (.int (F_rm1 p3)), .val (.int (p5 &&& (3 : Int32))), .val (.ref b_s), .val (.int (((p5.toUInt32 >>> ((2 : Int32) &&& 31).toUInt32).toInt32) &&& (7 : Int32))), .val (.int w20), .unset] []))
                    refine Run.go (fun _ k => XS.iconst X21.here hx rfl (hb hby at_200) k) ?_
                    show Run p e below s 4 50 (Q_rm0 Z p1 p2 p3 p4 p5 h0 n0) (T21.setTop (mkF m 201 #[.val (.int p1), .val (.int p2), .val (.int p3), .val (.int p4), .val (.int p5), .val (.int (F_rm1 p1)), .val (.int (F_rm1 p2)), .val (.int (F_rm1 p3)), .val (.int (p5 &&& (3 : Int32))), .val (.ref b_s), .val (.int (((p5.toUInt32 >>> ((2 : Int32) &&& 31).toUInt32).toInt32) &&& (7 : Int32))), .val (.int w20), .unset] [(.int (1 : Int32))]))
                    refine Run.go (fun _ k => XS.goto X21.here hx rfl (pc0 := 201) (pc' := 205) rfl (hb hby at_201) (by decide) (by decide) k) ?_
                    show Run p e below s 4 50 (Q_rm0 Z p1 p2 p3 p4 p5 h0 n0) (T21.setTop (mkF m 205 #[.val (.int p1), .val (.int p2), .val (.int p3), .val (.int p4), .val (.int p5), .val (.int (F_rm1 p1)), .val (.int (F_rm1 p2)), .val (.int (F_rm1 p3)), .val (.int (p5 &&& (3 : Int32))), .val (.ref b_s), .val (.int (((p5.toUInt32 >>> ((2 : Int32) &&& 31).toUInt32).toInt32) &&& (7 : Int32))), .val (.int w20), .unset] [(.int (1 : Int32))]))
                    exact J22 _ (if_pos (Or.inr ⟨hc27, (Or.inr (Or.inl ⟨hc35, ⟨hc36, hc37⟩⟩))⟩)).symm _ _ X21 e21 N21
                  · refine Run.go (fun _ k => XS.icmpYes X21.here hx rfl (pc0 := 197) (pc' := 204) rfl (hb hby at_197) rfl (feq hc37).2 (by decide) (by decide) k) ?_
                    show Run p e below s 4 50 (Q_rm0 Z p1 p2 p3 p4 p5 h0 n0) (T21.setTop (mkF m 204 #[.val (.int p1), .val (.int p2), .val (.int p3), .val (.int p4), .val (.int p5), .val (.int (F_rm1 p1)), .val (.int (F_rm1 p2)), .val (.int (F_rm1 p3)), .val (.int (p5 &&& (3 : Int32))), .val (.ref b_s), .val (.int (((p5.toUInt32 >>> ((2 : Int32) &&& 31).toUInt32).toInt32) &&& (7 : Int32))), .val (.int w20), .unset] []))
                    refine Run.go (fun _ k => XS.iconst X21.here hx rfl (hb hby at_204) k) ?_
                    show Run p e below s 4 50 (Q_rm0 Z p1 p2 p3 p4 p5 h0 n0) (T21.setTop (mkF m 205 #[.val (.int p1), .val (.int p2), .val (.int p3), .val (.int p4), .val (.int p5), .val (.int (F_rm1 p1)), .val (.int (F_rm1 p2)), .val (.int (F_rm1 p3)), .val (.int (p5 &&& (3 : Int32))), .val (.ref b_s), .val (.int (((p5.toUInt32 >>> ((2 : Int32) &&& 31).toUInt32).toInt32) &&& (7 : Int32))), .val (.int w20), .unset] [(.int (0 : Int32))]))
                    exact J22 _ (if_neg (fun q => q.elim (fun q => hc27 q.1) (fun q => (fun q => q.elim hc34 (fun q => q.elim (fun q => (fun q => hc37 q.2) q.2) (fun q => (fun q => q hc35) q.1))) q.2))).symm _ _ X21 e21 N21
              · refine Run.go (fun _ k => XS.icmpNo X21.here hx rfl (hb hby at_177) rfl (flt hc35).1 k) ?_
                show Run p e below s 4 50 (Q_rm0 Z p1 p2 p3 p4 p5 h0 n0) (T21.setTop (mkF m 180 #[.val (.int p1), .val (.int p2), .val (.int p3), .val (.int p4), .val (.int p5), .val (.int (F_rm1 p1)), .val (.int (F_rm1 p2)), .val (.int (F_rm1 p3)), .val (.int (p5 &&& (3 : Int32))), .val (.ref b_s), .val (.int (((p5.toUInt32 >>> ((2 : Int32) &&& 31).toUInt32).toInt32) &&& (7 : Int32))), .val (.int w20), .unset] []))
                refine Run.go (fun _ k => XS.iload X21.here hx rfl (hb hby at_180) rfl  k) ?_
                show Run p e below s 4 50 (Q_rm0 Z p1 p2 p3 p4 p5 h0 n0) (T21.setTop (mkF m 182 #[.val (.int p1), .val (.int p2), .val (.int p3), .val (.int p4), .val (.int p5), .val (.int (F_rm1 p1)), .val (.int (F_rm1 p2)), .val (.int (F_rm1 p3)), .val (.int (p5 &&& (3 : Int32))), .val (.ref b_s), .val (.int (((p5.toUInt32 >>> ((2 : Int32) &&& 31).toUInt32).toInt32) &&& (7 : Int32))), .val (.int w20), .unset] [(.int w20)]))
                refine Run.go (fun _ k => XS.iload X21.here hx rfl (hb hby at_182) rfl  k) ?_
                show Run p e below s 4 50 (Q_rm0 Z p1 p2 p3 p4 p5 h0 n0) (T21.setTop (mkF m 184 #[.val (.int p1), .val (.int p2), .val (.int p3), .val (.int p4), .val (.int p5), .val (.int (F_rm1 p1)), .val (.int (F_rm1 p2)), .val (.int (F_rm1 p3)), .val (.int (p5 &&& (3 : Int32))), .val (.ref b_s), .val (.int (((p5.toUInt32 >>> ((2 : Int32) &&& 31).toUInt32).toInt32) &&& (7 : Int32))), .val (.int w20), .unset] [(.int (F_rm1 p2)), (.int w20)]))
                by_cases hc38 : (w20 = (F_rm1 p2))
                · refine Run.go (fun _ k => XS.icmpYes X21.here hx rfl (pc0 := 184) (pc' := 200) rfl (hb hby at_184) rfl (teq hc38).1 (by decide) (by decide) k) ?_
                  show Run p e below s 4 50 (Q_rm0 Z p1 p2 p3 p4 p5 h0 n0) (T21.setTop (mkF m 200 #[.val (.int p1), .val (.int p2), .val (.int p3), .val (.int p4), .val (.int p5), .val (.int (F_rm1 p1)), .val (.int (F_rm1 p2)), .val (.int (F_rm1 p3)), .val (.int (p5 &&& (3 : Int32))), .val (.ref b_s), .val (.int (((p5.toUInt32 >>> ((2 : Int32) &&& 31).toUInt32).toInt32) &&& (7 : Int32))), .val (.int w20), .unset] []))
                  refine Run.go (fun _ k => XS.iconst X21.here hx rfl (hb hby at_200) k) ?_
                  show Run p e below s 4 50 (Q_rm0 Z p1 p2 p3 p4 p5 h0 n0) (T21.setTop (mkF m 201 #[.val (.int p1), .val (.int p2), .val (.int p3), .val (.int p4), .val (.int p5), .val (.int (F_rm1 p1)), .val (.int (F_rm1 p2)), .val (.int (F_rm1 p3)), .val (.int (p5 &&& (3 : Int32))), .val (.ref b_s), .val (.int (((p5.toUInt32 >>> ((2 : Int32) &&& 31).toUInt32).toInt32) &&& (7 : Int32))), .val (.int w20), .unset] [(.int (1 : Int32))]))
                  refine Run.go (fun _ k => XS.goto X21.here hx rfl (pc0 := 201) (pc' := 205) rfl (hb hby at_201) (by decide) (by decide) k) ?_
                  show Run p e below s 4 50 (Q_rm0 Z p1 p2 p3 p4 p5 h0 n0) (T21.setTop (mkF m 205 #[.val (.int p1), .val (.int p2), .val (.int p3), .val (.int p4), .val (.int p5), .val (.int (F_rm1 p1)), .val (.int (F_rm1 p2)), .val (.int (F_rm1 p3)), .val (.int (p5 &&& (3 : Int32))), .val (.ref b_s), .val (.int (((p5.toUInt32 >>> ((2 : Int32) &&& 31).toUInt32).toInt32) &&& (7 : Int32))), .val (.int w20), .unset] [(.int (1 : Int32))]))
                  exact J22 _ (if_pos (Or.inr ⟨hc27, (Or.inr (Or.inr ⟨hc35, (Or.inl hc38)⟩))⟩)).symm _ _ X21 e21 N21
                · refine Run.go (fun _ k => XS.icmpNo X21.here hx rfl (hb hby at_184) rfl (feq hc38).1 k) ?_
                  show Run p e below s 4 50 (Q_rm0 Z p1 p2 p3 p4 p5 h0 n0) (T21.setTop (mkF m 187 #[.val (.int p1), .val (.int p2), .val (.int p3), .val (.int p4), .val (.int p5), .val (.int (F_rm1 p1)), .val (.int (F_rm1 p2)), .val (.int (F_rm1 p3)), .val (.int (p5 &&& (3 : Int32))), .val (.ref b_s), .val (.int (((p5.toUInt32 >>> ((2 : Int32) &&& 31).toUInt32).toInt32) &&& (7 : Int32))), .val (.int w20), .unset] []))
                  refine Run.go (fun _ k => XS.iload X21.here hx rfl (hb hby at_187) rfl  k) ?_
                  show Run p e below s 4 50 (Q_rm0 Z p1 p2 p3 p4 p5 h0 n0) (T21.setTop (mkF m 189 #[.val (.int p1), .val (.int p2), .val (.int p3), .val (.int p4), .val (.int p5), .val (.int (F_rm1 p1)), .val (.int (F_rm1 p2)), .val (.int (F_rm1 p3)), .val (.int (p5 &&& (3 : Int32))), .val (.ref b_s), .val (.int (((p5.toUInt32 >>> ((2 : Int32) &&& 31).toUInt32).toInt32) &&& (7 : Int32))), .val (.int w20), .unset] [(.int (p5 &&& (3 : Int32)))]))
                  refine Run.go (fun _ k => XS.iconst X21.here hx rfl (hb hby at_189) k) ?_
                  show Run p e below s 4 50 (Q_rm0 Z p1 p2 p3 p4 p5 h0 n0) (T21.setTop (mkF m 190 #[.val (.int p1), .val (.int p2), .val (.int p3), .val (.int p4), .val (.int p5), .val (.int (F_rm1 p1)), .val (.int (F_rm1 p2)), .val (.int (F_rm1 p3)), .val (.int (p5 &&& (3 : Int32))), .val (.ref b_s), .val (.int (((p5.toUInt32 >>> ((2 : Int32) &&& 31).toUInt32).toInt32) &&& (7 : Int32))), .val (.int w20), .unset] [(.int (3 : Int32)), (.int (p5 &&& (3 : Int32)))]))
                  by_cases hc39 : ((p5 &&& (3 : Int32)) < (3 : Int32))
                  · refine Run.go (fun _ k => XS.icmpYes X21.here hx rfl (pc0 := 190) (pc' := 204) rfl (hb hby at_190) rfl (tlt hc39).1 (by decide) (by decide) k) ?_
                    show Run p e below s 4 50 (Q_rm0 Z p1 p2 p3 p4 p5 h0 n0) (T21.setTop (mkF m 204 #[.val (.int p1), .val (.int p2), .val (.int p3), .val (.int p4), .val (.int p5), .val (.int (F_rm1 p1)), .val (.int (F_rm1 p2)), .val (.int (F_rm1 p3)), .val (.int (p5 &&& (3 : Int32))), .val (.ref b_s), .val (.int (((p5.toUInt32 >>> ((2 : Int32) &&& 31).toUInt32).toInt32) &&& (7 : Int32))), .val (.int w20), .unset] []))
                    refine Run.go (fun _ k => XS.iconst X21.here hx rfl (hb hby at_204) k) ?_
                    show Run p e below s 4 50 (Q_rm0 Z p1 p2 p3 p4 p5 h0 n0) (T21.setTop (mkF m 205 #[.val (.int p1), .val (.int p2), .val (.int p3), .val (.int p4), .val (.int p5), .val (.int (F_rm1 p1)), .val (.int (F_rm1 p2)), .val (.int (F_rm1 p3)), .val (.int (p5 &&& (3 : Int32))), .val (.ref b_s), .val (.int (((p5.toUInt32 >>> ((2 : Int32) &&& 31).toUInt32).toInt32) &&& (7 : Int32))), .val (.int w20), .unset] [(.int (0 : Int32))]))
                    exact J22 _ (if_neg (fun q => q.elim (fun q => hc27 q.1) (fun q => (fun q => q.elim hc34 (fun q => q.elim (fun q => hc35 q.1) (fun q => (fun q => q.elim hc38 (fun q => (fun q => q hc39) q.1)) q.2))) q.2))).symm _ _ X21 e21 N21
                  · refine Run.go (fun _ k => XS.icmpNo X21.here hx rfl (hb hby at_190) rfl (flt hc39).1 k) ?_
                    show Run p e below s 4 50 (Q_rm0 Z p1 p2 p3 p4 p5 h0 n0) (T21.setTop (mkF m 193 #[.val (.int p1), .val (.int p2), .val (.int p3), .val (.int p4), .val (.int p5), .val (.int (F_rm1 p1)), .val (.int (F_rm1 p2)), .val (.int (F_rm1 p3)), .val (.int (p5 &&& (3 : Int32))), .val (.ref b_s), .val (.int (((p5.toUInt32 >>> ((2 : Int32) &&& 31).toUInt32).toInt32) &&& (7 : Int32))), .val (.int w20), .unset] []))
                    refine Run.go (fun _ k => XS.iload X21.here hx rfl (hb hby at_193) rfl  k) ?_
                    show Run p e below s 4 50 (Q_rm0 Z p1 p2 p3 p4 p5 h0 n0) (T21.setTop (mkF m 195 #[.val (.int p1), .val (.int p2), .val (.int p3), .val (.int p4), .val (.int p5), .val (.int (F_rm1 p1)), .val (.int (F_rm1 p2)), .val (.int (F_rm1 p3)), .val (.int (p5 &&& (3 : Int32))), .val (.ref b_s), .val (.int (((p5.toUInt32 >>> ((2 : Int32) &&& 31).toUInt32).toInt32) &&& (7 : Int32))), .val (.int w20), .unset] [(.int w20)]))
                    refine Run.go (fun _ k => XS.iload X21.here hx rfl (hb hby at_195) rfl  k) ?_
                    show Run p e below s 4 50 (Q_rm0 Z p1 p2 p3 p4 p5 h0 n0) (T21.setTop (mkF m 197 #[.val (.int p1), .val (.int p2), .val (.int p3), .val (.int p4), .val (.int p5), .val (.int (F_rm1 p1)), .val (.int (F_rm1 p2)), .val (.int (F_rm1 p3)), .val (.int (p5 &&& (3 : Int32))), .val (.ref b_s), .val (.int (((p5.toUInt32 >>> ((2 : Int32) &&& 31).toUInt32).toInt32) &&& (7 : Int32))), .val (.int w20), .unset] [(.int (F_rm1 p3)), (.int w20)]))
                    by_cases hc40 : (w20 = (F_rm1 p3))
                    · refine Run.go (fun _ k => XS.icmpNo X21.here hx rfl (hb hby at_197) rfl (teq hc40).2 k) ?_
                      show Run p e below s 4 50 (Q_rm0 Z p1 p2 p3 p4 p5 h0 n0) (T21.setTop (mkF m 200 #[.val (.int p1), .val (.int p2), .val (.int p3), .val (.int p4), .val (.int p5), .val (.int (F_rm1 p1)), .val (.int (F_rm1 p2)), .val (.int (F_rm1 p3)), .val (.int (p5 &&& (3 : Int32))), .val (.ref b_s), .val (.int (((p5.toUInt32 >>> ((2 : Int32) &&& 31).toUInt32).toInt32) &&& (7 : Int32))), .val (.int w20), .unset] []))
                      refine Run.go (fun _ k => XS.iconst X21.here hx rfl (hb hby at_200) k) ?_
                      show Run p e below s 4 50 (Q_rm0 Z p1 p2 p3 p4 p5 h0 n0) (T21.setTop (mkF m 201 #[.val (.int p1), .val (.int p2), .val (.int p3), .val (.int p4), .val (.int p5), .val (.int (F_rm1 p1)), .val (.int (F_rm1 p2)), .val (.int (F_rm1 p3)), .val (.int (p5 &&& (3 : Int32))), .val (.ref b_s), .val (.int (((p5.toUInt32 >>> ((2 : Int32) &&& 31).toUInt32).toInt32) &&& (7 : Int32))), .val (.int w20), .unset] [(.int (1 : Int32))]))
                      refine Run.go (fun _ k => XS.goto X21.here hx rfl (pc0 := 201) (pc' := 205) rfl (hb hby at_201) (by decide) (by decide) k) ?_
                      show Run p e below s 4 50 (Q_rm0 Z p1 p2 p3 p4 p5 h0 n0) (T21.setTop (mkF m 205 #[.val (.int p1), .val (.int p2), .val (.int p3), .val (.int p4), .val (.int p5), .val (.int (F_rm1 p1)), .val (.int (F_rm1 p2)), .val (.int (F_rm1 p3)), .val (.int (p5 &&& (3 : Int32))), .val (.ref b_s), .val (.int (((p5.toUInt32 >>> ((2 : Int32) &&& 31).toUInt32).toInt32) &&& (7 : Int32))), .val (.int w20), .unset] [(.int (1 : Int32))]))
                      exact J22 _ (if_pos (Or.inr ⟨hc27, (Or.inr (Or.inr ⟨hc35, (Or.inr ⟨hc39, hc40⟩)⟩))⟩)).symm _ _ X21 e21 N21
                    · refine Run.go (fun _ k => XS.icmpYes X21.here hx rfl (pc0 := 197) (pc' := 204) rfl (hb hby at_197) rfl (feq hc40).2 (by decide) (by decide) k) ?_
                      show Run p e below s 4 50 (Q_rm0 Z p1 p2 p3 p4 p5 h0 n0) (T21.setTop (mkF m 204 #[.val (.int p1), .val (.int p2), .val (.int p3), .val (.int p4), .val (.int p5), .val (.int (F_rm1 p1)), .val (.int (F_rm1 p2)), .val (.int (F_rm1 p3)), .val (.int (p5 &&& (3 : Int32))), .val (.ref b_s), .val (.int (((p5.toUInt32 >>> ((2 : Int32) &&& 31).toUInt32).toInt32) &&& (7 : Int32))), .val (.int w20), .unset] []))
                      refine Run.go (fun _ k => XS.iconst X21.here hx rfl (hb hby at_204) k) ?_
                      show Run p e below s 4 50 (Q_rm0 Z p1 p2 p3 p4 p5 h0 n0) (T21.setTop (mkF m 205 #[.val (.int p1), .val (.int p2), .val (.int p3), .val (.int p4), .val (.int p5), .val (.int (F_rm1 p1)), .val (.int (F_rm1 p2)), .val (.int (F_rm1 p3)), .val (.int (p5 &&& (3 : Int32))), .val (.ref b_s), .val (.int (((p5.toUInt32 >>> ((2 : Int32) &&& 31).toUInt32).toInt32) &&& (7 : Int32))), .val (.int w20), .unset] [(.int (0 : Int32))]))
                      exact J22 _ (if_neg (fun q => q.elim (fun q => hc27 q.1) (fun q => (fun q => q.elim hc34 (fun q => q.elim (fun q => hc35 q.1) (fun q => (fun q => q.elim hc38 (fun q => hc40 q.2)) q.2))) q.2))).symm _ _ X21 e21 N21
        by_cases hc41 : ((((p5.toUInt32 >>> ((2 : Int32) &&& 31).toUInt32).toInt32) &&& (7 : Int32)) = (0 : Int32))
        · refine Run.go (fun _ k => XS.ifNo X18.here hx rfl (hb hby at_83) rfl ((if0 _ _).trans (teq hc41).2) k) ?_
          show Run p e below s 4 50 (Q_rm0 Z p1 p2 p3 p4 p5 h0 n0) (T18.setTop (mkF m 86 #[.val (.int p1), .val (.int p2), .val (.int p3), .val (.int p4), .val (.int p5), .val (.int (F_rm1 p1)), .val (.int (F_rm1 p2)), .val (.int (F_rm1 p3)), .val (.int (p5 &&& (3 : Int32))), .val (.ref b_s), .val (.int (((p5.toUInt32 >>> ((2 : Int32) &&& 31).toUInt32).toInt32) &&& (7 : Int32))), .unset, .unset] []))
          refine Run.go (fun _ k => XS.iload X18.here hx rfl (hb hby at_86) rfl  k) ?_
          show Run p e below s 4 50 (Q_rm0 Z p1 p2 p3 p4 p5 h0 n0) (T18.setTop (mkF m 88 #[.val (.int p1), .val (.int p2), .val (.int p3), .val (.int p4), .val (.int p5), .val (.int (F_rm1 p1)), .val (.int (F_rm1 p2)), .val (.int (F_rm1 p3)), .val (.int (p5 &&& (3 : Int32))), .val (.ref b_s), .val (.int (((p5.toUInt32 >>> ((2 : Int32) &&& 31).toUInt32).toInt32) &&& (7 : Int32))), .unset, .unset] [(.int (F_rm1 p1))]))
          refine Run.go (fun _ k => XS.istore X18.here hx rfl (hb hby at_88) rfl (l' := #[.val (.int p1), .val (.int p2), .val (.int p3), .val (.int p4), .val (.int p5), .val (.int (F_rm1 p1)), .val (.int (F_rm1 p2)), .val (.int (F_rm1 p3)), .val (.int (p5 &&& (3 : Int32))), .val (.ref b_s), .val (.int (((p5.toUInt32 >>> ((2 : Int32) &&& 31).toUInt32).toInt32) &&& (7 : Int32))), .val (.int (F_rm1 p1)), .unset]) rfl k) ?_
          show Run p e below s 4 50 (Q_rm0 Z p1 p2 p3 p4 p5 h0 n0) (T18.setTop (mkF m 90 #[.val (.int p1), .val (.int p2), .val (.int p3), .val (.int p4), .val (.int p5), .val (.int (F_rm1 p1)), .val (.int (F_rm1 p2)), .val (.int (F_rm1 p3)), .val (.int (p5 &&& (3 : Int32))), .val (.ref b_s), .val (.int (((p5.toUInt32 >>> ((2 : Int32) &&& 31).toUInt32).toInt32) &&& (7 : Int32))), .val (.int (F_rm1 p1)), .unset] []))
          refine Run.go (fun _ k => XS.goto X18.here hx rfl (pc0 := 90) (pc' := 161) rfl (hb hby at_90) (by decide) (by decide) k) ?_
          show Run p e below s 4 50 (Q_rm0 Z p1 p2 p3 p4 p5 h0 n0) (T18.setTop (mkF m 161 #[.val (.int p1), .val (.int p2), .val (.int p3), .val (.int p4), .val (.int p5), .val (.int (F_rm1 p1)), .val (.int (F_rm1 p2)), .val (.int (F_rm1 p3)), .val (.int (p5 &&& (3 : Int32))), .val (.ref b_s), .val (.int (((p5.toUInt32 >>> ((2 : Int32) &&& 31).toUInt32).toInt32) &&& (7 : Int32))), .val (.int (F_rm1 p1)), .unset] []))
          exact J19 _ (by rw [if_pos hc41]) _ _ X18 e18 N18
        · refine Run.go (fun _ k => XS.ifYes X18.here hx rfl (pc0 := 83) (pc' := 93) rfl (hb hby at_83) rfl ((if0 _ _).trans (feq hc41).2) (by decide) (by decide) k) ?_
          show Run p e below s 4 50 (Q_rm0 Z p1 p2 p3 p4 p5 h0 n0) (T18.setTop (mkF m 93 #[.val (.int p1), .val (.int p2), .val (.int p3), .val (.int p4), .val (.int p5), .val (.int (F_rm1 p1)), .val (.int (F_rm1 p2)), .val (.int (F_rm1 p3)), .val (.int (p5 &&& (3 : Int32))), .val (.ref b_s), .val (.int (((p5.toUInt32 >>> ((2 : Int32) &&& 31).toUInt32).toInt32) &&& (7 : Int32))), .unset, .unset] []))
          refine Run.go (fun _ k => XS.iload X18.here hx rfl (hb hby at_93) rfl  k) ?_
          show Run p e below s 4 50 (Q_rm0 Z p1 p2 p3 p4 p5 h0 n0) (T18.setTop (mkF m 95 #[.val (.int p1), .val (.int p2), .val (.int p3), .val (.int p4), .val (.int p5), .val (.int (F_rm1 p1)), .val (.int (F_rm1 p2)), .val (.int (F_rm1 p3)), .val (.int (p5 &&& (3 : Int32))), .val (.ref b_s), .val (.int (((p5.toUInt32 >>> ((2 : Int32) &&& 31).toUInt32).toInt32) &&& (7 : Int32))), .unset, .unset] [(.int (((p5.toUInt32 >>> ((2 : Int32) &&& 31).toUInt32).toInt32) &&& (7 : Int32)))]))
          refine Run.go (fun _ k => XS.iconst X18.here hx rfl (hb hby at_95) k) ?_
          show Run p e below s 4 50 (Q_rm0 Z p1 p2 p3 p4 p5 h0 n0) (T18.setTop (mkF m 96 #[.val (.int p1), .val (.int p2), .val (.int p3), .val (.int p4), .val (.int p5), .val (.int (F_rm1 p1)), .val (.int (F_rm1 p2)), .val (.int (F_rm1 p3)), .val (.int (p5 &&& (3 : Int32))), .val (.ref b_s), .val (.int (((p5.toUInt32 >>> ((2 : Int32) &&& 31).toUInt32).toInt32) &&& (7 : Int32))), .unset, .unset] [(.int (1 : Int32)), (.int (((p5.toUInt32 >>> ((2 : Int32) &&& 31).toUInt32).toInt32) &&& (7 : Int32)))]))
          by_cases hc42 : ((((p5.toUInt32 >>> ((2 : Int32) &&& 31).toUInt32).toInt32) &&& (7 : Int32)) = (1 : Int32))
          · refine Run.go (fun _ k => XS.icmpNo X18.here hx rfl (hb hby at_96) rfl (teq hc42).2 k) ?_
            show Run p e below s 4 50 (Q_rm0 Z p1 p2 p3 p4 p5 h0 n0) (T18.setTop (mkF m 99 #[.val (.int p1), .val (.int p2), .val (.int p3), .val (.int p4), .val (.int p5), .val (.int (F_rm1 p1)), .val (.int (F_rm1 p2)), .val (.int (F_rm1 p3)), .val (.int (p5 &&& (3 : Int32))), .val (.ref b_s), .val (.int (((p5.toUInt32 >>> ((2 : Int32) &&& 31).toUInt32).toInt32) &&& (7 : Int32))), .unset, .unset] []))
            refine Run.go (fun _ k => XS.iload X18.here hx rfl (hb hby at_99) rfl  k) ?_
            show Run p e below s 4 50 (Q_rm0 Z p1 p2 p3 p4 p5 h0 n0) (T18.setTop (mkF m 101 #[.val (.int p1), .val (.int p2), .val (.int p3), .val (.int p4), .val (.int p5), .val (.int (F_rm1 p1)), .val (.int (F_rm1 p2)), .val (.int (F_rm1 p3)), .val (.int (p5 &&& (3 : Int32))), .val (.ref b_s), .val (.int (((p5.toUInt32 >>> ((2 : Int32) &&& 31).toUInt32).toInt32) &&& (7 : Int32))), .unset, .unset] [(.int (F_rm1 p2))]))
            refine Run.go (fun _ k => XS.istore X18.here hx rfl (hb hby at_101) rfl (l' := #[.val (.int p1), .val (.int p2), .val (.int p3), .val (.int p4), .val (.int p5), .val (.int (F_rm1 p1)), .val (.int (F_rm1 p2)), .val (.int (F_rm1 p3)), .val (.int (p5 &&& (3 : Int32))), .val (.ref b_s), .val (.int (((p5.toUInt32 >>> ((2 : Int32) &&& 31).toUInt32).toInt32) &&& (7 : Int32))), .val (.int (F_rm1 p2)), .unset]) rfl k) ?_
            show Run p e below s 4 50 (Q_rm0 Z p1 p2 p3 p4 p5 h0 n0) (T18.setTop (mkF m 103 #[.val (.int p1), .val (.int p2), .val (.int p3), .val (.int p4), .val (.int p5), .val (.int (F_rm1 p1)), .val (.int (F_rm1 p2)), .val (.int (F_rm1 p3)), .val (.int (p5 &&& (3 : Int32))), .val (.ref b_s), .val (.int (((p5.toUInt32 >>> ((2 : Int32) &&& 31).toUInt32).toInt32) &&& (7 : Int32))), .val (.int (F_rm1 p2)), .unset] []))
            refine Run.go (fun _ k => XS.goto X18.here hx rfl (pc0 := 103) (pc' := 161) rfl (hb hby at_103) (by decide) (by decide) k) ?_
            show Run p e below s 4 50 (Q_rm0 Z p1 p2 p3 p4 p5 h0 n0) (T18.setTop (mkF m 161 #[.val (.int p1), .val (.int p2), .val (.int p3), .val (.int p4), .val (.int p5), .val (.int (F_rm1 p1)), .val (.int (F_rm1 p2)), .val (.int (F_rm1 p3)), .val (.int (p5 &&& (3 : Int32))), .val (.ref b_s), .val (.int (((p5.toUInt32 >>> ((2 : Int32) &&& 31).toUInt32).toInt32) &&& (7 : Int32))), .val (.int (F_rm1 p2)), .unset] []))
            exact J19 _ (by rw [if_neg hc41, if_pos hc42]) _ _ X18 e18 N18
          · refine Run.go (fun _ k => XS.icmpYes X18.here hx rfl (pc0 := 96) (pc' := 106) rfl (hb hby at_96) rfl (feq hc42).2 (by decide) (by decide) k) ?_
            show Run p e below s 4 50 (Q_rm0 Z p1 p2 p3 p4 p5 h0 n0) (T18.setTop (mkF m 106 #[.val (.int p1), .val (.int p2), .val (.int p3), .val (.int p4), .val (.int p5), .val (.int (F_rm1 p1)), .val (.int (F_rm1 p2)), .val (.int (F_rm1 p3)), .val (.int (p5 &&& (3 : Int32))), .val (.ref b_s), .val (.int (((p5.toUInt32 >>> ((2 : Int32) &&& 31).toUInt32).toInt32) &&& (7 : Int32))), .unset, .unset] []))
            refine Run.go (fun _ k => XS.iload X18.here hx rfl (hb hby at_106) rfl  k) ?_
            show Run p e below s 4 50 (Q_rm0 Z p1 p2 p3 p4 p5 h0 n0) (T18.setTop (mkF m 108 #[.val (.int p1), .val (.int p2), .val (.int p3), .val (.int p4), .val (.int p5), .val (.int (F_rm1 p1)), .val (.int (F_rm1 p2)), .val (.int (F_rm1 p3)), .val (.int (p5 &&& (3 : Int32))), .val (.ref b_s), .val (.int (((p5.toUInt32 >>> ((2 : Int32) &&& 31).toUInt32).toInt32) &&& (7 : Int32))), .unset, .unset] [(.int (((p5.toUInt32 >>> ((2 : Int32) &&& 31).toUInt32).toInt32) &&& (7 : Int32)))]))
            refine Run.go (fun _ k => XS.iconst X18.here hx rfl (hb hby at_108) k) ?_
            show Run p e below s 4 50 (Q_rm0 Z p1 p2 p3 p4 p5 h0 n0) (T18.setTop (mkF m 109 #[.val (.int p1), .val (.int p2), .val (.int p3), .val (.int p4), .val (.int p5), .val (.int (F_rm1 p1)), .val (.int (F_rm1 p2)), .val (.int (F_rm1 p3)), .val (.int (p5 &&& (3 : Int32))), .val (.ref b_s), .val (.int (((p5.toUInt32 >>> ((2 : Int32) &&& 31).toUInt32).toInt32) &&& (7 : Int32))), .unset, .unset] [(.int (2 : Int32)), (.int (((p5.toUInt32 >>> ((2 : Int32) &&& 31).toUInt32).toInt32) &&& (7 : Int32)))]))
            by_cases hc43 : ((((p5.toUInt32 >>> ((2 : Int32) &&& 31).toUInt32).toInt32) &&& (7 : Int32)) = (2 : Int32))
            · refine Run.go (fun _ k => XS.icmpNo X18.here hx rfl (hb hby at_109) rfl (teq hc43).2 k) ?_
              show Run p e below s 4 50 (Q_rm0 Z p1 p2 p3 p4 p5 h0 n0) (T18.setTop (mkF m 112 #[.val (.int p1), .val (.int p2), .val (.int p3), .val (.int p4), .val (.int p5), .val (.int (F_rm1 p1)), .val (.int (F_rm1 p2)), .val (.int (F_rm1 p3)), .val (.int (p5 &&& (3 : Int32))), .val (.ref b_s), .val (.int (((p5.toUInt32 >>> ((2 : Int32) &&& 31).toUInt32).toInt32) &&& (7 : Int32))), .unset, .unset] []))
              refine Run.go (fun _ k => XS.iload X18.here hx rfl (hb hby at_112) rfl  k) ?_
              show Run p e below s 4 50 (Q_rm0 Z p1 p2 p3 p4 p5 h0 n0) (T18.setTop (mkF m 114 #[.val (.int p1), .val (.int p2), .val (.int p3), .val (.int p4), .val (.int p5), .val (.int (F_rm1 p1)), .val (.int (F_rm1 p2)), .val (.int (F_rm1 p3)), .val (.int (p5 &&& (3 : Int32))), .val (.ref b_s), .val (.int (((p5.toUInt32 >>> ((2 : Int32) &&& 31).toUInt32).toInt32) &&& (7 : Int32))), .unset, .unset] [(.int (F_rm1 p3))]))
              refine Run.go (fun _ k => XS.istore X18.here hx rfl (hb hby at_114) rfl (l' := #[.val (.int p1), .val (.int p2), .val (.int p3), .val (.int p4), .val (.int p5), .val (.int (F_rm1 p1)), .val (.int (F_rm1 p2)), .val (.int (F_rm1 p3)), .val (.int (p5 &&& (3 : Int32))), .val (.ref b_s), .val (.int (((p5.toUInt32 >>> ((2 : Int32) &&& 31).toUInt32).toInt32) &&& (7 : Int32))), .val (.int (F_rm1 p3)), .unset]) rfl k) ?_
              show Run p e below s 4 50 (Q_rm0 Z p1 p2 p3 p4 p5 h0 n0) (T18.setTop (mkF m 116 #[.val (.int p1), .val (.int p2), .val (.int p3), .val (.int p4), .val (.int p5), .val (.int (F_rm1 p1)), .val (.int (F_rm1 p2)), .val (.int (F_rm1 p3)), .val (.int (p5 &&& (3 : Int32))), .val (.ref b_s), .val (.int (((p5.toUInt32 >>> ((2 : Int32) &&& 31).toUInt32).toInt32) &&& (7 : Int32))), .val (.int (F_rm1 p3)), .unset] []))
              refine Run.go (fun _ k => XS.goto X18.here hx rfl (pc0 := 116) (pc' := 161) rfl (hb hby at_116) (by decide) (by decide) k) ?_
              show Run p e below s 4 50 (Q_rm0 Z p1 p2 p3 p4 p5 h0 n0) (T18.setTop (mkF m 161 #[.val (.int p1), .val (.int p2), .val (.int p3), .val (.int p4), .val (.int p5), .val (.int (F_rm1 p1)), .val (.int (F_rm1 p2)), .val (.int (F_rm1 p3)), .val (.int (p5 &&& (3 : Int32))), .val (.ref b_s), .val (.int (((p5.toUInt32 >>> ((2 : Int32) &&& 31).toUInt32).toInt32) &&& (7 : Int32))), .val (.int (F_rm1 p3)), .unset] []))
              exact J19 _ (by rw [if_neg hc41, if_neg hc42, if_pos hc43]) _ _ X18 e18 N18
            · refine Run.go (fun _ k => XS.icmpYes X18.here hx rfl (pc0 := 109) (pc' := 119) rfl (hb hby at_109) rfl (feq hc43).2 (by decide) (by decide) k) ?_
              show Run p e below s 4 50 (Q_rm0 Z p1 p2 p3 p4 p5 h0 n0) (T18.setTop (mkF m 119 #[.val (.int p1), .val (.int p2), .val (.int p3), .val (.int p4), .val (.int p5), .val (.int (F_rm1 p1)), .val (.int (F_rm1 p2)), .val (.int (F_rm1 p3)), .val (.int (p5 &&& (3 : Int32))), .val (.ref b_s), .val (.int (((p5.toUInt32 >>> ((2 : Int32) &&& 31).toUInt32).toInt32) &&& (7 : Int32))), .unset, .unset] []))
              refine Run.go (fun _ k => XS.iload X18.here hx rfl (hb hby at_119) rfl  k) ?_
              show Run p e below s 4 50 (Q_rm0 Z p1 p2 p3 p4 p5 h0 n0) (T18.setTop (mkF m 121 #[.val (.int p1), .val (.int p2), .val (.int p3), .val (.int p4), .val (.int p5), .val (.int (F_rm1 p1)), .val (.int (F_rm1 p2)), .val (.int (F_rm1 p3)), .val (.int (p5 &&& (3 : Int32))), .val (.ref b_s), .val (.int (((p5.toUInt32 >>> ((2 : Int32) &&& 31).toUInt32).toInt32) &&& (7 : Int32))), .unset, .unset] [(.int (((p5.toUInt32 >>> ((2 : Int32) &&& 31).toUInt32).toInt32) &&& (7 : Int32)))]))
              refine Run.go (fun _ k => XS.iconst X18.here hx rfl (hb hby at_121) k) ?_
              show Run p e below s 4 50 (Q_rm0 Z p1 p2 p3 p4 p5 h0 n0) (T18.setTop (mkF m 122 #[.val (.int p1), .val (.int p2), .val (.int p3), .val (.int p4), .val (.int p5), .val (.int (F_rm1 p1)), .val (.int (F_rm1 p2)), .val (.int (F_rm1 p3)), .val (.int (p5 &&& (3 : Int32))), .val (.ref b_s), .val (.int (((p5.toUInt32 >>> ((2 : Int32) &&& 31).toUInt32).toInt32) &&& (7 : Int32))), .unset, .unset] [(.int (3 : Int32)), (.int (((p5.toUInt32 >>> ((2 : Int32) &&& 31).toUInt32).toInt32) &&& (7 : Int32)))]))
              by_cases hc44 : ((((p5.toUInt32 >>> ((2 : Int32) &&& 31).toUInt32).toInt32) &&& (7 : Int32)) = (3 : Int32))
              · refine Run.go (fun _ k => XS.icmpNo X18.here hx rfl (hb hby at_122) rfl (teq hc44).2 k) ?_
                show Run p e below s 4 50 (Q_rm0 Z p1 p2 p3 p4 p5 h0 n0) (T18.setTop (mkF m 125 #[.val (.int p1), .val (.int p2), .val (.int p3), .val (.int p4), .val (.int p5), .val (.int (F_rm1 p1)), .val (.int (F_rm1 p2)), .val (.int (F_rm1 p3)), .val (.int (p5 &&& (3 : Int32))), .val (.ref b_s), .val (.int (((p5.toUInt32 >>> ((2 : Int32) &&& 31).toUInt32).toInt32) &&& (7 : Int32))), .unset, .unset] []))
                refine Run.go (fun _ k => XS.iload X18.here hx rfl (hb hby at_125) rfl  k) ?_
                show Run p e below s 4 50 (Q_rm0 Z p1 p2 p3 p4 p5 h0 n0) (T18.setTop (mkF m 127 #[.val (.int p1), .val (.int p2), .val (.int p3), .val (.int p4), .val (.int p5), .val (.int (F_rm1 p1)), .val (.int (F_rm1 p2)), .val (.int (F_rm1 p3)), .val (.int (p5 &&& (3 : Int32))), .val (.ref b_s), .val (.int (((p5.toUInt32 >>> ((2 : Int32) &&& 31).toUInt32).toInt32) &&& (7 : Int32))), .unset, .unset] [(.int (F_rm1 p1))]))
                refine Run.go (fun _ k => XS.bipush X18.here hx rfl (hb hby at_127) k) ?_
                show Run p e below s 4 50 (Q_rm0 Z p1 p2 p3 p4 p5 h0 n0) (T18.setTop (mkF m 129 #[.val (.int p1), .val (.int p2), .val (.int p3), .val (.int p4), .val (.int p5), .val (.int (F_rm1 p1)), .val (.int (F_rm1 p2)), .val (.int (F_rm1 p3)), .val (.int (p5 &&& (3 : Int32))), .val (.ref b_s), .val (.int (((p5.toUInt32 >>> ((2 : Int32) &&& 31).toUInt32).toInt32) &&& (7 : Int32))), .unset, .unset] [(.int (64 : Int32)), (.int (F_rm1 p1))]))
                refine Run.go (fun _ k => XS.ixor X18.here hx rfl (hb hby at_129) rfl k) ?_
                show Run p e below s 4 50 (Q_rm0 Z p1 p2 p3 p4 p5 h0 n0) (T18.setTop (mkF m 130 #[.val (.int p1), .val (.int p2), .val (.int p3), .val (.int p4), .val (.int p5), .val (.int (F_rm1 p1)), .val (.int (F_rm1 p2)), .val (.int (F_rm1 p3)), .val (.int (p5 &&& (3 : Int32))), .val (.ref b_s), .val (.int (((p5.toUInt32 >>> ((2 : Int32) &&& 31).toUInt32).toInt32) &&& (7 : Int32))), .unset, .unset] [(.int ((F_rm1 p1) ^^^ (64 : Int32)))]))
                refine Run.go (fun _ k => XS.istore X18.here hx rfl (hb hby at_130) rfl (l' := #[.val (.int p1), .val (.int p2), .val (.int p3), .val (.int p4), .val (.int p5), .val (.int (F_rm1 p1)), .val (.int (F_rm1 p2)), .val (.int (F_rm1 p3)), .val (.int (p5 &&& (3 : Int32))), .val (.ref b_s), .val (.int (((p5.toUInt32 >>> ((2 : Int32) &&& 31).toUInt32).toInt32) &&& (7 : Int32))), .val (.int ((F_rm1 p1) ^^^ (64 : Int32))), .unset]) rfl k) ?_
                show Run p e below s 4 50 (Q_rm0 Z p1 p2 p3 p4 p5 h0 n0) (T18.setTop (mkF m 132 #[.val (.int p1), .val (.int p2), .val (.int p3), .val (.int p4), .val (.int p5), .val (.int (F_rm1 p1)), .val (.int (F_rm1 p2)), .val (.int (F_rm1 p3)), .val (.int (p5 &&& (3 : Int32))), .val (.ref b_s), .val (.int (((p5.toUInt32 >>> ((2 : Int32) &&& 31).toUInt32).toInt32) &&& (7 : Int32))), .val (.int ((F_rm1 p1) ^^^ (64 : Int32))), .unset] []))
                refine Run.go (fun _ k => XS.goto X18.here hx rfl (pc0 := 132) (pc' := 161) rfl (hb hby at_132) (by decide) (by decide) k) ?_
                show Run p e below s 4 50 (Q_rm0 Z p1 p2 p3 p4 p5 h0 n0) (T18.setTop (mkF m 161 #[.val (.int p1), .val (.int p2), .val (.int p3), .val (.int p4), .val (.int p5), .val (.int (F_rm1 p1)), .val (.int (F_rm1 p2)), .val (.int (F_rm1 p3)), .val (.int (p5 &&& (3 : Int32))), .val (.ref b_s), .val (.int (((p5.toUInt32 >>> ((2 : Int32) &&& 31).toUInt32).toInt32) &&& (7 : Int32))), .val (.int ((F_rm1 p1) ^^^ (64 : Int32))), .unset] []))
                exact J19 _ (by rw [if_neg hc41, if_neg hc42, if_neg hc43, if_pos hc44]) _ _ X18 e18 N18
              · refine Run.go (fun _ k => XS.icmpYes X18.here hx rfl (pc0 := 122) (pc' := 135) rfl (hb hby at_122) rfl (feq hc44).2 (by decide) (by decide) k) ?_
                show Run p e below s 4 50 (Q_rm0 Z p1 p2 p3 p4 p5 h0 n0) (T18.setTop (mkF m 135 #[.val (.int p1), .val (.int p2), .val (.int p3), .val (.int p4), .val (.int p5), .val (.int (F_rm1 p1)), .val (.int (F_rm1 p2)), .val (.int (F_rm1 p3)), .val (.int (p5 &&& (3 : Int32))), .val (.ref b_s), .val (.int (((p5.toUInt32 >>> ((2 : Int32) &&& 31).toUInt32).toInt32) &&& (7 : Int32))), .unset, .unset] []))
                refine Run.go (fun _ k => XS.iload X18.here hx rfl (hb hby at_135) rfl  k) ?_
                show Run p e below s 4 50 (Q_rm0 Z p1 p2 p3 p4 p5 h0 n0) (T18.setTop (mkF m 137 #[.val (.int p1), .val (.int p2), .val (.int p3), .val (.int p4), .val (.int p5), .val (.int (F_rm1 p1)), .val (.int (F_rm1 p2)), .val (.int (F_rm1 p3)), .val (.int (p5 &&& (3 : Int32))), .val (.ref b_s), .val (.int (((p5.toUInt32 >>> ((2 : Int32) &&& 31).toUInt32).toInt32) &&& (7 : Int32))), .unset, .unset] [(.int (((p5.toUInt32 >>> ((2 : Int32) &&& 31).toUInt32).toInt32) &&& (7 : Int32)))]))
                refine Run.go (fun _ k => XS.iconst X18.here hx rfl (hb hby at_137) k) ?_
                show Run p e below s 4 50 (Q_rm0 Z p1 p2 p3 p4 p5 h0 n0) (T18.setTop (mkF m 138 #[.val (.int p1), .val (.int p2), .val (.int p3), .val (.int p4), .val (.int p5), .val (.int (F_rm1 p1)), .val (.int (F_rm1 p2)), .val (.int (F_rm1 p3)), .val (.int (p5 &&& (3 : Int32))), .val (.ref b_s), .val (.int (((p5.toUInt32 >>> ((2 : Int32) &&& 31).toUInt32).toInt32) &&& (7 : Int32))), .unset, .unset] [(.int (4 : Int32)), (.int (((p5.toUInt32 >>> ((2 : Int32) &&& 31).toUInt32).toInt32) &&& (7 : Int32)))]))
                by_cases hc45 : ((((p5.toUInt32 >>> ((2 : Int32) &&& 31).toUInt32).toInt32) &&& (7 : Int32)) = (4 : Int32))
                · refine Run.go (fun _ k => XS.icmpNo X18.here hx rfl (hb hby at_138) rfl (teq hc45).2 k) ?_
                  show Run p e below s 4 50 (Q_rm0 Z p1 p2 p3 p4 p5 h0 n0) (T18.setTop (mkF m 141 #[.val (.int p1), .val (.int p2), .val (.int p3), .val (.int p4), .val (.int p5), .val (.int (F_rm1 p1)), .val (.int (F_rm1 p2)), .val (.int (F_rm1 p3)), .val (.int (p5 &&& (3 : Int32))), .val (.ref b_s), .val (.int (((p5.toUInt32 >>> ((2 : Int32) &&& 31).toUInt32).toInt32) &&& (7 : Int32))), .unset, .unset] []))
                  refine Run.go (fun _ k => XS.iload X18.here hx rfl (hb hby at_141) rfl  k) ?_
                  show Run p e below s 4 50 (Q_rm0 Z p1 p2 p3 p4 p5 h0 n0) (T18.setTop (mkF m 143 #[.val (.int p1), .val (.int p2), .val (.int p3), .val (.int p4), .val (.int p5), .val (.int (F_rm1 p1)), .val (.int (F_rm1 p2)), .val (.int (F_rm1 p3)), .val (.int (p5 &&& (3 : Int32))), .val (.ref b_s), .val (.int (((p5.toUInt32 >>> ((2 : Int32) &&& 31).toUInt32).toInt32) &&& (7 : Int32))), .unset, .unset] [(.int (F_rm1 p1))]))
                  refine Run.go (fun _ k => XS.iconst X18.here hx rfl (hb hby at_143) k) ?_
                  show Run p e below s 4 50 (Q_rm0 Z p1 p2 p3 p4 p5 h0 n0) (T18.setTop (mkF m 144 #[.val (.int p1), .val (.int p2), .val (.int p3), .val (.int p4), .val (.int p5), .val (.int (F_rm1 p1)), .val (.int (F_rm1 p2)), .val (.int (F_rm1 p3)), .val (.int (p5 &&& (3 : Int32))), .val (.ref b_s), .val (.int (((p5.toUInt32 >>> ((2 : Int32) &&& 31).toUInt32).toInt32) &&& (7 : Int32))), .unset, .unset] [(.int (1 : Int32)), (.int (F_rm1 p1))]))
                  refine Run.go (fun _ k => XS.iloadN X18.here hx rfl (hb hby at_144) rfl  k) ?_
                  show Run p e below s 4 50 (Q_rm0 Z p1 p2 p3 p4 p5 h0 n0) (T18.setTop (mkF m 145 #[.val (.int p1), .val (.int p2), .val (.int p3), .val (.int p4), .val (.int p5), .val (.int (F_rm1 p1)), .val (.int (F_rm1 p2)), .val (.int (F_rm1 p3)), .val (.int (p5 &&& (3 : Int32))), .val (.ref b_s), .val (.int (((p5.toUInt32 >>> ((2 : Int32) &&& 31).toUInt32).toInt32) &&& (7 : Int32))), .unset, .unset] [(.int p4), (.int (1 : Int32)), (.int (F_rm1 p1))]))
                  refine Run.go (fun _ k => XS.bipush X18.here hx rfl (hb hby at_145) k) ?_
                  show Run p e below s 4 50 (Q_rm0 Z p1 p2 p3 p4 p5 h0 n0) (T18.setTop (mkF m 147 #[.val (.int p1), .val (.int p2), .val (.int p3), .val (.int p4), .val (.int p5), .val (.int (F_rm1 p1)), .val (.int (F_rm1 p2)), .val (.int (F_rm1 p3)), .val (.int (p5 &&& (3 : Int32))), .val (.ref b_s), .val (.int (((p5.toUInt32 >>> ((2 : Int32) &&& 31).toUInt32).toInt32) &&& (7 : Int32))), .unset, .unset] [(.int (15 : Int32)), (.int p4), (.int (1 : Int32)), (.int (F_rm1 p1))]))
                  refine Run.go (fun _ k => XS.iand X18.here hx rfl (hb hby at_147) rfl k) ?_
                  show Run p e below s 4 50 (Q_rm0 Z p1 p2 p3 p4 p5 h0 n0) (T18.setTop (mkF m 148 #[.val (.int p1), .val (.int p2), .val (.int p3), .val (.int p4), .val (.int p5), .val (.int (F_rm1 p1)), .val (.int (F_rm1 p2)), .val (.int (F_rm1 p3)), .val (.int (p5 &&& (3 : Int32))), .val (.ref b_s), .val (.int (((p5.toUInt32 >>> ((2 : Int32) &&& 31).toUInt32).toInt32) &&& (7 : Int32))), .unset, .unset] [(.int (p4 &&& (15 : Int32))), (.int (1 : Int32)), (.int (F_rm1 p1))]))
                  refine Run.go (fun _ k => XS.ishl X18.here hx rfl (hb hby at_148) rfl k) ?_
                  show Run p e below s 4 50 (Q_rm0 Z p1 p2 p3 p4 p5 h0 n0) (T18.setTop (mkF m 149 #[.val (.int p1), .val (.int p2), .val (.int p3), .val (.int p4), .val (.int p5), .val (.int (F_rm1 p1)), .val (.int (F_rm1 p2)), .val (.int (F_rm1 p3)), .val (.int (p5 &&& (3 : Int32))), .val (.ref b_s), .val (.int (((p5.toUInt32 >>> ((2 : Int32) &&& 31).toUInt32).toInt32) &&& (7 : Int32))), .unset, .unset] [(.int ((1 : Int32) <<< ((p4 &&& (15 : Int32)) &&& 31))), (.int (F_rm1 p1))]))
                  refine Run.go (fun _ k => XS.ixor X18.here hx rfl (hb hby at_149) rfl k) ?_
                  show Run p e below s 4 50 (Q_rm0 Z p1 p2 p3 p4 p5 h0 n0) (T18.setTop (mkF m 150 #[.val (.int p1), .val (.int p2), .val (.int p3), .val (.int p4), .val (.int p5), .val (.int (F_rm1 p1)), .val (.int (F_rm1 p2)), .val (.int (F_rm1 p3)), .val (.int (p5 &&& (3 : Int32))), .val (.ref b_s), .val (.int (((p5.toUInt32 >>> ((2 : Int32) &&& 31).toUInt32).toInt32) &&& (7 : Int32))), .unset, .unset] [(.int ((F_rm1 p1) ^^^ ((1 : Int32) <<< ((p4 &&& (15 : Int32)) &&& 31))))]))
                  refine Run.go (fun _ k => XS.istore X18.here hx rfl (hb hby at_150) rfl (l' := #[.val (.int p1), .val (.int p2), .val (.int p3), .val (.int p4), .val (.int p5), .val (.int (F_rm1 p1)), .val (.int (F_rm1 p2)), .val (.int (F_rm1 p3)), .val (.int (p5 &&& (3 : Int32))), .val (.ref b_s), .val (.int (((p5.toUInt32 >>> ((2 : Int32) &&& 31).toUInt32).toInt32) &&& (7 : Int32))), .val (.int ((F_rm1 p1) ^^^ ((1 : Int32) <<< ((p4 &&& (15 : Int32)) &&& 31)))), .unset]) rfl k) ?_
                  show Run p e below s 4 50 (Q_rm0 Z p1 p2 p3 p4 p5 h0 n0) (T18.setTop (mkF m 152 #[.val (.int p1), .val (.int p2), .val (.int p3), .val (.int p4), .val (.int p5), .val (.int (F_rm1 p1)), .val (.int (F_rm1 p2)), .val (.int (F_rm1 p3)), .val (.int (p5 &&& (3 : Int32))), .val (.ref b_s), .val (.int (((p5.toUInt32 >>> ((2 : Int32) &&& 31).toUInt32).toInt32) &&& (7 : Int32))), .val (.int ((F_rm1 p1) ^^^ ((1 : Int32) <<< ((p4 &&& (15 : Int32)) &&& 31)))), .unset] []))
                  refine Run.go (fun _ k => XS.goto X18.here hx rfl (pc0 := 152) (pc' := 161) rfl (hb hby at_152) (by decide) (by decide) k) ?_
                  show Run p e below s 4 50 (Q_rm0 Z p1 p2 p3 p4 p5 h0 n0) (T18.setTop (mkF m 161 #[.val (.int p1), .val (.int p2), .val (.int p3), .val (.int p4), .val (.int p5), .val (.int (F_rm1 p1)), .val (.int (F_rm1 p2)), .val (.int (F_rm1 p3)), .val (.int (p5 &&& (3 : Int32))), .val (.ref b_s), .val (.int (((p5.toUInt32 >>> ((2 : Int32) &&& 31).toUInt32).toInt32) &&& (7 : Int32))), .val (.int ((F_rm1 p1) ^^^ ((1 : Int32) <<< ((p4 &&& (15 : Int32)) &&& 31)))), .unset] []))
                  exact J19 _ (by rw [if_neg hc41, if_neg hc42, if_neg hc43, if_neg hc44, if_pos hc45]) _ _ X18 e18 N18
                · refine Run.go (fun _ k => XS.icmpYes X18.here hx rfl (pc0 := 138) (pc' := 155) rfl (hb hby at_138) rfl (feq hc45).2 (by decide) (by decide) k) ?_
                  show Run p e below s 4 50 (Q_rm0 Z p1 p2 p3 p4 p5 h0 n0) (T18.setTop (mkF m 155 #[.val (.int p1), .val (.int p2), .val (.int p3), .val (.int p4), .val (.int p5), .val (.int (F_rm1 p1)), .val (.int (F_rm1 p2)), .val (.int (F_rm1 p3)), .val (.int (p5 &&& (3 : Int32))), .val (.ref b_s), .val (.int (((p5.toUInt32 >>> ((2 : Int32) &&& 31).toUInt32).toInt32) &&& (7 : Int32))), .unset, .unset] []))
                  refine Run.go (fun _ k => XS.iloadN X18.here hx rfl (hb hby at_155) rfl  k) ?_
                  show Run p e below s 4 50 (Q_rm0 Z p1 p2 p3 p4 p5 h0 n0) (T18.setTop (mkF m 156 #[.val (.int p1), .val (.int p2), .val (.int p3), .val (.int p4), .val (.int p5), .val (.int (F_rm1 p1)), .val (.int (F_rm1 p2)), .val (.int (F_rm1 p3)), .val (.int (p5 &&& (3 : Int32))), .val (.ref b_s), .val (.int (((p5.toUInt32 >>> ((2 : Int32) &&& 31).toUInt32).toInt32) &&& (7 : Int32))), .unset, .unset] [(.int p4)]))
                  refine Run.go (fun _ k => X18.ldcInt hx hown (mvT hZ (hw _ (List.mem_of_getElem? (i := 40) rfl))) (g := (mkF m 156 #[.val (.int p1), .val (.int p2), .val (.int p3), .val (.int p4), .val (.int p5), .val (.int (F_rm1 p1)), .val (.int (F_rm1 p2)), .val (.int (F_rm1 p3)), .val (.int (p5 &&& (3 : Int32))), .val (.ref b_s), .val (.int (((p5.toUInt32 >>> ((2 : Int32) &&& 31).toUInt32).toInt32) &&& (7 : Int32))), .unset, .unset] [(.int p4)])) rfl (hb hby at_156) _ k) ?_
                  show Run p e below s 4 50 (Q_rm0 Z p1 p2 p3 p4 p5 h0 n0) (T18.setTop (mkF m 158 #[.val (.int p1), .val (.int p2), .val (.int p3), .val (.int p4), .val (.int p5), .val (.int (F_rm1 p1)), .val (.int (F_rm1 p2)), .val (.int (F_rm1 p3)), .val (.int (p5 &&& (3 : Int32))), .val (.ref b_s), .val (.int (((p5.toUInt32 >>> ((2 : Int32) &&& 31).toUInt32).toInt32) &&& (7 : Int32))), .unset, .unset] [(.int (2147483647 : Int32)), (.int p4)]))
                  refine Run.go (fun _ k => XS.iand X18.here hx rfl (hb hby at_158) rfl k) ?_
                  show Run p e below s 4 50 (Q_rm0 Z p1 p2 p3 p4 p5 h0 n0) (T18.setTop (mkF m 159 #[.val (.int p1), .val (.int p2), .val (.int p3), .val (.int p4), .val (.int p5), .val (.int (F_rm1 p1)), .val (.int (F_rm1 p2)), .val (.int (F_rm1 p3)), .val (.int (p5 &&& (3 : Int32))), .val (.ref b_s), .val (.int (((p5.toUInt32 >>> ((2 : Int32) &&& 31).toUInt32).toInt32) &&& (7 : Int32))), .unset, .unset] [(.int (p4 &&& (2147483647 : Int32)))]))
                  refine Run.go (fun _ k => XS.istore X18.here hx rfl (hb hby at_159) rfl (l' := #[.val (.int p1), .val (.int p2), .val (.int p3), .val (.int p4), .val (.int p5), .val (.int (F_rm1 p1)), .val (.int (F_rm1 p2)), .val (.int (F_rm1 p3)), .val (.int (p5 &&& (3 : Int32))), .val (.ref b_s), .val (.int (((p5.toUInt32 >>> ((2 : Int32) &&& 31).toUInt32).toInt32) &&& (7 : Int32))), .val (.int (p4 &&& (2147483647 : Int32))), .unset]) rfl k) ?_
                  show Run p e below s 4 50 (Q_rm0 Z p1 p2 p3 p4 p5 h0 n0) (T18.setTop (mkF m 161 #[.val (.int p1), .val (.int p2), .val (.int p3), .val (.int p4), .val (.int p5), .val (.int (F_rm1 p1)), .val (.int (F_rm1 p2)), .val (.int (F_rm1 p3)), .val (.int (p5 &&& (3 : Int32))), .val (.ref b_s), .val (.int (((p5.toUInt32 >>> ((2 : Int32) &&& 31).toUInt32).toInt32) &&& (7 : Int32))), .val (.int (p4 &&& (2147483647 : Int32))), .unset] []))
                  exact J19 _ (by rw [if_neg hc41, if_neg hc42, if_neg hc43, if_neg hc44, if_neg hc45]) _ _ X18 e18 N18
      refine Run.go (fun _ k => XS.iload X16.here hx rfl (hb hby at_59) rfl  k) ?_
      show Run p e below s 4 50 (Q_rm0 Z p1 p2 p3 p4 p5 h0 n0) (T16.setTop (mkF m 61 #[.val (.int p1), .val (.int p2), .val (.int p3), .val (.int p4), .val (.int p5), .val (.int (F_rm1 p1)), .val (.int (F_rm1 p2)), .val (.int (F_rm1 p3)), .val (.int (p5 &&& (3 : Int32))), .val (.ref b_s), .unset, .unset, .unset] [(.int (p5 &&& (3 : Int32)))]))
      refine Run.go (fun _ k => XS.iconst X16.here hx rfl (hb hby at_61) k) ?_
      show Run p e below s 4 50 (Q_rm0 Z p1 p2 p3 p4 p5 h0 n0) (T16.setTop (mkF m 62 #[.val (.int p1), .val (.int p2), .val (.int p3), .val (.int p4), .val (.int p5), .val (.int (F_rm1 p1)), .val (.int (F_rm1 p2)), .val (.int (F_rm1 p3)), .val (.int (p5 &&& (3 : Int32))), .val (.ref b_s), .unset, .unset, .unset] [(.int (3 : Int32)), (.int (p5 &&& (3 : Int32)))]))
      by_cases hc46 : ((p5 &&& (3 : Int32)) < (3 : Int32))
      · refine Run.go (fun _ k => XS.icmpYes X16.here hx rfl (pc0 := 62) (pc' := 72) rfl (hb hby at_62) rfl (tlt hc46).1 (by decide) (by decide) k) ?_
        show Run p e below s 4 50 (Q_rm0 Z p1 p2 p3 p4 p5 h0 n0) (T16.setTop (mkF m 72 #[.val (.int p1), .val (.int p2), .val (.int p3), .val (.int p4), .val (.int p5), .val (.int (F_rm1 p1)), .val (.int (F_rm1 p2)), .val (.int (F_rm1 p3)), .val (.int (p5 &&& (3 : Int32))), .val (.ref b_s), .unset, .unset, .unset] []))
        exact HJ17 S2 hh16 _ _ (X16.more (by decide) (by decide)) e16 N16 Z16 fk16_0 fk16_1 (fun x => by simp [hc46])
      · refine Run.go (fun _ k => XS.icmpNo X16.here hx rfl (hb hby at_62) rfl (flt hc46).1 k) ?_
        show Run p e below s 4 50 (Q_rm0 Z p1 p2 p3 p4 p5 h0 n0) (T16.setTop (mkF m 65 #[.val (.int p1), .val (.int p2), .val (.int p3), .val (.int p4), .val (.int p5), .val (.int (F_rm1 p1)), .val (.int (F_rm1 p2)), .val (.int (F_rm1 p3)), .val (.int (p5 &&& (3 : Int32))), .val (.ref b_s), .unset, .unset, .unset] []))
        refine Run.go (fun _ k => XS.aload X16.here hx rfl (hb hby at_65) rfl rfl k) ?_
        show Run p e below s 4 50 (Q_rm0 Z p1 p2 p3 p4 p5 h0 n0) (T16.setTop (mkF m 67 #[.val (.int p1), .val (.int p2), .val (.int p3), .val (.int p4), .val (.int p5), .val (.int (F_rm1 p1)), .val (.int (F_rm1 p2)), .val (.int (F_rm1 p3)), .val (.int (p5 &&& (3 : Int32))), .val (.ref b_s), .unset, .unset, .unset] [(.ref b_s)]))
        refine Run.go (fun _ k => XS.iload X16.here hx rfl (hb hby at_67) rfl  k) ?_
        show Run p e below s 4 50 (Q_rm0 Z p1 p2 p3 p4 p5 h0 n0) (T16.setTop (mkF m 69 #[.val (.int p1), .val (.int p2), .val (.int p3), .val (.int p4), .val (.int p5), .val (.int (F_rm1 p1)), .val (.int (F_rm1 p2)), .val (.int (F_rm1 p3)), .val (.int (p5 &&& (3 : Int32))), .val (.ref b_s), .unset, .unset, .unset] [(.int (F_rm1 p3)), (.ref b_s)]))
        obtain ⟨cq47, kq47, q47a, q47b, q47c⟩ := isOf hZ e16 fk16_1
        obtain ⟨_, _, ⟨T47, L47, k47, n47⟩, -, X47, ⟨Lc47, hQ47, l47, y47, z47⟩, st47⟩ := X16.virtualBack hx (y := (⟨"murmuration/Sources", "add", "(I)V"⟩ : MethodName)) (z := (⟨"murmuration/Sources", "add", "(I)V"⟩ : MethodName)) hown (mvT hZ (hw _ (List.mem_of_getElem? (i := 20) rfl))) (mvT hZ (hw _ (List.mem_of_getElem? (i := 21) rfl))) (notFace_of_selects (args := #[]) (mvT hZ (hw _ (List.mem_of_getElem? (i := 23) rfl)))) (mvT hZ (hw _ (List.mem_of_getElem? (i := 23) rfl))) (mvT hZ (hw _ (List.mem_of_getElem? (i := 22) rfl))) (by decide) (backOf (W := 0) (rm5 l Z a0 hw [] b_s (F_rm1 p3) S2 hh16 n0 Z16 fk16_0 (own_pk p3).1 (own_pk p3).2) hZ (hw _ (List.mem_of_getElem? (i := 24) rfl)) (hw _ (List.mem_of_getElem? (i := 6) rfl)) (by decide) (by decide)) q47a q47c (g := (mkF m 69 #[.val (.int p1), .val (.int p2), .val (.int p3), .val (.int p4), .val (.int p5), .val (.int (F_rm1 p1)), .val (.int (F_rm1 p2)), .val (.int (F_rm1 p3)), .val (.int (p5 &&& (3 : Int32))), .val (.ref b_s), .unset, .unset, .unset] [(.int (F_rm1 p3)), (.ref b_s)])) rfl (by rw [hml]; rfl) (Steps.refl _) (argsL := [(.int (F_rm1 p3))]) (rest := []) (lenOf pd_5 rfl) rfl (by show 2 * 0 + _ ≤ _; exact Nat.le_of_eq rfl) (hb hby at_69) (fun _ _ => ⟨rfl, e16, (by decide : 3 + 1 ≤ _), (by decide : 34 + 16 ≤ _)⟩)
        dsimp only [Pt.U, Pt.locs, Pt.cells, Pt.slots] at X47 l47 y47 z47 st47 hQ47
        subst l47 y47 z47
        obtain ⟨rfl, N47q, K47q, fq47_0, fq47_1⟩ := hQ47
        have N47 := Fr.app N16 N47q
        have Z47 : n0 ≤ T47.heap.size := Nat.le_trans Z16 K47q.1
        obtain ⟨Lg47, Xg47, Ng47⟩ := Stand_gen X47 N47
        refine Run.tr st47 ?_
        show Run p e below s 4 50 (Q_rm0 Z p1 p2 p3 p4 p5 h0 n0) (T47.setTop (mkF m 72 #[.val (.int p1), .val (.int p2), .val (.int p3), .val (.int p4), .val (.int p5), .val (.int (F_rm1 p1)), .val (.int (F_rm1 p2)), .val (.int (F_rm1 p3)), .val (.int (p5 &&& (3 : Int32))), .val (.ref b_s), .unset, .unset, .unset] []))
        exact HJ17 (fun x => x = (F_rm1 p3).toNatClampNeg ∨ S2 x) T47.heap _ _ Xg47 rfl Ng47 Z47 fq47_1 fq47_0 (fun x => by simp [hc46])
    refine Run.go (fun _ k => XS.iload X14.here hx rfl (hb hby at_46) rfl  k) ?_
    show Run p e below s 4 50 (Q_rm0 Z p1 p2 p3 p4 p5 h0 n0) (T14.setTop (mkF m 48 #[.val (.int p1), .val (.int p2), .val (.int p3), .val (.int p4), .val (.int p5), .val (.int (F_rm1 p1)), .val (.int (F_rm1 p2)), .val (.int (F_rm1 p3)), .val (.int (p5 &&& (3 : Int32))), .val (.ref b_s), .unset, .unset, .unset] [(.int (p5 &&& (3 : Int32)))]))
    refine Run.go (fun _ k => XS.iconst X14.here hx rfl (hb hby at_48) k) ?_
    show Run p e below s 4 50 (Q_rm0 Z p1 p2 p3 p4 p5 h0 n0) (T14.setTop (mkF m 49 #[.val (.int p1), .val (.int p2), .val (.int p3), .val (.int p4), .val (.int p5), .val (.int (F_rm1 p1)), .val (.int (F_rm1 p2)), .val (.int (F_rm1 p3)), .val (.int (p5 &&& (3 : Int32))), .val (.ref b_s), .unset, .unset, .unset] [(.int (2 : Int32)), (.int (p5 &&& (3 : Int32)))]))
    by_cases hc48 : ((p5 &&& (3 : Int32)) < (2 : Int32))
    · refine Run.go (fun _ k => XS.icmpYes X14.here hx rfl (pc0 := 49) (pc' := 59) rfl (hb hby at_49) rfl (tlt hc48).1 (by decide) (by decide) k) ?_
      show Run p e below s 4 50 (Q_rm0 Z p1 p2 p3 p4 p5 h0 n0) (T14.setTop (mkF m 59 #[.val (.int p1), .val (.int p2), .val (.int p3), .val (.int p4), .val (.int p5), .val (.int (F_rm1 p1)), .val (.int (F_rm1 p2)), .val (.int (F_rm1 p3)), .val (.int (p5 &&& (3 : Int32))), .val (.ref b_s), .unset, .unset, .unset] []))
      exact HJ15 S1 hh14 _ _ (X14.more (by decide) (by decide)) e14 N14 Z14 fk14_0 fk14_1 (fun x => by simp [hc48])
    · refine Run.go (fun _ k => XS.icmpNo X14.here hx rfl (hb hby at_49) rfl (flt hc48).1 k) ?_
      show Run p e below s 4 50 (Q_rm0 Z p1 p2 p3 p4 p5 h0 n0) (T14.setTop (mkF m 52 #[.val (.int p1), .val (.int p2), .val (.int p3), .val (.int p4), .val (.int p5), .val (.int (F_rm1 p1)), .val (.int (F_rm1 p2)), .val (.int (F_rm1 p3)), .val (.int (p5 &&& (3 : Int32))), .val (.ref b_s), .unset, .unset, .unset] []))
      refine Run.go (fun _ k => XS.aload X14.here hx rfl (hb hby at_52) rfl rfl k) ?_
      show Run p e below s 4 50 (Q_rm0 Z p1 p2 p3 p4 p5 h0 n0) (T14.setTop (mkF m 54 #[.val (.int p1), .val (.int p2), .val (.int p3), .val (.int p4), .val (.int p5), .val (.int (F_rm1 p1)), .val (.int (F_rm1 p2)), .val (.int (F_rm1 p3)), .val (.int (p5 &&& (3 : Int32))), .val (.ref b_s), .unset, .unset, .unset] [(.ref b_s)]))
      refine Run.go (fun _ k => XS.iload X14.here hx rfl (hb hby at_54) rfl  k) ?_
      show Run p e below s 4 50 (Q_rm0 Z p1 p2 p3 p4 p5 h0 n0) (T14.setTop (mkF m 56 #[.val (.int p1), .val (.int p2), .val (.int p3), .val (.int p4), .val (.int p5), .val (.int (F_rm1 p1)), .val (.int (F_rm1 p2)), .val (.int (F_rm1 p3)), .val (.int (p5 &&& (3 : Int32))), .val (.ref b_s), .unset, .unset, .unset] [(.int (F_rm1 p2)), (.ref b_s)]))
      obtain ⟨cq49, kq49, q49a, q49b, q49c⟩ := isOf hZ e14 fk14_1
      obtain ⟨_, _, ⟨T49, L49, k49, n49⟩, -, X49, ⟨Lc49, hQ49, l49, y49, z49⟩, st49⟩ := X14.virtualBack hx (y := (⟨"murmuration/Sources", "add", "(I)V"⟩ : MethodName)) (z := (⟨"murmuration/Sources", "add", "(I)V"⟩ : MethodName)) hown (mvT hZ (hw _ (List.mem_of_getElem? (i := 20) rfl))) (mvT hZ (hw _ (List.mem_of_getElem? (i := 21) rfl))) (notFace_of_selects (args := #[]) (mvT hZ (hw _ (List.mem_of_getElem? (i := 23) rfl)))) (mvT hZ (hw _ (List.mem_of_getElem? (i := 23) rfl))) (mvT hZ (hw _ (List.mem_of_getElem? (i := 22) rfl))) (by decide) (backOf (W := 0) (rm5 l Z a0 hw [] b_s (F_rm1 p2) S1 hh14 n0 Z14 fk14_0 (own_pk p2).1 (own_pk p2).2) hZ (hw _ (List.mem_of_getElem? (i := 24) rfl)) (hw _ (List.mem_of_getElem? (i := 6) rfl)) (by decide) (by decide)) q49a q49c (g := (mkF m 56 #[.val (.int p1), .val (.int p2), .val (.int p3), .val (.int p4), .val (.int p5), .val (.int (F_rm1 p1)), .val (.int (F_rm1 p2)), .val (.int (F_rm1 p3)), .val (.int (p5 &&& (3 : Int32))), .val (.ref b_s), .unset, .unset, .unset] [(.int (F_rm1 p2)), (.ref b_s)])) rfl (by rw [hml]; rfl) (Steps.refl _) (argsL := [(.int (F_rm1 p2))]) (rest := []) (lenOf pd_5 rfl) rfl (by show 2 * 0 + _ ≤ _; exact Nat.le_of_eq rfl) (hb hby at_56) (fun _ _ => ⟨rfl, e14, (by decide : 2 + 1 ≤ _), (by decide : 18 + 16 ≤ _)⟩)
      dsimp only [Pt.U, Pt.locs, Pt.cells, Pt.slots] at X49 l49 y49 z49 st49 hQ49
      subst l49 y49 z49
      obtain ⟨rfl, N49q, K49q, fq49_0, fq49_1⟩ := hQ49
      have N49 := Fr.app N14 N49q
      have Z49 : n0 ≤ T49.heap.size := Nat.le_trans Z14 K49q.1
      obtain ⟨Lg49, Xg49, Ng49⟩ := Stand_gen X49 N49
      refine Run.tr st49 ?_
      show Run p e below s 4 50 (Q_rm0 Z p1 p2 p3 p4 p5 h0 n0) (T49.setTop (mkF m 59 #[.val (.int p1), .val (.int p2), .val (.int p3), .val (.int p4), .val (.int p5), .val (.int (F_rm1 p1)), .val (.int (F_rm1 p2)), .val (.int (F_rm1 p3)), .val (.int (p5 &&& (3 : Int32))), .val (.ref b_s), .unset, .unset, .unset] []))
      exact HJ15 (fun x => x = (F_rm1 p2).toNatClampNeg ∨ S1 x) T49.heap _ _ Xg49 rfl Ng49 Z49 fq49_1 fq49_0 (fun x => by simp [hc48])
  refine Run.go (fun _ k => XS.iload Xg12.here hx rfl (hb hby at_33) rfl  k) ?_
  show Run p e below s 4 50 (Q_rm0 Z p1 p2 p3 p4 p5 h0 n0) (T12.setTop (mkF m 35 #[.val (.int p1), .val (.int p2), .val (.int p3), .val (.int p4), .val (.int p5), .val (.int (F_rm1 p1)), .val (.int (F_rm1 p2)), .val (.int (F_rm1 p3)), .val (.int (p5 &&& (3 : Int32))), .val (.ref b_s), .unset, .unset, .unset] [(.int (p5 &&& (3 : Int32)))]))
  refine Run.go (fun _ k => XS.iconst Xg12.here hx rfl (hb hby at_35) k) ?_
  show Run p e below s 4 50 (Q_rm0 Z p1 p2 p3 p4 p5 h0 n0) (T12.setTop (mkF m 36 #[.val (.int p1), .val (.int p2), .val (.int p3), .val (.int p4), .val (.int p5), .val (.int (F_rm1 p1)), .val (.int (F_rm1 p2)), .val (.int (F_rm1 p3)), .val (.int (p5 &&& (3 : Int32))), .val (.ref b_s), .unset, .unset, .unset] [(.int (1 : Int32)), (.int (p5 &&& (3 : Int32)))]))
  by_cases hc50 : ((p5 &&& (3 : Int32)) < (1 : Int32))
  · refine Run.go (fun _ k => XS.icmpYes Xg12.here hx rfl (pc0 := 36) (pc' := 46) rfl (hb hby at_36) rfl (tlt hc50).1 (by decide) (by decide) k) ?_
    show Run p e below s 4 50 (Q_rm0 Z p1 p2 p3 p4 p5 h0 n0) (T12.setTop (mkF m 46 #[.val (.int p1), .val (.int p2), .val (.int p3), .val (.int p4), .val (.int p5), .val (.int (F_rm1 p1)), .val (.int (F_rm1 p2)), .val (.int (F_rm1 p3)), .val (.int (p5 &&& (3 : Int32))), .val (.ref b_s), .unset, .unset, .unset] []))
    exact HJ13 (fun _ => False) h9 _ _ (Xg12.more (by decide) (by decide)) e12q Ng12 Z9 src0 A9 (fun x => by simp [hc50])
  · refine Run.go (fun _ k => XS.icmpNo Xg12.here hx rfl (hb hby at_36) rfl (flt hc50).1 k) ?_
    show Run p e below s 4 50 (Q_rm0 Z p1 p2 p3 p4 p5 h0 n0) (T12.setTop (mkF m 39 #[.val (.int p1), .val (.int p2), .val (.int p3), .val (.int p4), .val (.int p5), .val (.int (F_rm1 p1)), .val (.int (F_rm1 p2)), .val (.int (F_rm1 p3)), .val (.int (p5 &&& (3 : Int32))), .val (.ref b_s), .unset, .unset, .unset] []))
    refine Run.go (fun _ k => XS.aload Xg12.here hx rfl (hb hby at_39) rfl rfl k) ?_
    show Run p e below s 4 50 (Q_rm0 Z p1 p2 p3 p4 p5 h0 n0) (T12.setTop (mkF m 41 #[.val (.int p1), .val (.int p2), .val (.int p3), .val (.int p4), .val (.int p5), .val (.int (F_rm1 p1)), .val (.int (F_rm1 p2)), .val (.int (F_rm1 p3)), .val (.int (p5 &&& (3 : Int32))), .val (.ref b_s), .unset, .unset, .unset] [(.ref b_s)]))
    refine Run.go (fun _ k => XS.iload Xg12.here hx rfl (hb hby at_41) rfl  k) ?_
    show Run p e below s 4 50 (Q_rm0 Z p1 p2 p3 p4 p5 h0 n0) (T12.setTop (mkF m 43 #[.val (.int p1), .val (.int p2), .val (.int p3), .val (.int p4), .val (.int p5), .val (.int (F_rm1 p1)), .val (.int (F_rm1 p2)), .val (.int (F_rm1 p3)), .val (.int (p5 &&& (3 : Int32))), .val (.ref b_s), .unset, .unset, .unset] [(.int (F_rm1 p1)), (.ref b_s)]))
    obtain ⟨cq51, kq51, q51a, q51b, q51c⟩ := isOf hZ e12q A9
    obtain ⟨_, _, ⟨T51, L51, k51, n51⟩, -, X51, ⟨Lc51, hQ51, l51, y51, z51⟩, st51⟩ := Xg12.virtualBack hx (y := (⟨"murmuration/Sources", "add", "(I)V"⟩ : MethodName)) (z := (⟨"murmuration/Sources", "add", "(I)V"⟩ : MethodName)) hown (mvT hZ (hw _ (List.mem_of_getElem? (i := 20) rfl))) (mvT hZ (hw _ (List.mem_of_getElem? (i := 21) rfl))) (notFace_of_selects (args := #[]) (mvT hZ (hw _ (List.mem_of_getElem? (i := 23) rfl)))) (mvT hZ (hw _ (List.mem_of_getElem? (i := 23) rfl))) (mvT hZ (hw _ (List.mem_of_getElem? (i := 22) rfl))) (by decide) (backOf (W := 0) (rm5 l Z a0 hw [] b_s (F_rm1 p1) (fun _ => False) h9 n0 Z9 src0 (own_pk p1).1 (own_pk p1).2) hZ (hw _ (List.mem_of_getElem? (i := 24) rfl)) (hw _ (List.mem_of_getElem? (i := 6) rfl)) (by decide) (by decide)) q51a q51c (g := (mkF m 43 #[.val (.int p1), .val (.int p2), .val (.int p3), .val (.int p4), .val (.int p5), .val (.int (F_rm1 p1)), .val (.int (F_rm1 p2)), .val (.int (F_rm1 p3)), .val (.int (p5 &&& (3 : Int32))), .val (.ref b_s), .unset, .unset, .unset] [(.int (F_rm1 p1)), (.ref b_s)])) rfl (by rw [hml]; rfl) (Steps.refl _) (argsL := [(.int (F_rm1 p1))]) (rest := []) (lenOf pd_5 rfl) rfl (by show 2 * 0 + _ ≤ _; exact Nat.le_of_eq rfl) (hb hby at_43) (fun _ _ => ⟨rfl, e12q, (by decide : 1 + 1 ≤ _), (by decide : 2 + 16 ≤ _)⟩)
    dsimp only [Pt.U, Pt.locs, Pt.cells, Pt.slots] at X51 l51 y51 z51 st51 hQ51
    subst l51 y51 z51
    obtain ⟨rfl, N51q, K51q, fq51_0, fq51_1⟩ := hQ51
    have N51 := Fr.app Ng12 N51q
    have Z51 : n0 ≤ T51.heap.size := Nat.le_trans Z9 K51q.1
    obtain ⟨Lg51, Xg51, Ng51⟩ := Stand_gen X51 N51
    refine Run.tr st51 ?_
    show Run p e below s 4 50 (Q_rm0 Z p1 p2 p3 p4 p5 h0 n0) (T51.setTop (mkF m 46 #[.val (.int p1), .val (.int p2), .val (.int p3), .val (.int p4), .val (.int p5), .val (.int (F_rm1 p1)), .val (.int (F_rm1 p2)), .val (.int (F_rm1 p3)), .val (.int (p5 &&& (3 : Int32))), .val (.ref b_s), .unset, .unset, .unset] []))
    exact HJ13 (fun x => x = (F_rm1 p1).toNatClampNeg ∨ (fun _ => False) x) T51.heap _ _ Xg51 rfl Ng51 Z51 fq51_1 fq51_0 (fun x => by simp [hc50])
set_option maxRecDepth 65536 in
set_option maxHeartbeats 40000000 in
theorem comes_1 {Post : Tables → Env → Array Value → State → Outcome → State → Prop} (hpost : ∀ tb e args s v u, (limb_1_1.after args s (.returned v) u = true ∧ limb_1_2.after args s (.returned v) u = true ∧ True) → FrameEnd s (.returned v) u (Jvm.fieldLocs frame_1_writes args s ++ Jvm.arrayLocs frame_1_arrays args s ++ Jvm.staticLocs frame_1_statics s) 16 128 → Post tb e args s (.returned v) u) :
    ArmFor flags0 classFile x code maxLocals ret World_1 tables_1 room_1 Calls_1 rest_1 Pre_1 Post := by
  intro l hfl _ _ p e ha hc hk s m args below hf hA hF happ hP
  obtain ⟨hcalls, hrest, hpre⟩ := hP
  obtain ⟨-, -, -, hnamed, -, -, -, hat⟩ := (Spec.applies_iff hf).mp happ
  obtain ⟨hg, hn⟩ := and_e (Cond.before_iff.mp (show (Jvm.Cond.and given_1 narrow_1).before args s = true from hpre))
  obtain ⟨g1, g2⟩ := and_e hg
  obtain ⟨g3, g4⟩ := and_e g2
  obtain ⟨g5, g6⟩ := and_e g4
  obtain ⟨g7, g8⟩ := and_e g6
  obtain ⟨g9, g10⟩ := and_e g8
  obtain ⟨w0, w1, w2, w3, w4, rfl⟩ : ∃ w0 w1 w2 w3 w4 : Value, args = #[w0, w1, w2, w3, w4] := by
    have hs : args.size = 5 := by simpa [Cond.value, given_1] using g1
    obtain ⟨L⟩ := args
    match L, hs with
    | [w0, w1, w2, w3, w4], _ => exact ⟨w0, w1, w2, w3, w4, rfl⟩
  have hw := fun d (hd : d ∈ tables_1) => atoms_spec (ws := Jvm.Cond.code x code maxLocals ret :: tables_1) hat d (List.mem_cons_of_mem _ hd)
  have hfit : Fit s := fun {y c} hc i hi => by
    obtain ⟨ha, rfl⟩ := Array.getElem?_eq_some_iff.mp hc
    have q := List.all_eq_true.mp ((Array.all_eq_true_iff_forall_mem.mp hF) _ (Array.getElem_mem ha)) i (List.mem_range.mpr hi)
    simpa [Array.getElem?_eq_getElem hi] using q
  obtain ⟨i0, ei0⟩ := is_v g3
  obtain rfl : w0 = (.int i0) := Option.some.inj ei0
  obtain ⟨i1, ei1⟩ := is_v g5
  obtain rfl : w1 = (.int i1) := Option.some.inj ei1
  obtain ⟨i2, ei2⟩ := is_v g7
  obtain rfl : w2 = (.int i2) := Option.some.inj ei2
  obtain ⟨i3, ei3⟩ := is_v g9
  obtain rfl : w3 = (.int i3) := Option.some.inj ei3
  obtain ⟨i4, ei4⟩ := is_v g10
  obtain rfl : w4 = (.int i4) := Option.some.inj ei4
  obtain ⟨n, o, h1, h2, h3, _, L, rfl, ⟨rfl, N⟩, hq⟩ := rm0 l s _ hw tables_1 i0 i1 i2 i3 i4 s.heap s.heap.size (Nat.le_refl _)  p e ha hc hk s m _ below hf ((Spec.applies_iff_loose hf).mp happ).1 ⟨rfl, State.Warmed39.refl s, rfl⟩ trivial
  refine ⟨n, _, h1, h2, h3, hpost _ _ _ _ _ _ ⟨Cond.after_iff.mpr rfl, Cond.after_iff.mpr (eq_i res_at (Term.int_eval (1)) rfl), trivial⟩ ⟨hq.1, hq.2.1, (hq.2.2.sift fun y hy => Or.inr (N y hy)).mono (by decide) (by decide)⟩⟩
theorem main_1_1 : Claimed_1_1 := comes_1 fun _ _ _ _ _ _ h hF => ⟨h.1, hF⟩
theorem main_1_2 : Claimed_1_2 := comes_1 fun _ _ _ _ _ _ h hF => ⟨h.2.1, hF⟩
end Jvm.Pilot.@@N@@
namespace Jvm.Pilot.@@N@@
open Jvm Jvm.ClassFile Sem Op Lib Jvm.Free Jvm.Stand Jvm.Pilot.@@N@@.Jvm.D
/-! MADE BY PROGRAM (witnessworld.py) out of the Statement's table words and the real class files: 14 classes; the members and pool entries that the words name. The judged class is class 1, her method 2. -/
namespace start1
open Jvm.ClassFile
def u (s : String) : CpInfo := .utf8 (stringToUtf16 s)
/-- a pool by its gaps: so many unusable entries, then the entry; so many at the end -/
def gap : Nat → List CpInfo → List CpInfo
  | 0, r => r
  | n + 1, r => .unusable :: gap n r
def poolList (es : List (Nat × CpInfo)) (last : Nat) : List CpInfo := es.foldr (fun e r => gap e.1 (e.2 :: r)) (gap last [])
def pool (es : List (Nat × CpInfo)) (last : Nat) : Array CpInfo := ⟨poolList es last⟩
def fileOf (pool : Array CpInfo) (this : Nat) (attrs : Array Attribute := #[]) (ms : Array MethodInfo := #[]) (fl : Nat := 33) (sup : Nat := 0) (ifs : Array Nat := #[]) (fds : Array FieldInfo := #[]) : ClassFile where
  minorVersion := 0
  majorVersion := 65
  constantPool := pool
  accessFlags := fl
  thisClass := this
  superClass := sup
  interfaces := ifs
  fields := fds
  methods := ms
  attributes := attrs
def plain (name : String) (sup : Option ClassId) : Class where
  name := name
  kind := .ordinary
  loader := none
  accessFlags := 33
  super := sup
  interfaces := #[]
  cf := none
  fields := #[]
  methods := #[]
  instanceTypes := #[]
  staticTypes := #[]
  resolved := #[]
  callSites := []
  init := .initialized
  statics := none
  mirror := none

def pool0 : Array CpInfo := pool [(5, u "<init>"), (0, u "()V"), (1, .class_ 10), (1, u "java/lang/Object")] 113

def k0c0 : Code := { maxStack := 0, maxLocals := 1, code := object_method_1_code, exceptionTable := #[], attributes := #[] }
def k0m0 : Method := { name := "<init>", desc := "()V", sig := { parameters := [], returnType := none }, accessFlags := 1, code := some k0c0 }
/-- java/lang/Object -/
def k0 : Class := { plain "java/lang/Object" none with
  accessFlags := 33
  interfaces := #[]
  cf := some (fileOf pool0 8 #[] #[{ accessFlags := 1, nameIndex := 5, descriptorIndex := 6, attributes := #[] }] 33 0 #[] #[])
  fields := #[]
  methods := #[k0m0]
  instanceTypes := #[]
  staticTypes := #[]
  resolved := Array.replicate 124 none
  statics := none }

def pool1 : Array CpInfo := pool [(2, .class_ 4), (0, .nameAndType 5 6), (0, u "java/lang/Object"), (0, u "<init>"), (0, u "()V"), (0, .methodref 8 9), (0, .class_ 10), (0, .nameAndType 11 12), (0, u "murmuration/SourcesContainsPinLaw"), (0, u "pick"), (0, u "(I)I"), (0, .class_ 14), (0, u "murmuration/Sources"), (0, .methodref 13 3), (0, .methodref 13 17), (0, .nameAndType 18 19), (0, u "add"), (0, u "(I)V"), (0, .integer 2147483647), (0, .methodref 13 22), (0, .nameAndType 23 24), (0, u "contains"), (0, u "(I)Z"), (3, u "law"), (0, u "(IIIII)Z")] 2

def k1m0 : Method := { name := "<init>", desc := "()V", sig := { parameters := [], returnType := none }, accessFlags := 1, code := none }
def k1c1 : Code := { maxStack := 2, maxLocals := 2, code := method_2_code, exceptionTable := #[], attributes := #[] }
def k1m1 : Method := { name := "pick", desc := "(I)I", sig := { parameters := [.int], returnType := some .int }, accessFlags := 10, code := some k1c1 }
def k1c2 : Code := { maxStack := 4, maxLocals := 13, code := code, exceptionTable := #[], attributes := #[] }
def k1m2 : Method := { name := "law", desc := "(IIIII)Z", sig := { parameters := [.int, .int, .int, .int, .int], returnType := some .boolean }, accessFlags := 9, code := some k1c2 }
/-- murmuration/SourcesContainsPinLaw -/
def k1 : Class := { plain "murmuration/SourcesContainsPinLaw" (some 0) with
  accessFlags := 49
  interfaces := #[]
  cf := some (fileOf pool1 8 #[] #[{ accessFlags := 1, nameIndex := 5, descriptorIndex := 6, attributes := #[] }, { accessFlags := 10, nameIndex := 11, descriptorIndex := 12, attributes := #[] }, { accessFlags := 9, nameIndex := 28, descriptorIndex := 29, attributes := #[] }] 49 2 #[] #[])
  fields := #[]
  methods := #[k1m0, k1m1, k1m2]
  instanceTypes := #[]
  staticTypes := #[]
  resolved := Array.replicate 32 none
  statics := none }

def pool2 : Array CpInfo := pool [(1, .methodref 2 3), (0, .class_ 4), (0, .nameAndType 5 6), (0, u "java/lang/Object"), (0, u "<init>"), (0, u "()V"), (0, .class_ 8), (0, u "murmuration/Sources"), (0, .fieldref 7 10), (0, .nameAndType 11 12), (0, u "first"), (0, u "J"), (0, .fieldref 7 14), (0, .nameAndType 15 16), (0, u "more"), (0, u "[J"), (0, .methodref 18 19), (0, .class_ 20), (0, .nameAndType 21 22), (0, u "java/util/Arrays"), (0, u "copyOf"), (0, u "([JI)[J"), (15, u "(I)V"), (0, u "WORD_BITS"), (0, u "I"), (4, u "contains"), (0, u "(I)Z"), (1, u "add")] 5

def k2c0 : Code := { maxStack := 1, maxLocals := 1, code := prog_57_method_1_code, exceptionTable := #[], attributes := #[] }
def k2m0 : Method := { name := "<init>", desc := "()V", sig := { parameters := [], returnType := none }, accessFlags := 0, code := some k2c0 }
def k2c1 : Code := { maxStack := 5, maxLocals := 3, code := prog_57_method_2_code, exceptionTable := #[], attributes := #[] }
def k2m1 : Method := { name := "contains", desc := "(I)Z", sig := { parameters := [.int], returnType := some .boolean }, accessFlags := 0, code := some k2c1 }
def k2c2 : Code := { maxStack := 7, maxLocals := 3, code := prog_57_method_3_code, exceptionTable := #[], attributes := #[] }
def k2m2 : Method := { name := "add", desc := "(I)V", sig := { parameters := [.int], returnType := none }, accessFlags := 0, code := some k2c2 }
/-- murmuration/Sources -/
def k2 : Class := { plain "murmuration/Sources" (some 0) with
  accessFlags := 48
  interfaces := #[]
  cf := some (fileOf pool2 7 #[] #[{ accessFlags := 0, nameIndex := 5, descriptorIndex := 6, attributes := #[] }, { accessFlags := 0, nameIndex := 45, descriptorIndex := 46, attributes := #[] }, { accessFlags := 0, nameIndex := 48, descriptorIndex := 38, attributes := #[] }] 48 2 #[] #[{ accessFlags := 26, nameIndex := 39, descriptorIndex := 40, attributes := #[] }, { accessFlags := 2, nameIndex := 11, descriptorIndex := 12, attributes := #[] }, { accessFlags := 2, nameIndex := 15, descriptorIndex := 16, attributes := #[] }])
  fields := #[{ name := "WORD_BITS", type := .int, accessFlags := 26, slot := 0, constantValue := 0 }, { name := "first", type := .long, accessFlags := 2, slot := 0, constantValue := 0 }, { name := "more", type := (.array .long), accessFlags := 2, slot := 1, constantValue := 0 }]
  methods := #[k2m0, k2m1, k2m2]
  instanceTypes := #[.long, (.array .long)]
  staticTypes := #[.int]
  resolved := Array.replicate 54 none
  statics := none }

def pool3 : Array CpInfo := pool [(2, .class_ 4), (1, u "java/lang/Object"), (0, u "<init>"), (0, u "()V"), (7, .class_ 16), (1, u "java/util/Arrays"), (57, .class_ 76), (1, u "java/util/Arrays$NaturalOrder"), (36, .class_ 115), (1, u "java/util/Arrays$LegacyMergeSort"), (1, u "Z"), (32, .methodref 151 152), (0, .class_ 153), (0, .nameAndType 154 155), (0, u "java/lang/System"), (0, u "arraycopy"), (0, u "(Ljava/lang/Object;ILjava/lang/Object;II)V"), (146, u "copyOf"), (1, .methodref 305 306), (0, .class_ 307), (0, .nameAndType 308 309), (0, u "java/lang/Math"), (0, u "min"), (0, u "(II)I"), (65, .class_ 376), (0, u "java/util/Arrays$ArrayList"), (68, u "$assertionsDisabled"), (269, u "MIN_ARRAY_SORT_GRAN"), (0, u "I"), (2, u "INSERTIONSORT_THRESHOLD"), (152, u "([JI)[J"), (102, .class_ 976), (0, u "java/util/Arrays$ArrayItr")] 52

def k3m0 : Method := { name := "<init>", desc := "()V", sig := { parameters := [], returnType := none }, accessFlags := 2, code := none }
def k3c1 : Code := { maxStack := 6, maxLocals := 3, code := jdk_65_method_124_code, exceptionTable := #[], attributes := #[] }
def k3m1 : Method := { name := "copyOf", desc := "([JI)[J", sig := { parameters := [(.array .long), .int], returnType := some (.array .long) }, accessFlags := 9, code := some k3c1 }
/-- java/util/Arrays -/
def k3 : Class := { plain "java/util/Arrays" (some 0) with
  accessFlags := 49
  interfaces := #[]
  cf := some (fileOf pool3 14 #[.nestMembers #[975, 375, 113, 74]] #[{ accessFlags := 2, nameIndex := 5, descriptorIndex := 6, attributes := #[] }, { accessFlags := 9, nameIndex := 302, descriptorIndex := 872, attributes := #[] }] 49 2 #[] #[{ accessFlags := 26, nameIndex := 715, descriptorIndex := 716, attributes := #[] }, { accessFlags := 26, nameIndex := 719, descriptorIndex := 716, attributes := #[] }, { accessFlags := 4120, nameIndex := 445, descriptorIndex := 117, attributes := #[] }])
  fields := #[{ name := "MIN_ARRAY_SORT_GRAN", type := .int, accessFlags := 26, slot := 0, constantValue := 0 }, { name := "INSERTIONSORT_THRESHOLD", type := .int, accessFlags := 26, slot := 1, constantValue := 0 }, { name := "$assertionsDisabled", type := .boolean, accessFlags := 4120, slot := 2, constantValue := 0 }]
  methods := #[k3m0, k3m1]
  instanceTypes := #[]
  staticTypes := #[.int, .int, .boolean]
  resolved := Array.replicate 1029 none
  statics := none }

def pool4 : Array CpInfo := pool [(1, .class_ 2), (0, u "java/lang/Math"), (1, .class_ 6), (1, u "java/lang/Object"), (0, u "<init>"), (0, u "()V"), (89, .class_ 100), (1, u "java/lang/Math$RandomNumberGeneratorHolder"), (71, u "negativeZeroFloatBits"), (0, u "J"), (2, u "negativeZeroDoubleBits"), (24, u "min"), (43, u "$assertionsDisabled"), (0, u "Z"), (88, u "(II)I"), (2, u "twoToTheDoubleScaleDown"), (0, u "D"), (4, u "twoToTheDoubleScaleUp"), (9, u "E"), (3, u "PI"), (2, u "TAU"), (2, u "DEGREES_TO_RADIANS"), (0, u "RADIANS_TO_DEGREES")] 94

def k4m0 : Method := { name := "<init>", desc := "()V", sig := { parameters := [], returnType := none }, accessFlags := 2, code := none }
def k4c1 : Code := { maxStack := 2, maxLocals := 2, code := jdk_29_method_69_code, exceptionTable := #[], attributes := #[] }
def k4m1 : Method := { name := "min", desc := "(II)I", sig := { parameters := [.int, .int], returnType := some .int }, accessFlags := 9, code := some k4c1 }
/-- java/lang/Math -/
def k4 : Class := { plain "java/lang/Math" (some 0) with
  accessFlags := 49
  interfaces := #[]
  cf := some (fileOf pool4 1 #[.nestMembers #[98]] #[{ accessFlags := 2, nameIndex := 7, descriptorIndex := 8, attributes := #[] }, { accessFlags := 9, nameIndex := 201, descriptorIndex := 335, attributes := #[] }] 49 4 #[] #[{ accessFlags := 25, nameIndex := 354, descriptorIndex := 339, attributes := #[] }, { accessFlags := 25, nameIndex := 358, descriptorIndex := 339, attributes := #[] }, { accessFlags := 25, nameIndex := 361, descriptorIndex := 339, attributes := #[] }, { accessFlags := 26, nameIndex := 364, descriptorIndex := 339, attributes := #[] }, { accessFlags := 26, nameIndex := 365, descriptorIndex := 339, attributes := #[] }, { accessFlags := 26, nameIndex := 172, descriptorIndex := 173, attributes := #[] }, { accessFlags := 26, nameIndex := 176, descriptorIndex := 173, attributes := #[] }, { accessFlags := 8, nameIndex := 344, descriptorIndex := 339, attributes := #[] }, { accessFlags := 8, nameIndex := 338, descriptorIndex := 339, attributes := #[] }, { accessFlags := 4120, nameIndex := 245, descriptorIndex := 246, attributes := #[] }])
  fields := #[{ name := "E", type := .double, accessFlags := 25, slot := 0, constantValue := 0 }, { name := "PI", type := .double, accessFlags := 25, slot := 1, constantValue := 0 }, { name := "TAU", type := .double, accessFlags := 25, slot := 2, constantValue := 0 }, { name := "DEGREES_TO_RADIANS", type := .double, accessFlags := 26, slot := 3, constantValue := 0 }, { name := "RADIANS_TO_DEGREES", type := .double, accessFlags := 26, slot := 4, constantValue := 0 }, { name := "negativeZeroFloatBits", type := .long, accessFlags := 26, slot := 5, constantValue := 0 }, { name := "negativeZeroDoubleBits", type := .long, accessFlags := 26, slot := 6, constantValue := 0 }, { name := "twoToTheDoubleScaleUp", type := .double, accessFlags := 8, slot := 7, constantValue := 0 }, { name := "twoToTheDoubleScaleDown", type := .double, accessFlags := 8, slot := 8, constantValue := 0 }, { name := "$assertionsDisabled", type := .boolean, accessFlags := 4120, slot := 9, constantValue := 0 }]
  methods := #[k4m0, k4m1]
  instanceTypes := #[]
  staticTypes := #[.double, .double, .double, .double, .double, .long, .long, .double, .double, .boolean]
  resolved := Array.replicate 460 none
  statics := none }

def pool5 : Array CpInfo := pool [(2, .class_ 4), (1, u "java/lang/Object"), (0, u "<init>"), (0, u "()V"), (1, .class_ 10), (1, u "java/lang/System"), (0, u "allowSecurityManager"), (0, u "I"), (16, u "cons"), (0, u "Ljava/io/Console;"), (77, .class_ 110), (1, u "java/lang/System$CallersHolder"), (43, u "initialErrStream"), (0, u "Ljava/io/PrintStream;"), (19, u "security"), (0, u "Ljava/lang/SecurityManager;"), (31, .class_ 209), (0, u "java/lang/System$1"), (7, u "props"), (0, u "Ljava/util/Properties;"), (2, u "lineSeparator"), (0, u "Ljava/lang/String;"), (96, .class_ 321), (1, u "java/lang/System$LoggerFinder"), (5, .class_ 328), (0, u "java/lang/System$Logger"), (67, u "err"), (2, u "out"), (91, u "notSupportedJnuEncoding"), (15, u "in"), (17, u "initialIn"), (0, u "Ljava/io/InputStream;"), (35, u "bootLayer"), (0, u "Ljava/lang/ModuleLayer;"), (99, .class_ 664), (0, u "java/lang/System$2"), (9, u "NEVER"), (2, u "MAYBE"), (49, u "arraycopy"), (0, u "(Ljava/lang/Object;ILjava/lang/Object;II)V"), (72, .class_ 802), (0, u "java/lang/System$Logger$Level")] 31

def k5m0 : Method := { name := "<init>", desc := "()V", sig := { parameters := [], returnType := none }, accessFlags := 2, code := none }
def k5m1 : Method := { name := "arraycopy", desc := "(Ljava/lang/Object;ILjava/lang/Object;II)V", sig := { parameters := [(.object "java/lang/Object"), .int, (.object "java/lang/Object"), .int, .int], returnType := none }, accessFlags := 265, code := none }
/-- java/lang/System -/
def k5 : Class := { plain "java/lang/System" (some 0) with
  accessFlags := 49
  interfaces := #[]
  cf := some (fileOf pool5 8 #[.nestMembers #[319, 327, 801, 108, 663, 208]] #[{ accessFlags := 2, nameIndex := 5, descriptorIndex := 6, attributes := #[] }, { accessFlags := 265, nameIndex := 727, descriptorIndex := 728, attributes := #[] }] 49 2 #[] #[{ accessFlags := 25, nameIndex := 507, descriptorIndex := 526, attributes := #[] }, { accessFlags := 25, nameIndex := 399, descriptorIndex := 155, attributes := #[] }, { accessFlags := 25, nameIndex := 396, descriptorIndex := 155, attributes := #[] }, { accessFlags := 10, nameIndex := 525, descriptorIndex := 526, attributes := #[] }, { accessFlags := 26, nameIndex := 674, descriptorIndex := 12, attributes := #[] }, { accessFlags := 26, nameIndex := 677, descriptorIndex := 12, attributes := #[] }, { accessFlags := 10, nameIndex := 11, descriptorIndex := 12, attributes := #[] }, { accessFlags := 74, nameIndex := 175, descriptorIndex := 176, attributes := #[] }, { accessFlags := 10, nameIndex := 491, descriptorIndex := 222, attributes := #[] }, { accessFlags := 74, nameIndex := 29, descriptorIndex := 30, attributes := #[] }, { accessFlags := 74, nameIndex := 154, descriptorIndex := 155, attributes := #[] }, { accessFlags := 10, nameIndex := 217, descriptorIndex := 218, attributes := #[] }, { accessFlags := 10, nameIndex := 221, descriptorIndex := 222, attributes := #[] }, { accessFlags := 8, nameIndex := 562, descriptorIndex := 563, attributes := #[] }])
  fields := #[{ name := "in", type := (.object "java/io/InputStream"), accessFlags := 25, slot := 0, constantValue := 0 }, { name := "out", type := (.object "java/io/PrintStream"), accessFlags := 25, slot := 1, constantValue := 0 }, { name := "err", type := (.object "java/io/PrintStream"), accessFlags := 25, slot := 2, constantValue := 0 }, { name := "initialIn", type := (.object "java/io/InputStream"), accessFlags := 10, slot := 3, constantValue := 0 }, { name := "NEVER", type := .int, accessFlags := 26, slot := 4, constantValue := 0 }, { name := "MAYBE", type := .int, accessFlags := 26, slot := 5, constantValue := 0 }, { name := "allowSecurityManager", type := .int, accessFlags := 10, slot := 6, constantValue := 0 }, { name := "security", type := (.object "java/lang/SecurityManager"), accessFlags := 74, slot := 7, constantValue := 0 }, { name := "notSupportedJnuEncoding", type := (.object "java/lang/String"), accessFlags := 10, slot := 8, constantValue := 0 }, { name := "cons", type := (.object "java/io/Console"), accessFlags := 74, slot := 9, constantValue := 0 }, { name := "initialErrStream", type := (.object "java/io/PrintStream"), accessFlags := 74, slot := 10, constantValue := 0 }, { name := "props", type := (.object "java/util/Properties"), accessFlags := 10, slot := 11, constantValue := 0 }, { name := "lineSeparator", type := (.object "java/lang/String"), accessFlags := 10, slot := 12, constantValue := 0 }, { name := "bootLayer", type := (.object "java/lang/ModuleLayer"), accessFlags := 8, slot := 13, constantValue := 0 }]
  methods := #[k5m0, k5m1]
  instanceTypes := #[]
  staticTypes := #[(.object "java/io/InputStream"), (.object "java/io/PrintStream"), (.object "java/io/PrintStream"), (.object "java/io/InputStream"), .int, .int, .int, (.object "java/lang/SecurityManager"), (.object "java/lang/String"), (.object "java/io/Console"), (.object "java/io/PrintStream"), (.object "java/util/Properties"), (.object "java/lang/String"), (.object "java/lang/ModuleLayer")]
  resolved := Array.replicate 834 none
  statics := none }

def pool6 : Array CpInfo := pool [(1, u "java/lang/Cloneable"), (0, .class_ 1), (0, u "java/lang/Object"), (0, .class_ 3)] 3

/-- java/lang/Cloneable -/
def k6 : Class := { plain "java/lang/Cloneable" (some 0) with
  accessFlags := 1537
  interfaces := #[]
  cf := some (fileOf pool6 2 #[] #[] 1537 4 #[] #[])
  fields := #[]
  methods := #[]
  instanceTypes := #[]
  staticTypes := #[]
  resolved := Array.replicate 8 none
  statics := none }

def pool7 : Array CpInfo := pool [(1, u "java/io/Serializable"), (0, .class_ 1), (0, u "java/lang/Object"), (0, .class_ 3)] 3

/-- java/io/Serializable -/
def k7 : Class := { plain "java/io/Serializable" (some 0) with
  accessFlags := 1537
  interfaces := #[]
  cf := some (fileOf pool7 2 #[] #[] 1537 4 #[] #[])
  fields := #[]
  methods := #[]
  instanceTypes := #[]
  staticTypes := #[]
  resolved := Array.replicate 8 none
  statics := none }

/-- the primitive byte -/
def k8 : Class := { plain "byte" none with kind := .primitive 'B', accessFlags := 0x411 }
/-- [B -/
def k9 : Class := { plain "[B" (some 0) with kind := .array 8 .byte, interfaces := #[6, 7], accessFlags := 1041 }

/-- the primitive int -/
def k10 : Class := { plain "int" none with kind := .primitive 'I', accessFlags := 0x411 }
/-- [I -/
def k11 : Class := { plain "[I" (some 0) with kind := .array 10 .int, interfaces := #[6, 7], accessFlags := 1041 }

/-- the primitive long -/
def k12 : Class := { plain "long" none with kind := .primitive 'J', accessFlags := 0x411 }
/-- [J -/
def k13 : Class := { plain "[J" (some 0) with kind := .array 12 .long, interfaces := #[6, 7], accessFlags := 1041 }

def heap : Heap := #[]
def classes : Array Class := #[k0, k1, k2, k3, k4, k5, k6, k7, k8, k9, k10, k11, k12, k13]
def interned : List (Array UInt16 × Addr) := []
def slotsUsed : Nat := 0
def theMethod : MethodId := ⟨1, 2⟩
def args0 : Array Value := #[.int 3, .int 2, .int 3, .int 2, .int 3]
def aboutOver (below : List Frame) : State where
  vm := { classes := classes, interned := interned.toArray }
  heap := heap
  slotsUsed := slotsUsed
  threads := #[{ frames := .invoking theMethod args0 :: below }]
def below0 : List Frame := [.native { method := ⟨0, 0⟩, args := #[] }]
def about1 : State := aboutOver below0
def p0 : Program := .bare "" "" ""
def e0 : Env := launch0.env 0 0 0
theorem w_frames : about1.frames = Frame.invoking theMethod args0 :: below0 := rfl
set_option maxRecDepth 65536 in
theorem w_args : argsFit about1.vm theMethod args0 = true := by decide +kernel
set_option maxRecDepth 65536 in
theorem w_heap : heapFits about1 = true := by decide +kernel
set_option maxRecDepth 65536 in
theorem w_runnable : about1.curStatus? = some .runnable := by decide +kernel
set_option maxRecDepth 65536 in
theorem w_alone : about1.alone = true := by decide +kernel
set_option maxRecDepth 65536 in
theorem w_named : about1.methodNamed? x = some theMethod := by decide +kernel
set_option maxRecDepth 65536 in
theorem w_hears : about1.hears theMethod below0 = true := by decide +kernel
set_option maxRecDepth 65536 in
theorem w_ripe : about1.ripe theMethod args0 below0 = true := by decide +kernel
theorem w_running : about1.status = .running := rfl
set_option maxRecDepth 65536 in
theorem w_room : about1.hasRoom e0.platform room_1 = true :=
  launch0.hasRoom_least _ room_1 (by decide +kernel) (by decide +kernel) (by decide +kernel) (by decide +kernel) (by decide +kernel) (by decide +kernel)
theorem allAtoms_all (ts : List Jvm.Cond) (a : Array Jvm.Value) (st : Jvm.State) : (allAtoms ts).before a st = ts.all (fun c => c.before a st) := by
  induction ts with
  | nil => rfl
  | cons c t ih =>
    show (Jvm.Cond.and c (allAtoms t)).before a st = _
    rw [Jvm.Cond.before_and, ih, List.all_cons]
def words1 : List Jvm.Cond := Jvm.Cond.code x code maxLocals ret :: tables_1
/-- a 'code' word, met by the world's own term for the bytes: nothing is compared byte by byte -/
theorem code_word {y : MethodName} {bytes : ByteArray} {mx : Nat} {rt : Option FieldType} {a : Array Value} {s : State} {m : MethodId} {meth : Method} {c : Code} (h1 : s.methodNamed? y = some m) (h2 : s.vm.method? m = some meth) (h3 : meth.code = some c) (h4 : c.code = bytes)
    (h5 : (c.maxLocals == mx && c.exceptionTable.isEmpty && decide (c.maxStack ≤ mostOperands) && decide (meth.sig.returnType = rt) && !meth.locks && decide (parseMethodDescriptor y.desc = some meth.sig)) = true) : (Jvm.Cond.code y bytes mx rt).before a s = true := by
  simp only [Bool.and_eq_true, beq_iff_eq, Bool.not_eq_true', decide_eq_true_eq] at h5
  obtain ⟨⟨⟨⟨⟨g1, g2⟩, g3⟩, g4⟩, g5⟩, g6⟩ := h5
  simp [Cond.before, Cond.holds, Cond.value, h1, h2, h3, h4, g1, g2, g3, g4, g5, g6]
def isCode : Jvm.Cond → Bool
  | .code _ _ _ _ => true
  | _ => false
theorem all_split {L : List Jvm.Cond} {P : Jvm.Cond → Bool} (h1 : L.all (fun c => isCode c || P c) = true) (h2 : ∀ c ∈ L.filter isCode, P c = true) : L.all P = true := by
  refine List.all_eq_true.mpr fun c hc => ?_
  have h := List.all_eq_true.mp h1 c hc
  rcases Bool.eq_false_or_eq_true (isCode c) with hi | hi
  · exact h2 c (List.mem_filter.mpr ⟨hc, hi⟩)
  · simpa [hi] using h
set_option maxRecDepth 65536 in
theorem w_c0 : (Jvm.Cond.code x code maxLocals ret).before args0 about1 = true := code_word (m := ⟨1, 2⟩) (meth := k1m2) (c := k1c2) (by decide +kernel) rfl rfl rfl (by decide +kernel)
set_option maxRecDepth 65536 in
theorem w_c1 : (Jvm.Cond.code ({ cls := "murmuration/SourcesContainsPinLaw", name := "pick", desc := "(I)I" } : Jvm.MethodName) method_2_code (2 : Nat) (Option.some Jvm.ClassFile.FieldType.int)).before args0 about1 = true := code_word (m := ⟨1, 1⟩) (meth := k1m1) (c := k1c1) (by decide +kernel) rfl rfl rfl (by decide +kernel)
set_option maxRecDepth 65536 in
theorem w_c2 : (Jvm.Cond.code ({ cls := "murmuration/Sources", name := "<init>", desc := "()V" } : Jvm.MethodName) prog_57_method_1_code (1 : Nat) (Option.none : Option Jvm.ClassFile.FieldType)).before args0 about1 = true := code_word (m := ⟨2, 0⟩) (meth := k2m0) (c := k2c0) (by decide +kernel) rfl rfl rfl (by decide +kernel)
set_option maxRecDepth 65536 in
theorem w_c3 : (Jvm.Cond.code ({ cls := "java/lang/Object", name := "<init>", desc := "()V" } : Jvm.MethodName) object_method_1_code (1 : Nat) (Option.none : Option Jvm.ClassFile.FieldType)).before args0 about1 = true := code_word (m := ⟨0, 0⟩) (meth := k0m0) (c := k0c0) (by decide +kernel) rfl rfl rfl (by decide +kernel)
set_option maxRecDepth 65536 in
theorem w_c4 : (Jvm.Cond.code ({ cls := "murmuration/Sources", name := "contains", desc := "(I)Z" } : Jvm.MethodName) prog_57_method_2_code (3 : Nat) (Option.some Jvm.ClassFile.FieldType.boolean)).before args0 about1 = true := code_word (m := ⟨2, 1⟩) (meth := k2m1) (c := k2c1) (by decide +kernel) rfl rfl rfl (by decide +kernel)
set_option maxRecDepth 65536 in
theorem w_c5 : (Jvm.Cond.code ({ cls := "murmuration/Sources", name := "add", desc := "(I)V" } : Jvm.MethodName) prog_57_method_3_code (3 : Nat) (Option.none : Option Jvm.ClassFile.FieldType)).before args0 about1 = true := code_word (m := ⟨2, 2⟩) (meth := k2m2) (c := k2c2) (by decide +kernel) rfl rfl rfl (by decide +kernel)
set_option maxRecDepth 65536 in
theorem w_c6 : (Jvm.Cond.code ({ cls := "java/util/Arrays", name := "copyOf", desc := "([JI)[J" } : Jvm.MethodName) jdk_65_method_124_code (3 : Nat) (Option.some (Jvm.ClassFile.FieldType.array Jvm.ClassFile.FieldType.long))).before args0 about1 = true := code_word (m := ⟨3, 1⟩) (meth := k3m1) (c := k3c1) (by decide +kernel) rfl rfl rfl (by decide +kernel)
set_option maxRecDepth 65536 in
theorem w_c7 : (Jvm.Cond.code ({ cls := "java/lang/Math", name := "min", desc := "(II)I" } : Jvm.MethodName) jdk_29_method_69_code (2 : Nat) (Option.some Jvm.ClassFile.FieldType.int)).before args0 about1 = true := code_word (m := ⟨4, 1⟩) (meth := k4m1) (c := k4c1) (by decide +kernel) rfl rfl rfl (by decide +kernel)
def codes1 : List Jvm.Cond := [Jvm.Cond.code x code maxLocals ret, Jvm.Cond.code ({ cls := "murmuration/SourcesContainsPinLaw", name := "pick", desc := "(I)I" } : Jvm.MethodName) method_2_code (2 : Nat) (Option.some Jvm.ClassFile.FieldType.int), Jvm.Cond.code ({ cls := "murmuration/Sources", name := "<init>", desc := "()V" } : Jvm.MethodName) prog_57_method_1_code (1 : Nat) (Option.none : Option Jvm.ClassFile.FieldType), Jvm.Cond.code ({ cls := "java/lang/Object", name := "<init>", desc := "()V" } : Jvm.MethodName) object_method_1_code (1 : Nat) (Option.none : Option Jvm.ClassFile.FieldType), Jvm.Cond.code ({ cls := "murmuration/Sources", name := "contains", desc := "(I)Z" } : Jvm.MethodName) prog_57_method_2_code (3 : Nat) (Option.some Jvm.ClassFile.FieldType.boolean), Jvm.Cond.code ({ cls := "murmuration/Sources", name := "add", desc := "(I)V" } : Jvm.MethodName) prog_57_method_3_code (3 : Nat) (Option.none : Option Jvm.ClassFile.FieldType), Jvm.Cond.code ({ cls := "java/util/Arrays", name := "copyOf", desc := "([JI)[J" } : Jvm.MethodName) jdk_65_method_124_code (3 : Nat) (Option.some (Jvm.ClassFile.FieldType.array Jvm.ClassFile.FieldType.long)), Jvm.Cond.code ({ cls := "java/lang/Math", name := "min", desc := "(II)I" } : Jvm.MethodName) jdk_29_method_69_code (2 : Nat) (Option.some Jvm.ClassFile.FieldType.int)]
set_option maxRecDepth 65536 in
theorem codes_eq : words1.filter isCode = codes1 := rfl
theorem w_codes : ∀ c ∈ words1.filter isCode, c.before args0 about1 = true := by
  rw [codes_eq]
  intro c hc
  simp only [codes1, List.mem_cons, List.not_mem_nil, or_false] at hc
  rcases hc with rfl | rfl | rfl | rfl | rfl | rfl | rfl | rfl
  · exact w_c0
  · exact w_c1
  · exact w_c2
  · exact w_c3
  · exact w_c4
  · exact w_c5
  · exact w_c6
  · exact w_c7
set_option maxRecDepth 65536 in
theorem w_t1 : (words1.take 24).all (fun c => isCode c || c.before args0 about1) = true := by decide +kernel
set_option maxRecDepth 65536 in
theorem w_t2 : (words1.drop 24).all (fun c => isCode c || c.before args0 about1) = true := by decide +kernel
theorem w_tables : (allAtoms (Jvm.Cond.code x code maxLocals ret :: tables_1)).before args0 about1 = true := by
  rw [allAtoms_all]
  show words1.all (fun c => c.before args0 about1) = true
  refine all_split ?_ w_codes
  rw [← List.take_append_drop 24 words1, List.all_append, w_t1, w_t2]
  rfl
set_option maxRecDepth 65536 in
theorem w_case : (Jvm.Cond.and given_1 narrow_1).before args0 about1 = true := by decide +kernel
theorem w_applies : (headSpec (Jvm.Cond.code x code maxLocals ret :: tables_1) room_1).applies x e0.platform about1 = true :=
  (Spec.applies_iff w_frames).mpr ⟨w_running, w_runnable, w_alone, w_named, w_hears, w_ripe, w_room, w_tables⟩
theorem atStart : AtStart classFile x code maxLocals ret World_1 tables_1 room_1 Calls_1 rest_1 Pre_1 launch0 p0 e0 about1 theMethod args0 below0 :=
  ⟨lists_1, trivial, launch0.admits_env _ _ _, launch0.least_env, fairChoices_fair.cas, fairChoices_fair.clock, w_frames, w_args, w_heap, w_applies, trivial, trivial, w_case⟩
end start1
theorem witness_1 : WitnessClaimed_1 := ⟨start1.p0, start1.e0, start1.about1, start1.theMethod, start1.args0, start1.below0, start1.atStart⟩
end Jvm.Pilot.@@N@@
