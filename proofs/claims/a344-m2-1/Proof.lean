import JvmDerived
import JvmDerived.Pilot.@@N@@Statement
import JvmDerived.Pilot.@@N@@Code
set_option linter.unusedVariables false
set_option linter.unusedSimpArgs false
namespace Jvm.Pilot.@@N@@
open Jvm Jvm.ClassFile Sem Op Lib Jvm.Free Jvm.Stand Jvm.LawKit Jvm.RoadKit Bundle Jvm.Pilot.@@N@@.Jvm.D
section Own
variable {p : Program} {l : Launch} {e : Env} {R : Room} {s : State} {m : MethodId} {args : Array Value} {below : List Frame} {meth : Method} {c : Code} {T : State} {locs : List Loc} {cells slots : Nat} {Z : State} {h h' : Heap}
def Run (p : Program) (e : Env) (below : List Frame) (s : State) (C N : Nat) (Q : Option Value → Heap → List Loc → Prop) (S : State) : Prop :=
  ∃ s₂ o, Steps p.tables e below S s₂ ∧ s₂.status = .running ∧ Ended s₂ below o ∧ ∃ v L, o = .returned v ∧ Q v s₂.heap L ∧ FrameEnd s o s₂ L C N
variable {C N : Nat} {Q : Option Value → Heap → List Loc → Prop} {S S' : State}
theorem Run.go (k : ∀ t, Steps p.tables e below S' t → Steps p.tables e below S t) (r : Run p e below s C N Q S') : Run p e below s C N Q S := by
  obtain ⟨s₂, o, h1, r⟩ := r
  exact ⟨s₂, o, k _ h1, r⟩
theorem Run.tr (k : Steps p.tables e below S S') (r : Run p e below s C N Q S') : Run p e below s C N Q S := by
  obtain ⟨s₂, o, h1, r⟩ := r
  exact ⟨s₂, o, k.trans h1, r⟩
theorem Run.retI (X : Stand p l e R s m args below meth c T locs cells slots) (hx : p.tables.exec = Jvm.exec) {pc : Nat} {Ls : Array Slot} {z : Int32} {rest : List Value} (hret : meth.sig.returnType = some .int) (hlk : meth.locks = false) (hd : decode c.code pc = .ok (.ireturn, 1)) (hc : cells ≤ C) (hn : slots ≤ N)
    (hQ : Q (some (.int z)) T.heap locs) : Run p e below s C N Q (T.setTop (mkF m pc Ls (.int z :: rest))) := by
  obtain ⟨fs, hr, hrun, hended, hW, hsame⟩ := X.leave (v := some (.int z)) (fun q => by rw [hret] at q; cases q)
  refine ⟨_, _, ?_, hrun, hended, _, _, rfl, hQ, ⟨_, rfl⟩, hW, hsame.mono hc hn⟩
  have hm' : T.vm.method? m = some meth := X.method'
  have hn : narrow .int (.int z) = .int z := rfl
  show Steps p.tables e below (T.setTop { method := m, pc := pc, locals := Ls, stack := _ :: rest, locked := none }) _
  jvm_step X.here [X.here.top, hx, hd, hm', hret, hn]
  first | (intro acts; rw [hr _ acts rfl rfl rfl]) | rw [hr _ _ rfl rfl rfl]
  exact Steps.refl _
theorem Run.retN (X : Stand p l e R s m args below meth c T locs cells slots) (hx : p.tables.exec = Jvm.exec) {pc : Nat} {Ls : Array Slot} {z y : Int32} {t : FieldType} {rest : List Value} (hret : meth.sig.returnType = some t) (ht : t = .boolean ∨ t = .byte ∨ t = .char ∨ t = .short) (hy : nar t z = y) (hlk : meth.locks = false) (hd : decode c.code pc = .ok (.ireturn, 1)) (hc : cells ≤ C) (hn : slots ≤ N)
    (hQ : Q (some (.int y)) T.heap locs) : Run p e below s C N Q (T.setTop (mkF m pc Ls (.int z :: rest))) := by
  subst hy
  obtain ⟨fs, hr, hrun, hended, hW, hsame⟩ := X.leave (v := some (.int (nar t z))) (fun q => by rw [hret] at q; cases q)
  exact ⟨_, _, Jvm.RoadKit.retN X hx hret ht hd hr, hrun, hended, _, _, rfl, hQ, ⟨_, rfl⟩, hW, hsame.mono hc hn⟩
theorem Run.retJ (X : Stand p l e R s m args below meth c T locs cells slots) (hx : p.tables.exec = Jvm.exec) {pc : Nat} {Ls : Array Slot} {z : Int64} {rest : List Value} (hret : meth.sig.returnType = some .long) (hlk : meth.locks = false) (hd : decode c.code pc = .ok (.lreturn, 1)) (hc : cells ≤ C) (hn : slots ≤ N)
    (hQ : Q (some (.long z)) T.heap locs) : Run p e below s C N Q (T.setTop (mkF m pc Ls (.long z :: rest))) := by
  obtain ⟨fs, hr, hrun, hended, hW, hsame⟩ := X.leave (v := some (.long z)) (fun q => by rw [hret] at q; cases q)
  refine ⟨_, _, ?_, hrun, hended, _, _, rfl, hQ, ⟨_, rfl⟩, hW, hsame.mono hc hn⟩
  have hm' : T.vm.method? m = some meth := X.method'
  show Steps p.tables e below (T.setTop { method := m, pc := pc, locals := Ls, stack := _ :: rest, locked := none }) _
  jvm_step X.here [X.here.top, hx, hd, hm', hret, narrow]
  first | (intro acts; rw [hr _ acts rfl rfl rfl]) | rw [hr _ _ rfl rfl rfl]
  exact Steps.refl _
theorem Run.retA (X : Stand p l e R s m args below meth c T locs cells slots) (hx : p.tables.exec = Jvm.exec) {pc : Nat} {Ls : Array Slot} {w : Value} {t : FieldType} {rest : List Value} (hw : w.isRef = true) (hret : meth.sig.returnType = some t) (ht : t.isReference = true) (hlk : meth.locks = false) (hd : decode c.code pc = .ok (.areturn, 1)) (hc : cells ≤ C) (hn : slots ≤ N)
    (hQ : Q (some w) T.heap locs) : Run p e below s C N Q (T.setTop (mkF m pc Ls (w :: rest))) := by
  obtain ⟨fs, hr, hrun, hended, hW, hsame⟩ := X.leave (v := some w) (fun q => by rw [hret] at q; cases q)
  refine ⟨_, _, ?_, hrun, hended, _, _, rfl, hQ, ⟨_, rfl⟩, hW, hsame.mono hc hn⟩
  have hm' : T.vm.method? m = some meth := X.method'
  show Steps p.tables e below (T.setTop { method := m, pc := pc, locals := Ls, stack := _ :: rest, locked := none }) _
  rcases ref_cases hw with rfl | ⟨a, rfl⟩
  all_goals
    jvm_step X.here [X.here.top, hx, hd, hm', hret, Value.isRef, ht]
    first | (intro acts; rw [hr _ acts rfl rfl rfl]) | rw [hr _ _ rfl rfl rfl]
    exact Steps.refl _
theorem Run.ret0 (X : Stand p l e R s m args below meth c T locs cells slots) (hx : p.tables.exec = Jvm.exec) {pc : Nat} {Ls : Array Slot} (hret : meth.sig.returnType = none) (hlk : meth.locks = false) (hd : decode c.code pc = .ok (.return_, 1)) (hc : cells ≤ C) (hn : slots ≤ N)
    (hQ : Q none T.heap locs) : Run p e below s C N Q (T.setTop (mkF m pc Ls [])) := by
  obtain ⟨fs, hr, hrun, hended, hW, hsame⟩ := X.leave (v := none) (fun _ => rfl)
  exact ⟨_, _, X.returnOut hx hret hd hr, hrun, hended, _, _, rfl, hQ, ⟨_, rfl⟩, hW, hsame.mono hc hn⟩
theorem Stand_gen {k : Nat} (X : Stand p l e R s m args below meth c T locs cells slots) (F : Fr k locs) : ∃ L, Stand p l e R s m args below meth c T L cells slots ∧ Fr k L := ⟨_, X, F⟩
theorem Sta.keep {C n d : String} {w : Value} {ws : List Addr} (F : Sta Z h C n d w) (K : Keep h h' ws) (q : ∀ x ∈ ws, ∀ c : Cell, h[x]? = some c → c.vm.isStatics = false) : Sta Z h' C n d w := by
  obtain ⟨cf, i, k, f, st, cell, h1, h2, h3, h4, h5, h6, h7⟩ := F
  refine ⟨cf, i, k, f, st, cell, h1, h2, h3, h4, K.2.1 st cell h5 (fun hm => ?_), h6, h7⟩
  rw [q st hm cell h5] at h6; cases h6
theorem Exa.nst {a : Addr} {C : String} (F : Exa Z h a C) : ∀ c : Cell, h[a]? = some c → c.vm.isStatics = false := fun c q => by
  obtain ⟨cell, k, h1, -, -, h4, -⟩ := F
  cases h1.symm.trans q; exact h4
/-- an array of n elements, the i-th is f i -/
def Ary (Z : State) (h : Heap) (a : Addr) (ty : FieldType) (n : Nat) (f : Nat → Value) : Prop := ∃ c : Cell, Arr Z h a c ty ∧ c.slots.size = n ∧ ∀ i, i < n → c.slots[i]? = some (f i)
variable {a b : Addr} {ty : FieldType} {n sl : Nat} {f : Nat → Value} {v : Value} {ws : List Addr}
theorem Ary.lt (F : Ary Z h a ty n f) : a < h.size := by obtain ⟨c, A, -⟩ := F; exact A.lt
theorem Ary.ext (F : Ary Z h a ty n f) (E : Ext h h') : Ary Z h' a ty n f := by obtain ⟨c, A, r⟩ := F; exact ⟨c, A.ext E, r⟩
theorem Ary.other (F : Ary Z h b ty n f) (W : Wr h h' a sl v) (q : b ≠ a) : Ary Z h' b ty n f := by obtain ⟨c, A, r⟩ := F; exact ⟨c, A.other W q, r⟩
theorem Ary.keep (F : Ary Z h a ty n f) (K : Keep h h' ws) (q : a ∉ ws) : Ary Z h' a ty n f := by obtain ⟨c, A, r⟩ := F; exact ⟨c, ⟨K.2.1 a c A.1 q, A.2⟩, r⟩
theorem Ary.ne {C : String} {a0 : Array Value} {k : Nat} (F : Ary Z h a ty n f) (G : Exa Z h b C) (wi : (Jvm.Cond.instantiable C k).before a0 Z = true) : a ≠ b := by
  obtain ⟨c, A, r⟩ := F; exact (ne_arr G wi A).symm
theorem Ary.same (F : Ary Z h a ty n f) (W : Wr h h' a sl v) : Ary Z h' a ty n (fun i => if i = sl then v else f i) := by
  obtain ⟨c, A, hs, hf⟩ := F
  obtain ⟨c1, q1, q2, q3, q4⟩ := W
  obtain rfl := Option.some.inj (q1.symm.trans A.1)
  refine ⟨c1.setSlot sl v, A.same ⟨c1, q1, q2, q3, q4⟩, by simp [Cell.setSlot, hs], fun i hi => ?_⟩
  by_cases e : i = sl
  · subst e; simp [Cell.setSlot, q3]
  · simp only [if_neg e]; rw [← hf i hi]; exact Array.getElem?_setIfInBounds_ne (Ne.symm e)
theorem Ary.nst (F : Ary Z h a ty n f) : ∀ c : Cell, h[a]? = some c → c.vm.isStatics = false := fun c q => by
  obtain ⟨cl, A, -⟩ := F
  cases A.1.symm.trans q; exact A.plain
theorem Ary.congr {g : Nat → Value} (F : Ary Z h a ty n f) (q : ∀ i, i < n → f i = g i) : Ary Z h a ty n g := by
  obtain ⟨c, A, hs, hf⟩ := F; exact ⟨c, A, hs, fun i hi => by rw [hf i hi, q i hi]⟩
theorem Ary.new {k : ClassId} {z : Int32} (A : Arr Z h a (newA k ty z) ty) (q : z.toNatClampNeg = n) : Ary Z h a ty n (fun _ => defaultValue ty) := by
  subst q
  exact ⟨_, A, sz_new _ _ _, fun i hi => by simp [newA, hi]⟩
theorem out_of {j : Int32} {c : Cell} (hs : c.slots.size = n) (h0 : ¬ j < 0) (hj : j.toNatClampNeg < n) : ¬ (j < 0 ∨ c.slots.size ≤ j.toNatClampNeg) := by
  rw [hs]; exact fun q => q.elim h0 (fun q => absurd hj (Nat.not_lt.mpr q))
/-- an array of references: besides, its class is that of arrays over C -/
def ArR (Z : State) (h : Heap) (a : Addr) (C : String) (n : Nat) (f : Nat → Value) : Prop := ∃ c : Cell, Arr Z h a c (.object C) ∧ Ovr Z c.cls C ∧ c.slots.size = n ∧ ∀ i, i < n → c.slots[i]? = some (f i)
variable {K : String}
theorem ArR.lt (F : ArR Z h a K n f) : a < h.size := by obtain ⟨c, A, -⟩ := F; exact A.lt
theorem ArR.ext (F : ArR Z h a K n f) (E : Ext h h') : ArR Z h' a K n f := by obtain ⟨c, A, r⟩ := F; exact ⟨c, A.ext E, r⟩
theorem ArR.other (F : ArR Z h b K n f) (W : Wr h h' a sl v) (q : b ≠ a) : ArR Z h' b K n f := by obtain ⟨c, A, r⟩ := F; exact ⟨c, A.other W q, r⟩
theorem ArR.keep (F : ArR Z h a K n f) (k : Keep h h' ws) (q : a ∉ ws) : ArR Z h' a K n f := by obtain ⟨c, A, r⟩ := F; exact ⟨c, ⟨k.2.1 a c A.1 q, A.2⟩, r⟩
theorem ArR.ary (F : ArR Z h a K n f) : Ary Z h a (.object K) n f := by obtain ⟨c, A, -, r⟩ := F; exact ⟨c, A, r⟩
theorem ArR.same (F : ArR Z h a K n f) (W : Wr h h' a sl v) : ArR Z h' a K n (fun i => if i = sl then v else f i) := by
  obtain ⟨c, A, o, hs, hf⟩ := F
  obtain ⟨c1, q1, q2, q3, q4⟩ := W
  obtain rfl := Option.some.inj (q1.symm.trans A.1)
  refine ⟨c1.setSlot sl v, A.same ⟨c1, q1, q2, q3, q4⟩, o, by simp [Cell.setSlot, hs], fun i hi => ?_⟩
  by_cases e : i = sl
  · subst e; simp [Cell.setSlot, q3]
  · simp only [if_neg e]; rw [← hf i hi]; exact Array.getElem?_setIfInBounds_ne (Ne.symm e)
theorem ArR.new {k : ClassId} {z : Int32} (A : Arr Z h a (newA k (.object K) z) (.object K)) (O : Ovr Z k K) (q : z.toNatClampNeg = n) : ArR Z h a K n (fun _ => .null) := by
  subst q
  exact ⟨_, A, O, sz_new _ _ _, fun i hi => by simp [newA, hi]; rfl⟩
section Arrays
theorem ary_iget (X : Stand p l e R s m args below meth c T locs cells slots) (hx : p.tables.exec = Jvm.exec) (hZ : Z.Warmed39 s.vm) (eT : T.heap = h) (A : Ary Z h a .int n f) {j : Int32} (h0 : ¬ j < 0) (hj : j.toNatClampNeg < n) {g : JFrame} (hg : g.method = m) {rest : List Value} (hs : g.stack = .int j :: .ref a :: rest) (hd : decode c.code g.pc = .ok (.iaload, 1)) {v : Value} (hv : f j.toNatClampNeg = v) (target : State)
    (k : Steps p.tables e below (T.setTop { g with pc := g.pc + 1, stack := v :: rest }) target) : Steps p.tables e below (T.setTop g) target := by
  subst hv; obtain ⟨cl, A, q, F⟩ := A
  exact X.iaload hx (by rw [eT]; exact A.1) (State.isArrayOf_alike hZ.alike A.2.1) A.2.2 (out_of q h0 hj) (F _ hj) hg hs hd target k
theorem ary_lget (X : Stand p l e R s m args below meth c T locs cells slots) (hx : p.tables.exec = Jvm.exec) (hZ : Z.Warmed39 s.vm) (eT : T.heap = h) (A : Ary Z h a .long n f) {j : Int32} (h0 : ¬ j < 0) (hj : j.toNatClampNeg < n) {g : JFrame} (hg : g.method = m) {rest : List Value} (hs : g.stack = .int j :: .ref a :: rest) (hd : decode c.code g.pc = .ok (.laload, 1)) {v : Value} (hv : f j.toNatClampNeg = v) (target : State)
    (k : Steps p.tables e below (T.setTop { g with pc := g.pc + 1, stack := v :: rest }) target) : Steps p.tables e below (T.setTop g) target := by
  subst hv; obtain ⟨cl, A, q, F⟩ := A
  exact X.laload hx (by rw [eT]; exact A.1) (State.isArrayOf_alike hZ.alike A.2.1) A.2.2 (out_of q h0 hj) (F _ hj) hg hs hd target k
theorem ary_bget (X : Stand p l e R s m args below meth c T locs cells slots) (hx : p.tables.exec = Jvm.exec) (hZ : Z.Warmed39 s.vm) (eT : T.heap = h) (A : Ary Z h a .byte n f) {j : Int32} (h0 : ¬ j < 0) (hj : j.toNatClampNeg < n) {g : JFrame} (hg : g.method = m) {rest : List Value} (hs : g.stack = .int j :: .ref a :: rest) (hd : decode c.code g.pc = .ok (.baload, 1)) {v : Value} (hv : f j.toNatClampNeg = v) (target : State)
    (k : Steps p.tables e below (T.setTop { g with pc := g.pc + 1, stack := v :: rest }) target) : Steps p.tables e below (T.setTop g) target := by
  subst hv; obtain ⟨cl, A, q, F⟩ := A
  exact X.baloadBytes hx (by rw [eT]; exact A.1) (State.isArrayOf_alike hZ.alike A.2.1) A.2.2 (out_of q h0 hj) (F _ hj) hg hs hd target k
theorem ary_cget (X : Stand p l e R s m args below meth c T locs cells slots) (hx : p.tables.exec = Jvm.exec) (hZ : Z.Warmed39 s.vm) (eT : T.heap = h) (A : Ary Z h a .char n f) {j : Int32} (h0 : ¬ j < 0) (hj : j.toNatClampNeg < n) {g : JFrame} (hg : g.method = m) {rest : List Value} (hs : g.stack = .int j :: .ref a :: rest) (hd : decode c.code g.pc = .ok (.caload, 1)) {v : Value} (hv : f j.toNatClampNeg = v) (target : State)
    (k : Steps p.tables e below (T.setTop { g with pc := g.pc + 1, stack := v :: rest }) target) : Steps p.tables e below (T.setTop g) target := by
  subst hv; obtain ⟨cl, A, q, F⟩ := A
  exact X.caload hx (by rw [eT]; exact A.1) (State.isArrayOf_alike hZ.alike A.2.1) A.2.2 (out_of q h0 hj) (F _ hj) hg hs hd target k
theorem ary_aget (X : Stand p l e R s m args below meth c T locs cells slots) (hx : p.tables.exec = Jvm.exec) (hZ : Z.Warmed39 s.vm) (eT : T.heap = h) (A : Ary Z h a ty n f) (hr : ty.isReference = true) {j : Int32} (h0 : ¬ j < 0) (hj : j.toNatClampNeg < n) {g : JFrame} (hg : g.method = m) {rest : List Value} (hs : g.stack = .int j :: .ref a :: rest) (hd : decode c.code g.pc = .ok (.aaload, 1)) {v : Value} (hv : f j.toNatClampNeg = v) (target : State)
    (k : Steps p.tables e below (T.setTop { g with pc := g.pc + 1, stack := v :: rest }) target) : Steps p.tables e below (T.setTop g) target := by
  subst hv; obtain ⟨cl, A, q, F⟩ := A
  exact X.aaload hx (by rw [eT]; exact A.1) (State.isArrayOf_alike hZ.alike A.2.1) hr A.2.2 (out_of q h0 hj) (F _ hj) hg hs hd target k
theorem ary_len (X : Stand p l e R s m args below meth c T locs cells slots) (hx : p.tables.exec = Jvm.exec) (hZ : Z.Warmed39 s.vm) (eT : T.heap = h) (A : Ary Z h a ty n f) {g : JFrame} (hg : g.method = m) {rest : List Value} (hs : g.stack = .ref a :: rest) (hd : decode c.code g.pc = .ok (.arraylength, 1)) {z : Int32} (hv : n.toInt32 = z) (target : State)
    (k : Steps p.tables e below (T.setTop { g with pc := g.pc + 1, stack := .int z :: rest }) target) : Steps p.tables e below (T.setTop g) target := by
  subst hv; obtain ⟨cl, A, q, F⟩ := A
  subst q
  exact X.arraylength hx (by rw [eT]; exact A.1) (State.isArrayOf_alike hZ.alike A.2.1) hg hs hd target k
theorem ary_iset (X : Stand p l e R s m args below meth c T locs cells slots) (hx : p.tables.exec = Jvm.exec) (hZ : Z.Warmed39 s.vm) (eT : T.heap = h) (A : Ary Z h a .int n f) {j x : Int32} (h0 : ¬ j < 0) (hj : j.toNatClampNeg < n) {g : JFrame} (hg : g.method = m) {rest : List Value} (hs : g.stack = .int x :: .int j :: .ref a :: rest) (hd : decode c.code g.pc = .ok (.iastore, 1)) :
    ∃ T' h', Stand p l e R s m args below meth c T' (locs ++ [⟨a, j.toNatClampNeg⟩]) cells slots ∧ T'.heap = h' ∧ Wr h h' a j.toNatClampNeg (.int x) ∧ ∀ target, Steps p.tables e below (T'.setTop { g with pc := g.pc + 1, stack := rest }) target → Steps p.tables e below (T.setTop g) target := by
  obtain ⟨cl, A, q, F⟩ := A
  exact stI X hx hZ eT A (out_of q h0 hj) hg hs hd
theorem ary_lset (X : Stand p l e R s m args below meth c T locs cells slots) (hx : p.tables.exec = Jvm.exec) (hZ : Z.Warmed39 s.vm) (eT : T.heap = h) (A : Ary Z h a .long n f) {j : Int32} {x : Int64} (h0 : ¬ j < 0) (hj : j.toNatClampNeg < n) {g : JFrame} (hg : g.method = m) {rest : List Value} (hs : g.stack = .long x :: .int j :: .ref a :: rest) (hd : decode c.code g.pc = .ok (.lastore, 1)) :
    ∃ T' h', Stand p l e R s m args below meth c T' (locs ++ [⟨a, j.toNatClampNeg⟩]) cells slots ∧ T'.heap = h' ∧ Wr h h' a j.toNatClampNeg (.long x) ∧ ∀ target, Steps p.tables e below (T'.setTop { g with pc := g.pc + 1, stack := rest }) target → Steps p.tables e below (T.setTop g) target := by
  obtain ⟨cl, A, q, F⟩ := A
  exact stJ X hx hZ eT A (out_of q h0 hj) hg hs hd
theorem ary_bset (X : Stand p l e R s m args below meth c T locs cells slots) (hx : p.tables.exec = Jvm.exec) (hZ : Z.Warmed39 s.vm) (eT : T.heap = h) (A : Ary Z h a .byte n f) {j x y : Int32} (h0 : ¬ j < 0) (hj : j.toNatClampNeg < n) {g : JFrame} (hg : g.method = m) {rest : List Value} (hs : g.stack = .int x :: .int j :: .ref a :: rest) (hd : decode c.code g.pc = .ok (.bastore, 1)) (hy : x.toInt8.toInt32 = y) :
    ∃ T' h', Stand p l e R s m args below meth c T' (locs ++ [⟨a, j.toNatClampNeg⟩]) cells slots ∧ T'.heap = h' ∧ Wr h h' a j.toNatClampNeg (.int y) ∧ ∀ target, Steps p.tables e below (T'.setTop { g with pc := g.pc + 1, stack := rest }) target → Steps p.tables e below (T.setTop g) target := by
  subst hy; obtain ⟨cl, A, q, F⟩ := A
  exact stB X hx hZ eT A (out_of q h0 hj) hg hs hd
theorem ary_cset (X : Stand p l e R s m args below meth c T locs cells slots) (hx : p.tables.exec = Jvm.exec) (hZ : Z.Warmed39 s.vm) (eT : T.heap = h) (A : Ary Z h a .char n f) {j x y : Int32} (h0 : ¬ j < 0) (hj : j.toNatClampNeg < n) {g : JFrame} (hg : g.method = m) {rest : List Value} (hs : g.stack = .int x :: .int j :: .ref a :: rest) (hd : decode c.code g.pc = .ok (.castore, 1)) (hy : nar .char x = y) :
    ∃ T' h', Stand p l e R s m args below meth c T' (locs ++ [⟨a, j.toNatClampNeg⟩]) cells slots ∧ T'.heap = h' ∧ Wr h h' a j.toNatClampNeg (.int y) ∧ ∀ target, Steps p.tables e below (T'.setTop { g with pc := g.pc + 1, stack := rest }) target → Steps p.tables e below (T.setTop g) target := by
  subst hy; obtain ⟨cl, A, q, F⟩ := A
  exact stC X hx hZ eT A (out_of q h0 hj) hg hs hd
theorem arr_set (X : Stand p l e R s m args below meth c T locs cells slots) (hx : p.tables.exec = Jvm.exec) (hZ : Z.Warmed39 s.vm) (eT : T.heap = h) (A : ArR Z h a K n f) {j : Int32} {y : Addr} (I : Ins Z h y K true) (h0 : ¬ j < 0) (hj : j.toNatClampNeg < n) {g : JFrame} (hg : g.method = m) {rest : List Value} (hs : g.stack = .ref y :: .int j :: .ref a :: rest) (hd : decode c.code g.pc = .ok (.aastore, 1)) :
    ∃ T' h', Stand p l e R s m args below meth c T' (locs ++ [⟨a, j.toNatClampNeg⟩]) cells slots ∧ T'.heap = h' ∧ Wr h h' a j.toNatClampNeg (.ref y) ∧ ∀ target, Steps p.tables e below (T'.setTop { g with pc := g.pc + 1, stack := rest }) target → Steps p.tables e below (T.setTop g) target := by
  obtain ⟨cl, A, O, q, F⟩ := A
  exact stR X hx hZ eT A (out_of q h0 hj) rfl (Sto.of A O I) hg hs hd
end Arrays
theorem nar_ite (P : Prop) [Decidable P] : nar .boolean (if P then (1 : Int32) else 0) = if P then 1 else 0 := by by_cases q : P <;> simp [q] <;> rfl
theorem cat_ref {w : Value} (q : w.isRef = true) : w.category = 1 := by cases w <;> first | rfl | (simp [Value.isRef] at q)
theorem upd_hit {g f : Nat → Value} {k : Nat} {w : Value} (q : g = fun i => if i = k then w else f i) : g k = w := by rw [q]; exact if_pos rfl
theorem upd_miss {g f : Nat → Value} {k j : Nat} {w u : Value} (q : g = fun i => if i = k then w else f i) (ne : ¬ j = k) (r : f j = u) : g j = u := by rw [q]; exact (if_neg ne).trans r
theorem upd_c {g : Nat → Value} {j : Nat} {w : Value} (q : g = fun _ => w) : g j = w := by rw [q]
theorem b_idem (x : Int32) : x.toInt8.toInt32.toInt8.toInt32 = x.toInt8.toInt32 := by rw [Int8.toInt8_toInt32]
theorem isI_c (x : Int32) : ∀ n : Nat, ∃ y, (fun _ => Value.int x) n = Value.int y := fun _ => ⟨x, rfl⟩
theorem isI_s {f : Nat → Value} (q : ∀ n, ∃ y, f n = Value.int y) (k : Nat) (x : Int32) : ∀ n, ∃ y, (fun i => if i = k then Value.int x else f i) n = Value.int y := fun n => by
  by_cases e : n = k
  · exact ⟨x, if_pos e⟩
  · obtain ⟨y, hy⟩ := q n
    exact ⟨y, (if_neg e).trans hy⟩
end Own
theorem own_notinst {Z : State} {a0 : Array Value} {C S O K : String} {n : Nat} (w1 : (Jvm.Cond.superclass C S).before a0 Z = true) (w2 : (Jvm.Cond.superclass S O).before a0 Z = true) (w3 : (Jvm.Cond.noSuperclass O).before a0 Z = true) (wi : (Jvm.Cond.instantiable K n).before a0 Z = true) (h1 : C ≠ K) (h2 : S ≠ K) (h3 : O ≠ K) :
    ∃ c t, Z.vm.findClass C = some c ∧ Z.vm.findClass K = some t ∧ Z.vm.assignable c t = false := by
  obtain ⟨t, kt, g0, g2, g5, g7, -⟩ := Cond.instantiable_spec wi
  have r : NS Z O K := by
    obtain ⟨c, k, q1, q2, q3, -, -⟩ := Cond.noSuperclass_spec w3
    have ne := ids_ne q1 g0 h3
    refine ⟨c, t, q1, g0, fun fuel => ?_⟩
    cases fuel with
    | zero => rfl
    | succ f => simp [Vm.isSubclassAux, ne, q2, q3]
  obtain ⟨c, t', h0, g0', n3⟩ := NS.step w1 (NS.step w2 r h2) h1
  cases g0.symm.trans g0'
  obtain ⟨p, k, kp, q1, q2, q3, q4, q5, -, q7⟩ := Cond.superclass_spec h0 w1
  have ne := ids_ne h0 g0 h1
  refine ⟨c, t, h0, g0, ?_⟩
  show Z.vm.assignableAux (255 + 1) c t = false
  have g7' : kt.isInterface = false := by cases hk : kt.isInterface <;> simp_all
  simp [Vm.assignableAux, ne, q2, g2, q5, g5, g7', Vm.isSubclass, n3]
theorem d2_0 : decode jdk_30_method_1_code 0 = .ok (.aload_n 0, 1) := by decide +kernel
theorem d2_1 : decode jdk_30_method_1_code 1 = .ok (.invokespecial 1, 3) := by decide +kernel
theorem d2_4 : decode jdk_30_method_1_code 4 = .ok (.return_, 1) := by decide +kernel
def Q_rm2 (Z : State) (a1 : Addr) (h0 : Heap) (n0 : Nat) (v : Option Value) (h : Heap) (L : List Loc) : Prop := v = none ∧ Fr n0 L ∧ h = h0
theorem ef_rm2 (m : MethodId) (x0 : Addr) : entryFrame m #[(.ref x0)] 1 = mkF m 0 #[.val (.ref x0)] [] := by first | (simp [entryFrame, mkF, argsToLocals, Value.category]; done) | rfl
theorem pn_0 : plainName "java/lang/Record" = true := by first | (simp [plainName, overriddenIn]; done) | decide +kernel
set_option maxRecDepth 65536 in
set_option maxHeartbeats 40000000 in
theorem rm2 (l : Launch) (Z : State) (a0 : Array Value) (hw : ∀ d ∈ tables_1, d.before a0 Z = true) (ws : List Jvm.Cond) (a1 : Addr) (h0 : Heap) (n0 : Nat) (Z0 : n0 ≤ h0.size)  :
    MetFree l (⟨"java/lang/Record", "<init>", "()V"⟩ : MethodName) (head1 (Jvm.Cond.code (⟨"java/lang/Record", "<init>", "()V"⟩ : MethodName) jdk_30_method_1_code 1 none :: ws) ({ frames := 1, cells := 0, slots := 0, locals := 12 } : Room)) (fun a U => a = #[(.ref a1)] ∧ Z.Warmed39 U.vm ∧ U.heap = h0) (fun _ _ _ _ _ => True) (fun _ U o U' => ∃ v L, o = .returned v ∧ Q_rm2 Z a1 h0 n0 v U'.heap L ∧ FrameEnd U o U' L ({ frames := 1, cells := 0, slots := 0, locals := 12 } : Room).cells ({ frames := 1, cells := 0, slots := 0, locals := 12 } : Room).slots) := by
  refine MetFree.of_bodySF (plainFor_of_name pn_0) hisR ?_
  intro p e s m args below meth c s₁ Bd hml0 hP hK
  obtain ⟨rfl, hZ, hh⟩ := hP
  have hx := Bd.exec
  have hby := Bd.bytes
  have hml : c.maxLocals = 1 := hml0
  have hown : s.vm.findClass "java/lang/Record" = some m.cls := findClass_of_methodNamed Bd.named
  have hnm := (name_of_methodNamed Bd.named Bd.method).1
  have X0 : Stand p l e ({ frames := 1, cells := 0, slots := 0, locals := 12 } : Room) s m #[(.ref a1)] below meth c s₁ [] 0 0 := Stand.of_body Bd
  have e0 : s₁.heap = h0 := by rw [← hh, Bd.state]; rfl
  have N0 := Fr.nil n0
  show Run p e below s 0 0 (Q_rm2 Z a1 h0 n0) (s₁.setTop (entryFrame m #[(.ref a1)] 1))
  refine Run.go (fun _ k => castTop (ef_rm2 m a1) k) ?_
  show Run p e below s 0 0 (Q_rm2 Z a1 h0 n0) (s₁.setTop (mkF m 0 #[.val (.ref a1)] []))
  refine Run.go (fun _ k => XS.aloadN X0.here hx rfl (hb hby d2_0) rfl rfl k) ?_
  show Run p e below s 0 0 (Q_rm2 Z a1 h0 n0) (s₁.setTop (mkF m 1 #[.val (.ref a1)] [(.ref a1)]))
  obtain ⟨T2, X2, e2, st2⟩ := initO X0 hx hZ hown (hw _ (List.mem_of_getElem? (i := 12) rfl)) (hw _ (List.mem_of_getElem? (i := 13) rfl)) (hw _ (List.mem_of_getElem? (i := 14) rfl)) e0 (g := (mkF m 1 #[.val (.ref a1)] [(.ref a1)])) rfl (by rw [hml]; rfl) rfl (hb hby d2_1) (by decide) (W := 0) (by show 2 * 0 + _ ≤ _; exact Nat.le_of_eq rfl) (by decide)
  refine Run.go st2 ?_
  show Run p e below s 0 0 (Q_rm2 Z a1 h0 n0) (T2.setTop (mkF m 4 #[.val (.ref a1)] []))
  refine Run.ret0 X2 hx Bd.returns Bd.notSynchronized (hb hby d2_4) (by decide) (by decide) ?_
  show Q_rm2 Z a1 h0 n0 _ T2.heap _
  exact ⟨rfl, N0, e2⟩
theorem d1_0 : decode prog_7_method_1_code 0 = .ok (.aload_n 0, 1) := by decide +kernel
theorem d1_1 : decode prog_7_method_1_code 1 = .ok (.invokespecial 1, 3) := by decide +kernel
theorem pd_0 : parseMethodDescriptor "()V" = some ⟨[], none⟩ := by decide +kernel
theorem d1_4 : decode prog_7_method_1_code 4 = .ok (.iload_n 2, 1) := by decide +kernel
theorem d1_5 : decode prog_7_method_1_code 5 = .ok (.ifCond .lt 9, 3) := by decide +kernel
theorem d1_8 : decode prog_7_method_1_code 8 = .ok (.iload_n 2, 1) := by decide +kernel
theorem d1_9 : decode prog_7_method_1_code 9 = .ok (.ldc 7, 2) := by decide +kernel
theorem d1_11 : decode prog_7_method_1_code 11 = .ok (.if_icmp .le 17, 3) := by decide +kernel
theorem d1_28 : decode prog_7_method_1_code 28 = .ok (.aload_n 0, 1) := by decide +kernel
theorem d1_29 : decode prog_7_method_1_code 29 = .ok (.iload_n 1, 1) := by decide +kernel
theorem d1_30 : decode prog_7_method_1_code 30 = .ok (.putfield 17, 3) := by decide +kernel
theorem d1_33 : decode prog_7_method_1_code 33 = .ok (.aload_n 0, 1) := by decide +kernel
theorem d1_34 : decode prog_7_method_1_code 34 = .ok (.iload_n 2, 1) := by decide +kernel
theorem d1_35 : decode prog_7_method_1_code 35 = .ok (.putfield 23, 3) := by decide +kernel
theorem d1_38 : decode prog_7_method_1_code 38 = .ok (.return_, 1) := by decide +kernel
def Q_rm1 (Z : State) (a1 : Addr) (p2 : Int32) (p3 : Int32) (u_address_a1 : Value) (u_port_a1 : Value) (h0 : Heap) (n0 : Nat) (v : Option Value) (h : Heap) (L : List Loc) : Prop := v = none ∧ Fr n0 L ∧ Keep h0 h [a1] ∧ Exa Z h a1 "murmuration/Contact" ∧ Fld Z h a1 "murmuration/Contact" "address" "I" (.int p2) ∧ Fld Z h a1 "murmuration/Contact" "port" "I" (.int p3)
theorem ef_rm1 (m : MethodId) (x0 : Addr) (x1 : Int32) (x2 : Int32) : entryFrame m #[(.ref x0), (.int x1), (.int x2)] 3 = mkF m 0 #[.val (.ref x0), .val (.int x1), .val (.int x2)] [] := by first | (simp [entryFrame, mkF, argsToLocals, Value.category]; done) | rfl
theorem pn_1 : plainName "murmuration/Contact" = true := by first | (simp [plainName, overriddenIn]; done) | decide +kernel
set_option maxRecDepth 65536 in
set_option maxHeartbeats 40000000 in
theorem rm1 (l : Launch) (Z : State) (a0 : Array Value) (hw : ∀ d ∈ tables_1, d.before a0 Z = true) (ws : List Jvm.Cond) (a1 : Addr) (p2 : Int32) (p3 : Int32) (u_address_a1 : Value) (u_port_a1 : Value) (h0 : Heap) (n0 : Nat) (Z0 : n0 ≤ h0.size) (hc5 : ¬ (p3 < (0 : Int32))) (hc11 : ¬ ((65535 : Int32) < p3)) (E_a1 : Exa Z h0 a1 "murmuration/Contact") (F_address_a1 : Fld Z h0 a1 "murmuration/Contact" "address" "I" u_address_a1) (g_a1 : n0 ≤ a1) (F_port_a1 : Fld Z h0 a1 "murmuration/Contact" "port" "I" u_port_a1) :
    MetFree l (⟨"murmuration/Contact", "<init>", "(II)V"⟩ : MethodName) (head1 (Jvm.Cond.code (⟨"murmuration/Contact", "<init>", "(II)V"⟩ : MethodName) prog_7_method_1_code 3 none :: ws) ({ frames := 2, cells := 0, slots := 0, locals := 24 } : Room)) (fun a U => a = #[(.ref a1), (.int p2), (.int p3)] ∧ Z.Warmed39 U.vm ∧ U.heap = h0) (fun _ _ _ _ _ => True) (fun _ U o U' => ∃ v L, o = .returned v ∧ Q_rm1 Z a1 p2 p3 u_address_a1 u_port_a1 h0 n0 v U'.heap L ∧ FrameEnd U o U' L ({ frames := 2, cells := 0, slots := 0, locals := 24 } : Room).cells ({ frames := 2, cells := 0, slots := 0, locals := 24 } : Room).slots) := by
  refine MetFree.of_bodySF (plainFor_of_name pn_1) hisR ?_
  intro p e s m args below meth c s₁ Bd hml0 hP hK
  obtain ⟨rfl, hZ, hh⟩ := hP
  have hx := Bd.exec
  have hby := Bd.bytes
  have hml : c.maxLocals = 3 := hml0
  have hown : s.vm.findClass "murmuration/Contact" = some m.cls := findClass_of_methodNamed Bd.named
  have hnm := (name_of_methodNamed Bd.named Bd.method).1
  have X0 : Stand p l e ({ frames := 2, cells := 0, slots := 0, locals := 24 } : Room) s m #[(.ref a1), (.int p2), (.int p3)] below meth c s₁ [] 0 0 := Stand.of_body Bd
  have e0 : s₁.heap = h0 := by rw [← hh, Bd.state]; rfl
  have N0 := Fr.nil n0
  show Run p e below s 0 0 (Q_rm1 Z a1 p2 p3 u_address_a1 u_port_a1 h0 n0) (s₁.setTop (entryFrame m #[(.ref a1), (.int p2), (.int p3)] 3))
  refine Run.go (fun _ k => castTop (ef_rm1 m a1 p2 p3) k) ?_
  show Run p e below s 0 0 (Q_rm1 Z a1 p2 p3 u_address_a1 u_port_a1 h0 n0) (s₁.setTop (mkF m 0 #[.val (.ref a1), .val (.int p2), .val (.int p3)] []))
  refine Run.go (fun _ k => XS.aloadN X0.here hx rfl (hb hby d1_0) rfl rfl k) ?_
  show Run p e below s 0 0 (Q_rm1 Z a1 p2 p3 u_address_a1 u_port_a1 h0 n0) (s₁.setTop (mkF m 1 #[.val (.ref a1), .val (.int p2), .val (.int p3)] [(.ref a1)]))
  obtain ⟨_, _, ⟨T4, L4, k4, n4⟩, -, X4, ⟨Lc4, hQ4, l4, y4, z4⟩, st4⟩ := X0.specialBack hx (y := (⟨"java/lang/Record", "<init>", "()V"⟩ : MethodName)) rfl hown (mvT hZ (hw _ (List.mem_of_getElem? (i := 7) rfl))) (mvT hZ (hw _ (List.mem_of_getElem? (i := 8) rfl))) (mvT hZ (hw _ (List.mem_of_getElem? (i := 11) rfl))) (by decide) (backOf (W := 0) (rm2 l Z a0 hw [] a1 h0 n0 Z0 ) hZ (hw _ (List.mem_of_getElem? (i := 11) rfl)) (hw _ (List.mem_of_getElem? (i := 10) rfl)) (by decide) (by decide)) (g := (mkF m 1 #[.val (.ref a1), .val (.int p2), .val (.int p3)] [(.ref a1)])) rfl (by rw [hml]; rfl) (Steps.refl _) (a := a1) (argsL := []) (rest := []) (lenOf pd_0 rfl) rfl (by show 2 * 0 + _ ≤ _; exact Nat.le_of_eq rfl) (hb hby d1_1) (fun _ _ => ⟨rfl, e0, (by decide : 0 + 0 ≤ _), (by decide : 0 + 0 ≤ _)⟩)
  dsimp only [Pt.U, Pt.locs, Pt.cells, Pt.slots] at X4 l4 y4 z4 st4 hQ4
  subst l4 y4 z4
  obtain ⟨rfl, N4q, e4q⟩ := hQ4
  have N4 := Fr.app N0 N4q
  obtain ⟨Lg4, Xg4, Ng4⟩ := Stand_gen X4 N4
  refine Run.tr st4 ?_
  show Run p e below s 0 0 (Q_rm1 Z a1 p2 p3 u_address_a1 u_port_a1 h0 n0) (T4.setTop (mkF m 4 #[.val (.ref a1), .val (.int p2), .val (.int p3)] []))
  refine Run.go (fun _ k => XS.iloadN Xg4.here hx rfl (hb hby d1_4) rfl  k) ?_
  show Run p e below s 0 0 (Q_rm1 Z a1 p2 p3 u_address_a1 u_port_a1 h0 n0) (T4.setTop (mkF m 5 #[.val (.ref a1), .val (.int p2), .val (.int p3)] [(.int p3)]))
  refine Run.go (fun _ k => XS.ifNo Xg4.here hx rfl (hb hby d1_5) rfl ((if0 _ _).trans (flt hc5).1) k) ?_
  show Run p e below s 0 0 (Q_rm1 Z a1 p2 p3 u_address_a1 u_port_a1 h0 n0) (T4.setTop (mkF m 8 #[.val (.ref a1), .val (.int p2), .val (.int p3)] []))
  refine Run.go (fun _ k => XS.iloadN Xg4.here hx rfl (hb hby d1_8) rfl  k) ?_
  show Run p e below s 0 0 (Q_rm1 Z a1 p2 p3 u_address_a1 u_port_a1 h0 n0) (T4.setTop (mkF m 9 #[.val (.ref a1), .val (.int p2), .val (.int p3)] [(.int p3)]))
  refine Run.go (fun _ k => Xg4.ldcInt hx hown (mvT hZ (hw _ (List.mem_of_getElem? (i := 15) rfl))) (g := (mkF m 9 #[.val (.ref a1), .val (.int p2), .val (.int p3)] [(.int p3)])) rfl (hb hby d1_9) _ k) ?_
  show Run p e below s 0 0 (Q_rm1 Z a1 p2 p3 u_address_a1 u_port_a1 h0 n0) (T4.setTop (mkF m 11 #[.val (.ref a1), .val (.int p2), .val (.int p3)] [(.int (65535 : Int32)), (.int p3)]))
  refine Run.go (fun _ k => XS.icmpYes Xg4.here hx rfl (pc0 := 11) (pc' := 28) rfl (hb hby d1_11) rfl (flt hc11).2.2.2 (by decide) (by decide) k) ?_
  show Run p e below s 0 0 (Q_rm1 Z a1 p2 p3 u_address_a1 u_port_a1 h0 n0) (T4.setTop (mkF m 28 #[.val (.ref a1), .val (.int p2), .val (.int p3)] []))
  refine Run.go (fun _ k => XS.aloadN Xg4.here hx rfl (hb hby d1_28) rfl rfl k) ?_
  show Run p e below s 0 0 (Q_rm1 Z a1 p2 p3 u_address_a1 u_port_a1 h0 n0) (T4.setTop (mkF m 29 #[.val (.ref a1), .val (.int p2), .val (.int p3)] [(.ref a1)]))
  refine Run.go (fun _ k => XS.iloadN Xg4.here hx rfl (hb hby d1_29) rfl  k) ?_
  show Run p e below s 0 0 (Q_rm1 Z a1 p2 p3 u_address_a1 u_port_a1 h0 n0) (T4.setTop (mkF m 30 #[.val (.ref a1), .val (.int p2), .val (.int p3)] [(.int p2), (.ref a1)]))
  obtain ⟨T5, h5, X5, e5, W5, st5⟩ := putF Xg4 hx hZ hown (host := "") (Or.inl (hw _ (List.mem_of_getElem? (i := 16) rfl))) Via.refl e4q F_address_a1 E_a1 (Or.inr ⟨(hw _ (List.mem_of_getElem? (i := 17) rfl)), rfl, hnm⟩) (hw _ (List.mem_of_getElem? (i := 2) rfl)) (ty := .int) (by decide) rfl rfl (g := (mkF m 30 #[.val (.ref a1), .val (.int p2), .val (.int p3)] [(.int p2), (.ref a1)])) rfl rfl (hb hby d1_30)
  have N5 := Fr.snoc X5 Ng4 g_a1
  have Z5 : n0 ≤ h5.size := Nat.le_trans Z0 (Keep.of_wr W5).1
  have K5 : Keep h0 h5 [a1] := (Keep.refl h0 [a1]).wr W5 (Or.inl (List.mem_of_getElem? (i := 0) rfl))
  obtain ⟨Lg5, Xg5, Ng5⟩ := Stand_gen X5 N5
  have fx6 := F_address_a1.same W5
  refine Run.go st5 ?_
  show Run p e below s 0 0 (Q_rm1 Z a1 p2 p3 u_address_a1 u_port_a1 h0 n0) (T5.setTop (mkF m 33 #[.val (.ref a1), .val (.int p2), .val (.int p3)] []))
  refine Run.go (fun _ k => XS.aloadN Xg5.here hx rfl (hb hby d1_33) rfl rfl k) ?_
  show Run p e below s 0 0 (Q_rm1 Z a1 p2 p3 u_address_a1 u_port_a1 h0 n0) (T5.setTop (mkF m 34 #[.val (.ref a1), .val (.int p2), .val (.int p3)] [(.ref a1)]))
  refine Run.go (fun _ k => XS.iloadN Xg5.here hx rfl (hb hby d1_34) rfl  k) ?_
  show Run p e below s 0 0 (Q_rm1 Z a1 p2 p3 u_address_a1 u_port_a1 h0 n0) (T5.setTop (mkF m 35 #[.val (.ref a1), .val (.int p2), .val (.int p3)] [(.int p3), (.ref a1)]))
  have fx7 := (E_a1.wr W5)
  have fx8 := (F_port_a1.other W5 (Or.inr (slot_ne (Or.inr (hw _ (List.mem_of_getElem? (i := 19) rfl))) (Or.inr (hw _ (List.mem_of_getElem? (i := 17) rfl))) (by decide) (t := .int) (t' := .int) (by decide) (by decide))))
  obtain ⟨T9, h9, X9, e9, W9, st9⟩ := putF Xg5 hx hZ hown (host := "") (Or.inl (hw _ (List.mem_of_getElem? (i := 18) rfl))) Via.refl e5 fx8 fx7 (Or.inr ⟨(hw _ (List.mem_of_getElem? (i := 19) rfl)), rfl, hnm⟩) (hw _ (List.mem_of_getElem? (i := 2) rfl)) (ty := .int) (by decide) rfl rfl (g := (mkF m 35 #[.val (.ref a1), .val (.int p2), .val (.int p3)] [(.int p3), (.ref a1)])) rfl rfl (hb hby d1_35)
  have N9 := Fr.snoc X9 Ng5 g_a1
  have Z9 : n0 ≤ h9.size := Nat.le_trans Z5 (Keep.of_wr W9).1
  have K9 : Keep h0 h9 [a1] := K5.wr W9 (Or.inl (List.mem_of_getElem? (i := 0) rfl))
  obtain ⟨Lg9, Xg9, Ng9⟩ := Stand_gen X9 N9
  have fx10 := fx8.same W9
  refine Run.go st9 ?_
  show Run p e below s 0 0 (Q_rm1 Z a1 p2 p3 u_address_a1 u_port_a1 h0 n0) (T9.setTop (mkF m 38 #[.val (.ref a1), .val (.int p2), .val (.int p3)] []))
  refine Run.ret0 Xg9 hx Bd.returns Bd.notSynchronized (hb hby d1_38) (by decide) (by decide) ?_
  show Q_rm1 Z a1 p2 p3 u_address_a1 u_port_a1 h0 n0 _ T9.heap _
  have fx11 := (fx7.wr W9)
  have fx12 := (fx6.other W9 (Or.inr (slot_ne (Or.inr (hw _ (List.mem_of_getElem? (i := 17) rfl))) (Or.inr (hw _ (List.mem_of_getElem? (i := 19) rfl))) (by decide) (t := .int) (t' := .int) (by decide) (by decide))))
  rw [e9]
  exact ⟨rfl, Ng9, K9, fx11, fx12, fx10⟩
theorem d4_0 : decode prog_7_method_9_code 0 = .ok (.aload_n 1, 1) := by decide +kernel
theorem d4_1 : decode prog_7_method_9_code 1 = .ok (.instanceof 18, 3) := by decide +kernel
theorem d4_4 : decode prog_7_method_9_code 4 = .ok (.ifCond .eq 34, 3) := by decide +kernel
theorem d4_38 : decode prog_7_method_9_code 38 = .ok (.iconst 0, 1) := by decide +kernel
theorem d4_39 : decode prog_7_method_9_code 39 = .ok (.ireturn, 1) := by decide +kernel
def Q_rm4n (Z : State) (a1 : Addr) (h0 : Heap) (n0 : Nat) (v : Option Value) (h : Heap) (L : List Loc) : Prop := v = some (.int (0 : Int32)) ∧ Fr n0 L ∧ h = h0
theorem ef_rm4n (m : MethodId) (x0 : Addr) : entryFrame m #[(.ref x0), .null] 3 = mkF m 0 #[.val (.ref x0), .val .null, .unset] [] := by first | (simp [entryFrame, mkF, argsToLocals, Value.category]; done) | rfl
set_option maxRecDepth 65536 in
set_option maxHeartbeats 40000000 in
theorem rm4n (l : Launch) (Z : State) (a0 : Array Value) (hw : ∀ d ∈ tables_1, d.before a0 Z = true) (ws : List Jvm.Cond) (a1 : Addr) (h0 : Heap) (n0 : Nat) (Z0 : n0 ≤ h0.size)  :
    MetFree l (⟨"murmuration/Contact", "equals", "(Ljava/lang/Object;)Z"⟩ : MethodName) (head1 (Jvm.Cond.code (⟨"murmuration/Contact", "equals", "(Ljava/lang/Object;)Z"⟩ : MethodName) prog_7_method_9_code 3 (some .boolean) :: ws) ({ frames := 0, cells := 0, slots := 0, locals := 0 } : Room)) (fun a U => a = #[(.ref a1), .null] ∧ Z.Warmed39 U.vm ∧ U.heap = h0) (fun _ _ _ _ _ => True) (fun _ U o U' => ∃ v L, o = .returned v ∧ Q_rm4n Z a1 h0 n0 v U'.heap L ∧ FrameEnd U o U' L ({ frames := 0, cells := 0, slots := 0, locals := 0 } : Room).cells ({ frames := 0, cells := 0, slots := 0, locals := 0 } : Room).slots) := by
  refine MetFree.of_bodySF (plainFor_of_name pn_1) hisR ?_
  intro p e s m args below meth c s₁ Bd hml0 hP hK
  obtain ⟨rfl, hZ, hh⟩ := hP
  have hx := Bd.exec
  have hby := Bd.bytes
  have hml : c.maxLocals = 3 := hml0
  have hown : s.vm.findClass "murmuration/Contact" = some m.cls := findClass_of_methodNamed Bd.named
  have hnm := (name_of_methodNamed Bd.named Bd.method).1
  have X0 : Stand p l e ({ frames := 0, cells := 0, slots := 0, locals := 0 } : Room) s m #[(.ref a1), .null] below meth c s₁ [] 0 0 := Stand.of_body Bd
  have e0 : s₁.heap = h0 := by rw [← hh, Bd.state]; rfl
  have N0 := Fr.nil n0
  show Run p e below s 0 0 (Q_rm4n Z a1 h0 n0) (s₁.setTop (entryFrame m #[(.ref a1), .null] 3))
  refine Run.go (fun _ k => castTop (ef_rm4n m a1) k) ?_
  show Run p e below s 0 0 (Q_rm4n Z a1 h0 n0) (s₁.setTop (mkF m 0 #[.val (.ref a1), .val .null, .unset] []))
  refine Run.go (fun _ k => XS.aloadN X0.here hx rfl (hb hby d4_0) rfl rfl k) ?_
  show Run p e below s 0 0 (Q_rm4n Z a1 h0 n0) (s₁.setTop (mkF m 1 #[.val (.ref a1), .val .null, .unset] [.null]))
  refine Run.go (fun _ k => X0.instanceofNull hx (g := (mkF m 1 #[.val (.ref a1), .val .null, .unset] [.null])) rfl rfl (hb hby d4_1) _ k) ?_
  show Run p e below s 0 0 (Q_rm4n Z a1 h0 n0) (s₁.setTop (mkF m 4 #[.val (.ref a1), .val .null, .unset] [(.int (0 : Int32))]))
  refine Run.go (fun _ k => XS.ifYes X0.here hx rfl (pc0 := 4) (pc' := 38) rfl (hb hby d4_4) rfl ((if0 _ _).trans (teq (rfl : (0 : Int32) = (0 : Int32))).1) (by decide) (by decide) k) ?_
  show Run p e below s 0 0 (Q_rm4n Z a1 h0 n0) (s₁.setTop (mkF m 38 #[.val (.ref a1), .val .null, .unset] []))
  refine Run.go (fun _ k => XS.iconst X0.here hx rfl (hb hby d4_38) k) ?_
  show Run p e below s 0 0 (Q_rm4n Z a1 h0 n0) (s₁.setTop (mkF m 39 #[.val (.ref a1), .val .null, .unset] [(.int (0 : Int32))]))
  refine Run.retN (y := (0 : Int32)) X0 hx (t := .boolean) Bd.returns (by simp) rfl Bd.notSynchronized (hb hby d4_39) (by decide) (by decide) ?_
  show Q_rm4n Z a1 h0 n0 _ s₁.heap _
  exact ⟨rfl, N0, e0⟩
def Q_rm4i (Z : State) (a1 : Addr) (a2 : Addr) (h0 : Heap) (n0 : Nat) (v : Option Value) (h : Heap) (L : List Loc) : Prop := v = some (.int (0 : Int32)) ∧ Fr n0 L ∧ h = h0
theorem ef_rm4i (m : MethodId) (x0 : Addr) (x1 : Addr) : entryFrame m #[(.ref x0), (.ref x1)] 3 = mkF m 0 #[.val (.ref x0), .val (.ref x1), .unset] [] := by first | (simp [entryFrame, mkF, argsToLocals, Value.category]; done) | rfl
set_option maxRecDepth 65536 in
set_option maxHeartbeats 40000000 in
theorem rm4i (l : Launch) (Z : State) (a0 : Array Value) (hw : ∀ d ∈ tables_1, d.before a0 Z = true) (ws : List Jvm.Cond) (a1 : Addr) (a2 : Addr) (h0 : Heap) (n0 : Nat) (Z0 : n0 ≤ h0.size) (E_a2 : Exa Z h0 a2 "java/lang/Integer") :
    MetFree l (⟨"murmuration/Contact", "equals", "(Ljava/lang/Object;)Z"⟩ : MethodName) (head1 (Jvm.Cond.code (⟨"murmuration/Contact", "equals", "(Ljava/lang/Object;)Z"⟩ : MethodName) prog_7_method_9_code 3 (some .boolean) :: ws) ({ frames := 0, cells := 0, slots := 0, locals := 0 } : Room)) (fun a U => a = #[(.ref a1), (.ref a2)] ∧ Z.Warmed39 U.vm ∧ U.heap = h0) (fun _ _ _ _ _ => True) (fun _ U o U' => ∃ v L, o = .returned v ∧ Q_rm4i Z a1 a2 h0 n0 v U'.heap L ∧ FrameEnd U o U' L ({ frames := 0, cells := 0, slots := 0, locals := 0 } : Room).cells ({ frames := 0, cells := 0, slots := 0, locals := 0 } : Room).slots) := by
  refine MetFree.of_bodySF (plainFor_of_name pn_1) hisR ?_
  intro p e s m args below meth c s₁ Bd hml0 hP hK
  obtain ⟨rfl, hZ, hh⟩ := hP
  have hx := Bd.exec
  have hby := Bd.bytes
  have hml : c.maxLocals = 3 := hml0
  have hown : s.vm.findClass "murmuration/Contact" = some m.cls := findClass_of_methodNamed Bd.named
  have hnm := (name_of_methodNamed Bd.named Bd.method).1
  have X0 : Stand p l e ({ frames := 0, cells := 0, slots := 0, locals := 0 } : Room) s m #[(.ref a1), (.ref a2)] below meth c s₁ [] 0 0 := Stand.of_body Bd
  have e0 : s₁.heap = h0 := by rw [← hh, Bd.state]; rfl
  have N0 := Fr.nil n0
  show Run p e below s 0 0 (Q_rm4i Z a1 a2 h0 n0) (s₁.setTop (entryFrame m #[(.ref a1), (.ref a2)] 3))
  refine Run.go (fun _ k => castTop (ef_rm4i m a1 a2) k) ?_
  show Run p e below s 0 0 (Q_rm4i Z a1 a2 h0 n0) (s₁.setTop (mkF m 0 #[.val (.ref a1), .val (.ref a2), .unset] []))
  refine Run.go (fun _ k => XS.aloadN X0.here hx rfl (hb hby d4_0) rfl rfl k) ?_
  show Run p e below s 0 0 (Q_rm4i Z a1 a2 h0 n0) (s₁.setTop (mkF m 1 #[.val (.ref a1), .val (.ref a2), .unset] [(.ref a2)]))
  obtain ⟨T3, X3, e3, st3⟩ := instNo X0 hx hZ hown (hw _ (List.mem_of_getElem? (i := 25) rfl)) e0 E_a2 (own_notinst (hw _ (List.mem_of_getElem? (i := 48) rfl)) (hw _ (List.mem_of_getElem? (i := 49) rfl)) (hw _ (List.mem_of_getElem? (i := 50) rfl)) (hw _ (List.mem_of_getElem? (i := 2) rfl)) (by decide) (by decide) (by decide)) (g := (mkF m 1 #[.val (.ref a1), .val (.ref a2), .unset] [(.ref a2)])) rfl rfl (hb hby d4_1)
  refine Run.go st3 ?_
  show Run p e below s 0 0 (Q_rm4i Z a1 a2 h0 n0) (T3.setTop (mkF m 4 #[.val (.ref a1), .val (.ref a2), .unset] [(.int (0 : Int32))]))
  refine Run.go (fun _ k => XS.ifYes X3.here hx rfl (pc0 := 4) (pc' := 38) rfl (hb hby d4_4) rfl ((if0 _ _).trans (teq (rfl : (0 : Int32) = (0 : Int32))).1) (by decide) (by decide) k) ?_
  show Run p e below s 0 0 (Q_rm4i Z a1 a2 h0 n0) (T3.setTop (mkF m 38 #[.val (.ref a1), .val (.ref a2), .unset] []))
  refine Run.go (fun _ k => XS.iconst X3.here hx rfl (hb hby d4_38) k) ?_
  show Run p e below s 0 0 (Q_rm4i Z a1 a2 h0 n0) (T3.setTop (mkF m 39 #[.val (.ref a1), .val (.ref a2), .unset] [(.int (0 : Int32))]))
  refine Run.retN (y := (0 : Int32)) X3 hx (t := .boolean) Bd.returns (by simp) rfl Bd.notSynchronized (hb hby d4_39) (by decide) (by decide) ?_
  show Q_rm4i Z a1 a2 h0 n0 _ T3.heap _
  exact ⟨rfl, N0, e3⟩
theorem d4_7 : decode prog_7_method_9_code 7 = .ok (.aload_n 1, 1) := by decide +kernel
theorem d4_8 : decode prog_7_method_9_code 8 = .ok (.checkcast 18, 3) := by decide +kernel
theorem d4_11 : decode prog_7_method_9_code 11 = .ok (.astore_n 2, 1) := by decide +kernel
theorem d4_12 : decode prog_7_method_9_code 12 = .ok (.aload_n 2, 1) := by decide +kernel
theorem d4_13 : decode prog_7_method_9_code 13 = .ok (.getfield 17, 3) := by decide +kernel
theorem d4_16 : decode prog_7_method_9_code 16 = .ok (.aload_n 0, 1) := by decide +kernel
theorem d4_17 : decode prog_7_method_9_code 17 = .ok (.getfield 17, 3) := by decide +kernel
theorem d4_20 : decode prog_7_method_9_code 20 = .ok (.if_icmp .ne 18, 3) := by decide +kernel
theorem d4_23 : decode prog_7_method_9_code 23 = .ok (.aload_n 2, 1) := by decide +kernel
theorem d4_24 : decode prog_7_method_9_code 24 = .ok (.getfield 23, 3) := by decide +kernel
theorem d4_27 : decode prog_7_method_9_code 27 = .ok (.aload_n 0, 1) := by decide +kernel
theorem d4_28 : decode prog_7_method_9_code 28 = .ok (.getfield 23, 3) := by decide +kernel
theorem d4_31 : decode prog_7_method_9_code 31 = .ok (.if_icmp .ne 7, 3) := by decide +kernel
theorem d4_34 : decode prog_7_method_9_code 34 = .ok (.iconst 1, 1) := by decide +kernel
theorem d4_35 : decode prog_7_method_9_code 35 = .ok (.goto 4, 3) := by decide +kernel
def Q_rm4s (Z : State) (a1 : Addr) (w3 : Int32) (w6 : Int32) (h0 : Heap) (n0 : Nat) (v : Option Value) (h : Heap) (L : List Loc) : Prop := v = some (.int (1 : Int32)) ∧ Fr n0 L ∧ h = h0
theorem ef_rm4s (m : MethodId) (x0 : Addr) (x1 : Addr) : entryFrame m #[(.ref x1), (.ref x1)] 3 = mkF m 0 #[.val (.ref x1), .val (.ref x1), .unset] [] := by first | (simp [entryFrame, mkF, argsToLocals, Value.category]; done) | rfl
set_option maxRecDepth 65536 in
set_option maxHeartbeats 40000000 in
theorem rm4s (l : Launch) (Z : State) (a0 : Array Value) (hw : ∀ d ∈ tables_1, d.before a0 Z = true) (ws : List Jvm.Cond) (a1 : Addr) (w3 : Int32) (w6 : Int32) (h0 : Heap) (n0 : Nat) (Z0 : n0 ≤ h0.size) (E_a1 : Exa Z h0 a1 "murmuration/Contact") (F_address_a1 : Fld Z h0 a1 "murmuration/Contact" "address" "I" (.int w3)) (F_port_a1 : Fld Z h0 a1 "murmuration/Contact" "port" "I" (.int w6)) :
    MetFree l (⟨"murmuration/Contact", "equals", "(Ljava/lang/Object;)Z"⟩ : MethodName) (head1 (Jvm.Cond.code (⟨"murmuration/Contact", "equals", "(Ljava/lang/Object;)Z"⟩ : MethodName) prog_7_method_9_code 3 (some .boolean) :: ws) ({ frames := 0, cells := 0, slots := 0, locals := 0 } : Room)) (fun a U => a = #[(.ref a1), (.ref a1)] ∧ Z.Warmed39 U.vm ∧ U.heap = h0) (fun _ _ _ _ _ => True) (fun _ U o U' => ∃ v L, o = .returned v ∧ Q_rm4s Z a1 w3 w6 h0 n0 v U'.heap L ∧ FrameEnd U o U' L ({ frames := 0, cells := 0, slots := 0, locals := 0 } : Room).cells ({ frames := 0, cells := 0, slots := 0, locals := 0 } : Room).slots) := by
  refine MetFree.of_bodySF (plainFor_of_name pn_1) hisR ?_
  intro p e s m args below meth c s₁ Bd hml0 hP hK
  obtain ⟨rfl, hZ, hh⟩ := hP
  have hx := Bd.exec
  have hby := Bd.bytes
  have hml : c.maxLocals = 3 := hml0
  have hown : s.vm.findClass "murmuration/Contact" = some m.cls := findClass_of_methodNamed Bd.named
  have hnm := (name_of_methodNamed Bd.named Bd.method).1
  have X0 : Stand p l e ({ frames := 0, cells := 0, slots := 0, locals := 0 } : Room) s m #[(.ref a1), (.ref a1)] below meth c s₁ [] 0 0 := Stand.of_body Bd
  have e0 : s₁.heap = h0 := by rw [← hh, Bd.state]; rfl
  have N0 := Fr.nil n0
  show Run p e below s 0 0 (Q_rm4s Z a1 w3 w6 h0 n0) (s₁.setTop (entryFrame m #[(.ref a1), (.ref a1)] 3))
  refine Run.go (fun _ k => castTop (ef_rm4s m a1 a1) k) ?_
  show Run p e below s 0 0 (Q_rm4s Z a1 w3 w6 h0 n0) (s₁.setTop (mkF m 0 #[.val (.ref a1), .val (.ref a1), .unset] []))
  refine Run.go (fun _ k => XS.aloadN X0.here hx rfl (hb hby d4_0) rfl rfl k) ?_
  show Run p e below s 0 0 (Q_rm4s Z a1 w3 w6 h0 n0) (s₁.setTop (mkF m 1 #[.val (.ref a1), .val (.ref a1), .unset] [(.ref a1)]))
  obtain ⟨T1, X1, e1, st1⟩ := instY X0 hx hZ hown (hw _ (List.mem_of_getElem? (i := 25) rfl)) e0 (Ins.self E_a1) (g := (mkF m 1 #[.val (.ref a1), .val (.ref a1), .unset] [(.ref a1)])) rfl rfl (hb hby d4_1)
  refine Run.go st1 ?_
  show Run p e below s 0 0 (Q_rm4s Z a1 w3 w6 h0 n0) (T1.setTop (mkF m 4 #[.val (.ref a1), .val (.ref a1), .unset] [(.int (1 : Int32))]))
  refine Run.go (fun _ k => XS.ifNo X1.here hx rfl (hb hby d4_4) rfl ((if0 _ _).trans (feq (by decide)).1) k) ?_
  show Run p e below s 0 0 (Q_rm4s Z a1 w3 w6 h0 n0) (T1.setTop (mkF m 7 #[.val (.ref a1), .val (.ref a1), .unset] []))
  refine Run.go (fun _ k => XS.aloadN X1.here hx rfl (hb hby d4_7) rfl rfl k) ?_
  show Run p e below s 0 0 (Q_rm4s Z a1 w3 w6 h0 n0) (T1.setTop (mkF m 8 #[.val (.ref a1), .val (.ref a1), .unset] [(.ref a1)]))
  obtain ⟨T2, X2, e2, st2⟩ := castY X1 hx hZ hown (hw _ (List.mem_of_getElem? (i := 25) rfl)) e1 (Ins.self E_a1) (g := (mkF m 8 #[.val (.ref a1), .val (.ref a1), .unset] [(.ref a1)])) rfl rfl (hb hby d4_8)
  refine Run.go st2 ?_
  show Run p e below s 0 0 (Q_rm4s Z a1 w3 w6 h0 n0) (T2.setTop (mkF m 11 #[.val (.ref a1), .val (.ref a1), .unset] [(.ref a1)]))
  refine Run.go (fun _ k => XS.astoreN X2.here hx rfl (hb hby d4_11) rfl rfl (l' := #[.val (.ref a1), .val (.ref a1), .val (.ref a1)]) rfl k) ?_
  show Run p e below s 0 0 (Q_rm4s Z a1 w3 w6 h0 n0) (T2.setTop (mkF m 12 #[.val (.ref a1), .val (.ref a1), .val (.ref a1)] []))
  refine Run.go (fun _ k => XS.aloadN X2.here hx rfl (hb hby d4_12) rfl rfl k) ?_
  show Run p e below s 0 0 (Q_rm4s Z a1 w3 w6 h0 n0) (T2.setTop (mkF m 13 #[.val (.ref a1), .val (.ref a1), .val (.ref a1)] [(.ref a1)]))
  obtain ⟨T4, X4, e4, st4⟩ := getF X2 hx hZ hown (host := "") (Or.inl (hw _ (List.mem_of_getElem? (i := 16) rfl))) Via.refl e2 F_address_a1 (g := (mkF m 13 #[.val (.ref a1), .val (.ref a1), .val (.ref a1)] [(.ref a1)])) rfl rfl (hb hby d4_13)
  refine Run.go st4 ?_
  show Run p e below s 0 0 (Q_rm4s Z a1 w3 w6 h0 n0) (T4.setTop (mkF m 16 #[.val (.ref a1), .val (.ref a1), .val (.ref a1)] [(.int w3)]))
  refine Run.go (fun _ k => XS.aloadN X4.here hx rfl (hb hby d4_16) rfl rfl k) ?_
  show Run p e below s 0 0 (Q_rm4s Z a1 w3 w6 h0 n0) (T4.setTop (mkF m 17 #[.val (.ref a1), .val (.ref a1), .val (.ref a1)] [(.ref a1), (.int w3)]))
  obtain ⟨T5, X5, e5, st5⟩ := getF X4 hx hZ hown (host := "") (Or.inl (hw _ (List.mem_of_getElem? (i := 16) rfl))) Via.refl e4 F_address_a1 (g := (mkF m 17 #[.val (.ref a1), .val (.ref a1), .val (.ref a1)] [(.ref a1), (.int w3)])) rfl rfl (hb hby d4_17)
  refine Run.go st5 ?_
  show Run p e below s 0 0 (Q_rm4s Z a1 w3 w6 h0 n0) (T5.setTop (mkF m 20 #[.val (.ref a1), .val (.ref a1), .val (.ref a1)] [(.int w3), (.int w3)]))
  refine Run.go (fun _ k => XS.icmpNo X5.here hx rfl (hb hby d4_20) rfl (teq (rfl : w3 = w3)).2 k) ?_
  show Run p e below s 0 0 (Q_rm4s Z a1 w3 w6 h0 n0) (T5.setTop (mkF m 23 #[.val (.ref a1), .val (.ref a1), .val (.ref a1)] []))
  refine Run.go (fun _ k => XS.aloadN X5.here hx rfl (hb hby d4_23) rfl rfl k) ?_
  show Run p e below s 0 0 (Q_rm4s Z a1 w3 w6 h0 n0) (T5.setTop (mkF m 24 #[.val (.ref a1), .val (.ref a1), .val (.ref a1)] [(.ref a1)]))
  obtain ⟨T7, X7, e7, st7⟩ := getF X5 hx hZ hown (host := "") (Or.inl (hw _ (List.mem_of_getElem? (i := 18) rfl))) Via.refl e5 F_port_a1 (g := (mkF m 24 #[.val (.ref a1), .val (.ref a1), .val (.ref a1)] [(.ref a1)])) rfl rfl (hb hby d4_24)
  refine Run.go st7 ?_
  show Run p e below s 0 0 (Q_rm4s Z a1 w3 w6 h0 n0) (T7.setTop (mkF m 27 #[.val (.ref a1), .val (.ref a1), .val (.ref a1)] [(.int w6)]))
  refine Run.go (fun _ k => XS.aloadN X7.here hx rfl (hb hby d4_27) rfl rfl k) ?_
  show Run p e below s 0 0 (Q_rm4s Z a1 w3 w6 h0 n0) (T7.setTop (mkF m 28 #[.val (.ref a1), .val (.ref a1), .val (.ref a1)] [(.ref a1), (.int w6)]))
  obtain ⟨T8, X8, e8, st8⟩ := getF X7 hx hZ hown (host := "") (Or.inl (hw _ (List.mem_of_getElem? (i := 18) rfl))) Via.refl e7 F_port_a1 (g := (mkF m 28 #[.val (.ref a1), .val (.ref a1), .val (.ref a1)] [(.ref a1), (.int w6)])) rfl rfl (hb hby d4_28)
  refine Run.go st8 ?_
  show Run p e below s 0 0 (Q_rm4s Z a1 w3 w6 h0 n0) (T8.setTop (mkF m 31 #[.val (.ref a1), .val (.ref a1), .val (.ref a1)] [(.int w6), (.int w6)]))
  refine Run.go (fun _ k => XS.icmpNo X8.here hx rfl (hb hby d4_31) rfl (teq (rfl : w6 = w6)).2 k) ?_
  show Run p e below s 0 0 (Q_rm4s Z a1 w3 w6 h0 n0) (T8.setTop (mkF m 34 #[.val (.ref a1), .val (.ref a1), .val (.ref a1)] []))
  refine Run.go (fun _ k => XS.iconst X8.here hx rfl (hb hby d4_34) k) ?_
  show Run p e below s 0 0 (Q_rm4s Z a1 w3 w6 h0 n0) (T8.setTop (mkF m 35 #[.val (.ref a1), .val (.ref a1), .val (.ref a1)] [(.int (1 : Int32))]))
  refine Run.go (fun _ k => XS.goto X8.here hx rfl (pc0 := 35) (pc' := 39) rfl (hb hby d4_35) (by decide) (by decide) k) ?_
  show Run p e below s 0 0 (Q_rm4s Z a1 w3 w6 h0 n0) (T8.setTop (mkF m 39 #[.val (.ref a1), .val (.ref a1), .val (.ref a1)] [(.int (1 : Int32))]))
  refine Run.retN (y := (1 : Int32)) X8 hx (t := .boolean) Bd.returns (by simp) rfl Bd.notSynchronized (hb hby d4_39) (by decide) (by decide) ?_
  show Q_rm4s Z a1 w3 w6 h0 n0 _ T8.heap _
  exact ⟨rfl, N0, e8⟩
def F_rm4c (w5 : Int32) (w7 : Int32) (w9 : Int32) (w11 : Int32) : Int32 := let w14 : Int32 := (if ((w5 = w7) ∧ (w9 = w11)) then (1 : Int32) else 0); w14
def Q_rm4c (Z : State) (a1 : Addr) (a2 : Addr) (w5 : Int32) (w7 : Int32) (w9 : Int32) (w11 : Int32) (h0 : Heap) (n0 : Nat) (v : Option Value) (h : Heap) (L : List Loc) : Prop := v = some (.int (F_rm4c w5 w7 w9 w11)) ∧ Fr n0 L ∧ h = h0
theorem ef_rm4c (m : MethodId) (x0 : Addr) (x1 : Addr) : entryFrame m #[(.ref x0), (.ref x1)] 3 = mkF m 0 #[.val (.ref x0), .val (.ref x1), .unset] [] := by first | (simp [entryFrame, mkF, argsToLocals, Value.category]; done) | rfl
set_option maxRecDepth 65536 in
set_option maxHeartbeats 40000000 in
theorem rm4c (l : Launch) (Z : State) (a0 : Array Value) (hw : ∀ d ∈ tables_1, d.before a0 Z = true) (ws : List Jvm.Cond) (a1 : Addr) (a2 : Addr) (w5 : Int32) (w7 : Int32) (w9 : Int32) (w11 : Int32) (h0 : Heap) (n0 : Nat) (Z0 : n0 ≤ h0.size) (E_a2 : Exa Z h0 a2 "murmuration/Contact") (F_address_a2 : Fld Z h0 a2 "murmuration/Contact" "address" "I" (.int w5)) (F_address_a1 : Fld Z h0 a1 "murmuration/Contact" "address" "I" (.int w7)) (F_port_a2 : Fld Z h0 a2 "murmuration/Contact" "port" "I" (.int w9)) (F_port_a1 : Fld Z h0 a1 "murmuration/Contact" "port" "I" (.int w11)) :
    MetFree l (⟨"murmuration/Contact", "equals", "(Ljava/lang/Object;)Z"⟩ : MethodName) (head1 (Jvm.Cond.code (⟨"murmuration/Contact", "equals", "(Ljava/lang/Object;)Z"⟩ : MethodName) prog_7_method_9_code 3 (some .boolean) :: ws) ({ frames := 0, cells := 0, slots := 0, locals := 0 } : Room)) (fun a U => a = #[(.ref a1), (.ref a2)] ∧ Z.Warmed39 U.vm ∧ U.heap = h0) (fun _ _ _ _ _ => True) (fun _ U o U' => ∃ v L, o = .returned v ∧ Q_rm4c Z a1 a2 w5 w7 w9 w11 h0 n0 v U'.heap L ∧ FrameEnd U o U' L ({ frames := 0, cells := 0, slots := 0, locals := 0 } : Room).cells ({ frames := 0, cells := 0, slots := 0, locals := 0 } : Room).slots) := by
  refine MetFree.of_bodySF (plainFor_of_name pn_1) hisR ?_
  intro p e s m args below meth c s₁ Bd hml0 hP hK
  obtain ⟨rfl, hZ, hh⟩ := hP
  have hx := Bd.exec
  have hby := Bd.bytes
  have hml : c.maxLocals = 3 := hml0
  have hown : s.vm.findClass "murmuration/Contact" = some m.cls := findClass_of_methodNamed Bd.named
  have hnm := (name_of_methodNamed Bd.named Bd.method).1
  have X0 : Stand p l e ({ frames := 0, cells := 0, slots := 0, locals := 0 } : Room) s m #[(.ref a1), (.ref a2)] below meth c s₁ [] 0 0 := Stand.of_body Bd
  have e0 : s₁.heap = h0 := by rw [← hh, Bd.state]; rfl
  have N0 := Fr.nil n0
  show Run p e below s 0 0 (Q_rm4c Z a1 a2 w5 w7 w9 w11 h0 n0) (s₁.setTop (entryFrame m #[(.ref a1), (.ref a2)] 3))
  refine Run.go (fun _ k => castTop (ef_rm4c m a1 a2) k) ?_
  show Run p e below s 0 0 (Q_rm4c Z a1 a2 w5 w7 w9 w11 h0 n0) (s₁.setTop (mkF m 0 #[.val (.ref a1), .val (.ref a2), .unset] []))
  refine Run.go (fun _ k => XS.aloadN X0.here hx rfl (hb hby d4_0) rfl rfl k) ?_
  show Run p e below s 0 0 (Q_rm4c Z a1 a2 w5 w7 w9 w11 h0 n0) (s₁.setTop (mkF m 1 #[.val (.ref a1), .val (.ref a2), .unset] [(.ref a2)]))
  obtain ⟨T3, X3, e3, st3⟩ := instY X0 hx hZ hown (hw _ (List.mem_of_getElem? (i := 25) rfl)) e0 (Ins.self E_a2) (g := (mkF m 1 #[.val (.ref a1), .val (.ref a2), .unset] [(.ref a2)])) rfl rfl (hb hby d4_1)
  refine Run.go st3 ?_
  show Run p e below s 0 0 (Q_rm4c Z a1 a2 w5 w7 w9 w11 h0 n0) (T3.setTop (mkF m 4 #[.val (.ref a1), .val (.ref a2), .unset] [(.int (1 : Int32))]))
  refine Run.go (fun _ k => XS.ifNo X3.here hx rfl (hb hby d4_4) rfl ((if0 _ _).trans (feq (by decide)).1) k) ?_
  show Run p e below s 0 0 (Q_rm4c Z a1 a2 w5 w7 w9 w11 h0 n0) (T3.setTop (mkF m 7 #[.val (.ref a1), .val (.ref a2), .unset] []))
  refine Run.go (fun _ k => XS.aloadN X3.here hx rfl (hb hby d4_7) rfl rfl k) ?_
  show Run p e below s 0 0 (Q_rm4c Z a1 a2 w5 w7 w9 w11 h0 n0) (T3.setTop (mkF m 8 #[.val (.ref a1), .val (.ref a2), .unset] [(.ref a2)]))
  obtain ⟨T4, X4, e4, st4⟩ := castY X3 hx hZ hown (hw _ (List.mem_of_getElem? (i := 25) rfl)) e3 (Ins.self E_a2) (g := (mkF m 8 #[.val (.ref a1), .val (.ref a2), .unset] [(.ref a2)])) rfl rfl (hb hby d4_8)
  refine Run.go st4 ?_
  show Run p e below s 0 0 (Q_rm4c Z a1 a2 w5 w7 w9 w11 h0 n0) (T4.setTop (mkF m 11 #[.val (.ref a1), .val (.ref a2), .unset] [(.ref a2)]))
  refine Run.go (fun _ k => XS.astoreN X4.here hx rfl (hb hby d4_11) rfl rfl (l' := #[.val (.ref a1), .val (.ref a2), .val (.ref a2)]) rfl k) ?_
  show Run p e below s 0 0 (Q_rm4c Z a1 a2 w5 w7 w9 w11 h0 n0) (T4.setTop (mkF m 12 #[.val (.ref a1), .val (.ref a2), .val (.ref a2)] []))
  refine Run.go (fun _ k => XS.aloadN X4.here hx rfl (hb hby d4_12) rfl rfl k) ?_
  show Run p e below s 0 0 (Q_rm4c Z a1 a2 w5 w7 w9 w11 h0 n0) (T4.setTop (mkF m 13 #[.val (.ref a1), .val (.ref a2), .val (.ref a2)] [(.ref a2)]))
  obtain ⟨T6, X6, e6, st6⟩ := getF X4 hx hZ hown (host := "") (Or.inl (hw _ (List.mem_of_getElem? (i := 16) rfl))) Via.refl e4 F_address_a2 (g := (mkF m 13 #[.val (.ref a1), .val (.ref a2), .val (.ref a2)] [(.ref a2)])) rfl rfl (hb hby d4_13)
  refine Run.go st6 ?_
  show Run p e below s 0 0 (Q_rm4c Z a1 a2 w5 w7 w9 w11 h0 n0) (T6.setTop (mkF m 16 #[.val (.ref a1), .val (.ref a2), .val (.ref a2)] [(.int w5)]))
  refine Run.go (fun _ k => XS.aloadN X6.here hx rfl (hb hby d4_16) rfl rfl k) ?_
  show Run p e below s 0 0 (Q_rm4c Z a1 a2 w5 w7 w9 w11 h0 n0) (T6.setTop (mkF m 17 #[.val (.ref a1), .val (.ref a2), .val (.ref a2)] [(.ref a1), (.int w5)]))
  obtain ⟨T8, X8, e8, st8⟩ := getF X6 hx hZ hown (host := "") (Or.inl (hw _ (List.mem_of_getElem? (i := 16) rfl))) Via.refl e6 F_address_a1 (g := (mkF m 17 #[.val (.ref a1), .val (.ref a2), .val (.ref a2)] [(.ref a1), (.int w5)])) rfl rfl (hb hby d4_17)
  refine Run.go st8 ?_
  show Run p e below s 0 0 (Q_rm4c Z a1 a2 w5 w7 w9 w11 h0 n0) (T8.setTop (mkF m 20 #[.val (.ref a1), .val (.ref a2), .val (.ref a2)] [(.int w7), (.int w5)]))
  have J13 : ∀ (w14 : Int32) (hw14 : w14 = (if ((w5 = w7) ∧ (w9 = w11)) then (1 : Int32) else 0)) (T15 : State) (L15 : List Loc) (X15 : Stand p l e ({ frames := 0, cells := 0, slots := 0, locals := 0 } : Room) s m #[(.ref a1), (.ref a2)] below meth c T15 L15 0 0) (e15 : T15.heap = h0) (N15 : Fr n0 L15), Run p e below s 0 0 (Q_rm4c Z a1 a2 w5 w7 w9 w11 h0 n0) (T15.setTop (mkF m 39 #[.val (.ref a1), .val (.ref a2), .val (.ref a2)] [(.int w14)])) := by
    intro w14 hw14 T15 L15 X15 e15 N15
    show Run p e below s 0 0 (Q_rm4c Z a1 a2 w5 w7 w9 w11 h0 n0) (T15.setTop (mkF m 39 #[.val (.ref a1), .val (.ref a2), .val (.ref a2)] [(.int w14)]))
    refine Run.retN (y := w14) X15 hx (t := .boolean) Bd.returns (by simp) (by rw [hw14]; exact nar_ite _) Bd.notSynchronized (hb hby d4_39) (by decide) (by decide) ?_
    show Q_rm4c Z a1 a2 w5 w7 w9 w11 h0 n0 _ T15.heap _
    exact ⟨congrArg some (congrArg Value.int (show w14 = (F_rm4c w5 w7 w9 w11) from (by subst hw14; unfold F_rm4c; rfl))), N15, e15⟩
  by_cases hc16 : (w5 = w7)
  · refine Run.go (fun _ k => XS.icmpNo X8.here hx rfl (hb hby d4_20) rfl (teq hc16).2 k) ?_
    show Run p e below s 0 0 (Q_rm4c Z a1 a2 w5 w7 w9 w11 h0 n0) (T8.setTop (mkF m 23 #[.val (.ref a1), .val (.ref a2), .val (.ref a2)] []))
    refine Run.go (fun _ k => XS.aloadN X8.here hx rfl (hb hby d4_23) rfl rfl k) ?_
    show Run p e below s 0 0 (Q_rm4c Z a1 a2 w5 w7 w9 w11 h0 n0) (T8.setTop (mkF m 24 #[.val (.ref a1), .val (.ref a2), .val (.ref a2)] [(.ref a2)]))
    obtain ⟨T17, X17, e17, st17⟩ := getF X8 hx hZ hown (host := "") (Or.inl (hw _ (List.mem_of_getElem? (i := 18) rfl))) Via.refl e8 F_port_a2 (g := (mkF m 24 #[.val (.ref a1), .val (.ref a2), .val (.ref a2)] [(.ref a2)])) rfl rfl (hb hby d4_24)
    refine Run.go st17 ?_
    show Run p e below s 0 0 (Q_rm4c Z a1 a2 w5 w7 w9 w11 h0 n0) (T17.setTop (mkF m 27 #[.val (.ref a1), .val (.ref a2), .val (.ref a2)] [(.int w9)]))
    refine Run.go (fun _ k => XS.aloadN X17.here hx rfl (hb hby d4_27) rfl rfl k) ?_
    show Run p e below s 0 0 (Q_rm4c Z a1 a2 w5 w7 w9 w11 h0 n0) (T17.setTop (mkF m 28 #[.val (.ref a1), .val (.ref a2), .val (.ref a2)] [(.ref a1), (.int w9)]))
    obtain ⟨T18, X18, e18, st18⟩ := getF X17 hx hZ hown (host := "") (Or.inl (hw _ (List.mem_of_getElem? (i := 18) rfl))) Via.refl e17 F_port_a1 (g := (mkF m 28 #[.val (.ref a1), .val (.ref a2), .val (.ref a2)] [(.ref a1), (.int w9)])) rfl rfl (hb hby d4_28)
    refine Run.go st18 ?_
    show Run p e below s 0 0 (Q_rm4c Z a1 a2 w5 w7 w9 w11 h0 n0) (T18.setTop (mkF m 31 #[.val (.ref a1), .val (.ref a2), .val (.ref a2)] [(.int w11), (.int w9)]))
    by_cases hc19 : (w9 = w11)
    · refine Run.go (fun _ k => XS.icmpNo X18.here hx rfl (hb hby d4_31) rfl (teq hc19).2 k) ?_
      show Run p e below s 0 0 (Q_rm4c Z a1 a2 w5 w7 w9 w11 h0 n0) (T18.setTop (mkF m 34 #[.val (.ref a1), .val (.ref a2), .val (.ref a2)] []))
      refine Run.go (fun _ k => XS.iconst X18.here hx rfl (hb hby d4_34) k) ?_
      show Run p e below s 0 0 (Q_rm4c Z a1 a2 w5 w7 w9 w11 h0 n0) (T18.setTop (mkF m 35 #[.val (.ref a1), .val (.ref a2), .val (.ref a2)] [(.int (1 : Int32))]))
      refine Run.go (fun _ k => XS.goto X18.here hx rfl (pc0 := 35) (pc' := 39) rfl (hb hby d4_35) (by decide) (by decide) k) ?_
      show Run p e below s 0 0 (Q_rm4c Z a1 a2 w5 w7 w9 w11 h0 n0) (T18.setTop (mkF m 39 #[.val (.ref a1), .val (.ref a2), .val (.ref a2)] [(.int (1 : Int32))]))
      exact J13 _ (if_pos ⟨hc16, hc19⟩).symm _ _ X18 e18 N0
    · refine Run.go (fun _ k => XS.icmpYes X18.here hx rfl (pc0 := 31) (pc' := 38) rfl (hb hby d4_31) rfl (feq hc19).2 (by decide) (by decide) k) ?_
      show Run p e below s 0 0 (Q_rm4c Z a1 a2 w5 w7 w9 w11 h0 n0) (T18.setTop (mkF m 38 #[.val (.ref a1), .val (.ref a2), .val (.ref a2)] []))
      refine Run.go (fun _ k => XS.iconst X18.here hx rfl (hb hby d4_38) k) ?_
      show Run p e below s 0 0 (Q_rm4c Z a1 a2 w5 w7 w9 w11 h0 n0) (T18.setTop (mkF m 39 #[.val (.ref a1), .val (.ref a2), .val (.ref a2)] [(.int (0 : Int32))]))
      exact J13 _ (if_neg (fun q => hc19 q.2)).symm _ _ X18 e18 N0
  · refine Run.go (fun _ k => XS.icmpYes X8.here hx rfl (pc0 := 20) (pc' := 38) rfl (hb hby d4_20) rfl (feq hc16).2 (by decide) (by decide) k) ?_
    show Run p e below s 0 0 (Q_rm4c Z a1 a2 w5 w7 w9 w11 h0 n0) (T8.setTop (mkF m 38 #[.val (.ref a1), .val (.ref a2), .val (.ref a2)] []))
    refine Run.go (fun _ k => XS.iconst X8.here hx rfl (hb hby d4_38) k) ?_
    show Run p e below s 0 0 (Q_rm4c Z a1 a2 w5 w7 w9 w11 h0 n0) (T8.setTop (mkF m 39 #[.val (.ref a1), .val (.ref a2), .val (.ref a2)] [(.int (0 : Int32))]))
    exact J13 _ (if_neg (fun q => hc16 q.1)).symm _ _ X8 e8 N0
theorem d7_0 : decode jdk_18_method_1_code 0 = .ok (.aload_n 0, 1) := by decide +kernel
theorem d7_1 : decode jdk_18_method_1_code 1 = .ok (.invokespecial 1, 3) := by decide +kernel
theorem d7_4 : decode jdk_18_method_1_code 4 = .ok (.return_, 1) := by decide +kernel
def Q_rm7 (Z : State) (a1 : Addr) (h0 : Heap) (n0 : Nat) (v : Option Value) (h : Heap) (L : List Loc) : Prop := v = none ∧ Fr n0 L ∧ h = h0
theorem ef_rm7 (m : MethodId) (x0 : Addr) : entryFrame m #[(.ref x0)] 1 = mkF m 0 #[.val (.ref x0)] [] := by first | (simp [entryFrame, mkF, argsToLocals, Value.category]; done) | rfl
theorem pn_2 : plainName "java/lang/Number" = true := by first | (simp [plainName, overriddenIn]; done) | decide +kernel
set_option maxRecDepth 65536 in
set_option maxHeartbeats 40000000 in
theorem rm7 (l : Launch) (Z : State) (a0 : Array Value) (hw : ∀ d ∈ tables_1, d.before a0 Z = true) (ws : List Jvm.Cond) (a1 : Addr) (h0 : Heap) (n0 : Nat) (Z0 : n0 ≤ h0.size)  :
    MetFree l (⟨"java/lang/Number", "<init>", "()V"⟩ : MethodName) (head1 (Jvm.Cond.code (⟨"java/lang/Number", "<init>", "()V"⟩ : MethodName) jdk_18_method_1_code 1 none :: ws) ({ frames := 1, cells := 0, slots := 0, locals := 12 } : Room)) (fun a U => a = #[(.ref a1)] ∧ Z.Warmed39 U.vm ∧ U.heap = h0) (fun _ _ _ _ _ => True) (fun _ U o U' => ∃ v L, o = .returned v ∧ Q_rm7 Z a1 h0 n0 v U'.heap L ∧ FrameEnd U o U' L ({ frames := 1, cells := 0, slots := 0, locals := 12 } : Room).cells ({ frames := 1, cells := 0, slots := 0, locals := 12 } : Room).slots) := by
  refine MetFree.of_bodySF (plainFor_of_name pn_2) hisR ?_
  intro p e s m args below meth c s₁ Bd hml0 hP hK
  obtain ⟨rfl, hZ, hh⟩ := hP
  have hx := Bd.exec
  have hby := Bd.bytes
  have hml : c.maxLocals = 1 := hml0
  have hown : s.vm.findClass "java/lang/Number" = some m.cls := findClass_of_methodNamed Bd.named
  have hnm := (name_of_methodNamed Bd.named Bd.method).1
  have X0 : Stand p l e ({ frames := 1, cells := 0, slots := 0, locals := 12 } : Room) s m #[(.ref a1)] below meth c s₁ [] 0 0 := Stand.of_body Bd
  have e0 : s₁.heap = h0 := by rw [← hh, Bd.state]; rfl
  have N0 := Fr.nil n0
  show Run p e below s 0 0 (Q_rm7 Z a1 h0 n0) (s₁.setTop (entryFrame m #[(.ref a1)] 1))
  refine Run.go (fun _ k => castTop (ef_rm7 m a1) k) ?_
  show Run p e below s 0 0 (Q_rm7 Z a1 h0 n0) (s₁.setTop (mkF m 0 #[.val (.ref a1)] []))
  refine Run.go (fun _ k => XS.aloadN X0.here hx rfl (hb hby d7_0) rfl rfl k) ?_
  show Run p e below s 0 0 (Q_rm7 Z a1 h0 n0) (s₁.setTop (mkF m 1 #[.val (.ref a1)] [(.ref a1)]))
  obtain ⟨T2, X2, e2, st2⟩ := initO X0 hx hZ hown (hw _ (List.mem_of_getElem? (i := 45) rfl)) (hw _ (List.mem_of_getElem? (i := 13) rfl)) (hw _ (List.mem_of_getElem? (i := 14) rfl)) e0 (g := (mkF m 1 #[.val (.ref a1)] [(.ref a1)])) rfl (by rw [hml]; rfl) rfl (hb hby d7_1) (by decide) (W := 0) (by show 2 * 0 + _ ≤ _; exact Nat.le_of_eq rfl) (by decide)
  refine Run.go st2 ?_
  show Run p e below s 0 0 (Q_rm7 Z a1 h0 n0) (T2.setTop (mkF m 4 #[.val (.ref a1)] []))
  refine Run.ret0 X2 hx Bd.returns Bd.notSynchronized (hb hby d7_4) (by decide) (by decide) ?_
  show Q_rm7 Z a1 h0 n0 _ T2.heap _
  exact ⟨rfl, N0, e2⟩
theorem d6_0 : decode jdk_33_method_23_code 0 = .ok (.aload_n 0, 1) := by decide +kernel
theorem d6_1 : decode jdk_33_method_23_code 1 = .ok (.invokespecial 202, 3) := by decide +kernel
theorem d6_4 : decode jdk_33_method_23_code 4 = .ok (.aload_n 0, 1) := by decide +kernel
theorem d6_5 : decode jdk_33_method_23_code 5 = .ok (.iload_n 1, 1) := by decide +kernel
theorem d6_6 : decode jdk_33_method_23_code 6 = .ok (.putfield 205, 3) := by decide +kernel
theorem d6_9 : decode jdk_33_method_23_code 9 = .ok (.return_, 1) := by decide +kernel
def Q_rm6 (Z : State) (a1 : Addr) (p2 : Int32) (u_value_a1 : Value) (h0 : Heap) (n0 : Nat) (v : Option Value) (h : Heap) (L : List Loc) : Prop := v = none ∧ Fr n0 L ∧ Keep h0 h [a1] ∧ Exa Z h a1 "java/lang/Integer" ∧ Fld Z h a1 "java/lang/Integer" "value" "I" (.int p2)
theorem ef_rm6 (m : MethodId) (x0 : Addr) (x1 : Int32) : entryFrame m #[(.ref x0), (.int x1)] 2 = mkF m 0 #[.val (.ref x0), .val (.int x1)] [] := by first | (simp [entryFrame, mkF, argsToLocals, Value.category]; done) | rfl
theorem pn_3 : plainName "java/lang/Integer" = true := by first | (simp [plainName, overriddenIn]; done) | decide +kernel
set_option maxRecDepth 65536 in
set_option maxHeartbeats 40000000 in
theorem rm6 (l : Launch) (Z : State) (a0 : Array Value) (hw : ∀ d ∈ tables_1, d.before a0 Z = true) (ws : List Jvm.Cond) (a1 : Addr) (p2 : Int32) (u_value_a1 : Value) (h0 : Heap) (n0 : Nat) (Z0 : n0 ≤ h0.size) (E_a1 : Exa Z h0 a1 "java/lang/Integer") (F_value_a1 : Fld Z h0 a1 "java/lang/Integer" "value" "I" u_value_a1) (g_a1 : n0 ≤ a1) :
    MetFree l (⟨"java/lang/Integer", "<init>", "(I)V"⟩ : MethodName) (head1 (Jvm.Cond.code (⟨"java/lang/Integer", "<init>", "(I)V"⟩ : MethodName) jdk_33_method_23_code 2 none :: ws) ({ frames := 2, cells := 0, slots := 0, locals := 24 } : Room)) (fun a U => a = #[(.ref a1), (.int p2)] ∧ Z.Warmed39 U.vm ∧ U.heap = h0) (fun _ _ _ _ _ => True) (fun _ U o U' => ∃ v L, o = .returned v ∧ Q_rm6 Z a1 p2 u_value_a1 h0 n0 v U'.heap L ∧ FrameEnd U o U' L ({ frames := 2, cells := 0, slots := 0, locals := 24 } : Room).cells ({ frames := 2, cells := 0, slots := 0, locals := 24 } : Room).slots) := by
  refine MetFree.of_bodySF (plainFor_of_name pn_3) hisR ?_
  intro p e s m args below meth c s₁ Bd hml0 hP hK
  obtain ⟨rfl, hZ, hh⟩ := hP
  have hx := Bd.exec
  have hby := Bd.bytes
  have hml : c.maxLocals = 2 := hml0
  have hown : s.vm.findClass "java/lang/Integer" = some m.cls := findClass_of_methodNamed Bd.named
  have hnm := (name_of_methodNamed Bd.named Bd.method).1
  have X0 : Stand p l e ({ frames := 2, cells := 0, slots := 0, locals := 24 } : Room) s m #[(.ref a1), (.int p2)] below meth c s₁ [] 0 0 := Stand.of_body Bd
  have e0 : s₁.heap = h0 := by rw [← hh, Bd.state]; rfl
  have N0 := Fr.nil n0
  show Run p e below s 0 0 (Q_rm6 Z a1 p2 u_value_a1 h0 n0) (s₁.setTop (entryFrame m #[(.ref a1), (.int p2)] 2))
  refine Run.go (fun _ k => castTop (ef_rm6 m a1 p2) k) ?_
  show Run p e below s 0 0 (Q_rm6 Z a1 p2 u_value_a1 h0 n0) (s₁.setTop (mkF m 0 #[.val (.ref a1), .val (.int p2)] []))
  refine Run.go (fun _ k => XS.aloadN X0.here hx rfl (hb hby d6_0) rfl rfl k) ?_
  show Run p e below s 0 0 (Q_rm6 Z a1 p2 u_value_a1 h0 n0) (s₁.setTop (mkF m 1 #[.val (.ref a1), .val (.int p2)] [(.ref a1)]))
  obtain ⟨_, _, ⟨T3, L3, k3, n3⟩, -, X3, ⟨Lc3, hQ3, l3, y3, z3⟩, st3⟩ := X0.specialBack hx (y := (⟨"java/lang/Number", "<init>", "()V"⟩ : MethodName)) rfl hown (mvT hZ (hw _ (List.mem_of_getElem? (i := 39) rfl))) (mvT hZ (hw _ (List.mem_of_getElem? (i := 40) rfl))) (mvT hZ (hw _ (List.mem_of_getElem? (i := 44) rfl))) (by decide) (backOf (W := 0) (rm7 l Z a0 hw [] a1 h0 n0 Z0 ) hZ (hw _ (List.mem_of_getElem? (i := 44) rfl)) (hw _ (List.mem_of_getElem? (i := 43) rfl)) (by decide) (by decide)) (g := (mkF m 1 #[.val (.ref a1), .val (.int p2)] [(.ref a1)])) rfl (by rw [hml]; rfl) (Steps.refl _) (a := a1) (argsL := []) (rest := []) (lenOf pd_0 rfl) rfl (by show 2 * 0 + _ ≤ _; exact Nat.le_of_eq rfl) (hb hby d6_1) (fun _ _ => ⟨rfl, e0, (by decide : 0 + 0 ≤ _), (by decide : 0 + 0 ≤ _)⟩)
  dsimp only [Pt.U, Pt.locs, Pt.cells, Pt.slots] at X3 l3 y3 z3 st3 hQ3
  subst l3 y3 z3
  obtain ⟨rfl, N3q, e3q⟩ := hQ3
  have N3 := Fr.app N0 N3q
  obtain ⟨Lg3, Xg3, Ng3⟩ := Stand_gen X3 N3
  refine Run.tr st3 ?_
  show Run p e below s 0 0 (Q_rm6 Z a1 p2 u_value_a1 h0 n0) (T3.setTop (mkF m 4 #[.val (.ref a1), .val (.int p2)] []))
  refine Run.go (fun _ k => XS.aloadN Xg3.here hx rfl (hb hby d6_4) rfl rfl k) ?_
  show Run p e below s 0 0 (Q_rm6 Z a1 p2 u_value_a1 h0 n0) (T3.setTop (mkF m 5 #[.val (.ref a1), .val (.int p2)] [(.ref a1)]))
  refine Run.go (fun _ k => XS.iloadN Xg3.here hx rfl (hb hby d6_5) rfl  k) ?_
  show Run p e below s 0 0 (Q_rm6 Z a1 p2 u_value_a1 h0 n0) (T3.setTop (mkF m 6 #[.val (.ref a1), .val (.int p2)] [(.int p2), (.ref a1)]))
  obtain ⟨T4, h4, X4, e4, W4, st4⟩ := putF Xg3 hx hZ hown (host := "") (Or.inl (hw _ (List.mem_of_getElem? (i := 46) rfl))) Via.refl e3q F_value_a1 E_a1 (Or.inr ⟨(hw _ (List.mem_of_getElem? (i := 47) rfl)), rfl, hnm⟩) (hw _ (List.mem_of_getElem? (i := 34) rfl)) (ty := .int) (by decide) rfl rfl (g := (mkF m 6 #[.val (.ref a1), .val (.int p2)] [(.int p2), (.ref a1)])) rfl rfl (hb hby d6_6)
  have N4 := Fr.snoc X4 Ng3 g_a1
  have Z4 : n0 ≤ h4.size := Nat.le_trans Z0 (Keep.of_wr W4).1
  have K4 : Keep h0 h4 [a1] := (Keep.refl h0 [a1]).wr W4 (Or.inl (List.mem_of_getElem? (i := 0) rfl))
  obtain ⟨Lg4, Xg4, Ng4⟩ := Stand_gen X4 N4
  have fx5 := F_value_a1.same W4
  refine Run.go st4 ?_
  show Run p e below s 0 0 (Q_rm6 Z a1 p2 u_value_a1 h0 n0) (T4.setTop (mkF m 9 #[.val (.ref a1), .val (.int p2)] []))
  refine Run.ret0 Xg4 hx Bd.returns Bd.notSynchronized (hb hby d6_9) (by decide) (by decide) ?_
  show Q_rm6 Z a1 p2 u_value_a1 h0 n0 _ T4.heap _
  have fx6 := (E_a1.wr W4)
  rw [e4]
  exact ⟨rfl, Ng4, K4, fx6, fx5⟩
theorem d5_0 : decode jdk_33_method_22_code 0 = .ok (.iload_n 0, 1) := by decide +kernel
theorem d5_1 : decode jdk_33_method_22_code 1 = .ok (.bipush (-128), 2) := by decide +kernel
theorem d5_3 : decode jdk_33_method_22_code 3 = .ok (.if_icmp .lt 20, 3) := by decide +kernel
theorem d5_23 : decode jdk_33_method_22_code 23 = .ok (.new 1, 3) := by decide +kernel
theorem d5_26 : decode jdk_33_method_22_code 26 = .ok (.dup, 1) := by decide +kernel
theorem d5_27 : decode jdk_33_method_22_code 27 = .ok (.iload_n 0, 1) := by decide +kernel
theorem d5_28 : decode jdk_33_method_22_code 28 = .ok (.invokespecial 199, 3) := by decide +kernel
theorem pd_1 : parseMethodDescriptor "(I)V" = some ⟨[.int], none⟩ := by decide +kernel
theorem d5_31 : decode jdk_33_method_22_code 31 = .ok (.areturn, 1) := by decide +kernel
def Q_rm5a (Z : State) (p1 : Int32) (h0 : Heap) (n0 : Nat) (v : Option Value) (h : Heap) (L : List Loc) : Prop := ∃ (b2 : Addr), v = some (.ref b2) ∧ Fr n0 L ∧ Keep h0 h [] ∧ h0.size ≤ b2 ∧ Exa Z h b2 "java/lang/Integer" ∧ Fld Z h b2 "java/lang/Integer" "value" "I" (.int p1)
theorem ef_rm5a (m : MethodId) (x0 : Int32) : entryFrame m #[(.int x0)] 1 = mkF m 0 #[.val (.int x0)] [] := by first | (simp [entryFrame, mkF, argsToLocals, Value.category]; done) | rfl
set_option maxRecDepth 65536 in
set_option maxHeartbeats 40000000 in
theorem rm5a (l : Launch) (Z : State) (a0 : Array Value) (hw : ∀ d ∈ tables_1, d.before a0 Z = true) (ws : List Jvm.Cond) (p1 : Int32) (h0 : Heap) (n0 : Nat) (Z0 : n0 ≤ h0.size) (S_Integer_IntegerCache_high : Sta Z h0 "java/lang/Integer$IntegerCache" "high" "I" (.int (127 : Int32))) (hc3 : (p1 < (-128 : Int32))) :
    MetFree l (⟨"java/lang/Integer", "valueOf", "(I)Ljava/lang/Integer;"⟩ : MethodName) (head1 (Jvm.Cond.code (⟨"java/lang/Integer", "valueOf", "(I)Ljava/lang/Integer;"⟩ : MethodName) jdk_33_method_22_code 1 (some (.object "java/lang/Integer")) :: ws) ({ frames := 3, cells := 1, slots := 1, locals := 38 } : Room)) (fun a U => a = #[(.int p1)] ∧ Z.Warmed39 U.vm ∧ U.heap = h0) (fun _ _ _ _ _ => True) (fun _ U o U' => ∃ v L, o = .returned v ∧ Q_rm5a Z p1 h0 n0 v U'.heap L ∧ FrameEnd U o U' L ({ frames := 3, cells := 1, slots := 1, locals := 38 } : Room).cells ({ frames := 3, cells := 1, slots := 1, locals := 38 } : Room).slots) := by
  refine MetFree.of_bodySF (plainFor_of_name pn_3) hisR ?_
  intro p e s m args below meth c s₁ Bd hml0 hP hK
  obtain ⟨rfl, hZ, hh⟩ := hP
  have hx := Bd.exec
  have hby := Bd.bytes
  have hml : c.maxLocals = 1 := hml0
  have hown : s.vm.findClass "java/lang/Integer" = some m.cls := findClass_of_methodNamed Bd.named
  have hnm := (name_of_methodNamed Bd.named Bd.method).1
  have X0 : Stand p l e ({ frames := 3, cells := 1, slots := 1, locals := 38 } : Room) s m #[(.int p1)] below meth c s₁ [] 0 0 := Stand.of_body Bd
  have e0 : s₁.heap = h0 := by rw [← hh, Bd.state]; rfl
  have N0 := Fr.nil n0
  show Run p e below s 1 1 (Q_rm5a Z p1 h0 n0) (s₁.setTop (entryFrame m #[(.int p1)] 1))
  refine Run.go (fun _ k => castTop (ef_rm5a m p1) k) ?_
  show Run p e below s 1 1 (Q_rm5a Z p1 h0 n0) (s₁.setTop (mkF m 0 #[.val (.int p1)] []))
  refine Run.go (fun _ k => XS.iloadN X0.here hx rfl (hb hby d5_0) rfl  k) ?_
  show Run p e below s 1 1 (Q_rm5a Z p1 h0 n0) (s₁.setTop (mkF m 1 #[.val (.int p1)] [(.int p1)]))
  refine Run.go (fun _ k => XS.bipush X0.here hx rfl (hb hby d5_1) k) ?_
  show Run p e below s 1 1 (Q_rm5a Z p1 h0 n0) (s₁.setTop (mkF m 3 #[.val (.int p1)] [(.int (-128 : Int32)), (.int p1)]))
  refine Run.go (fun _ k => XS.icmpYes X0.here hx rfl (pc0 := 3) (pc' := 23) rfl (hb hby d5_3) rfl (tlt hc3).1 (by decide) (by decide) k) ?_
  show Run p e below s 1 1 (Q_rm5a Z p1 h0 n0) (s₁.setTop (mkF m 23 #[.val (.int p1)] []))
  obtain ⟨T2, h2, X2, e2, E2, A2, D2, -, st2⟩ := newO X0 hx hZ hown (hw _ (List.mem_of_getElem? (i := 33) rfl)) (hw _ (List.mem_of_getElem? (i := 34) rfl)) (hw _ (List.mem_of_getElem? (i := 29) rfl)) e0 (g := (mkF m 23 #[.val (.int p1)] [])) rfl (hb hby d5_23) (by decide) (by decide)
  obtain ⟨b2, g2⟩ : ∃ z, z = h0.size := ⟨_, rfl⟩
  rw [← g2] at A2 D2 st2
  have g_b2 : n0 ≤ b2 := Nat.le_trans Z0 (Nat.le_of_eq g2.symm)
  have sz_b2 : h0.size ≤ b2 := Nat.le_trans (Keep.refl h0 []).1 (Nat.le_of_eq g2.symm)
  have Z2 : n0 ≤ h2.size := Nat.le_trans Z0 E2.1
  have K2 : Keep h0 h2 [] := (Keep.refl h0 []).ext E2
  have fx3 : Fld Z h2 b2 "java/lang/Integer" "value" "I" (.int (0 : Int32)) := D2 (Or.inr (hw _ (List.mem_of_getElem? (i := 47) rfl))) (ty := .int) (by decide)
  refine Run.go st2 ?_
  show Run p e below s 1 1 (Q_rm5a Z p1 h0 n0) (T2.setTop (mkF m 26 #[.val (.int p1)] [(.ref b2)]))
  refine Run.go (fun _ k => XS.dup X2.here hx rfl (hb hby d5_26) rfl rfl k) ?_
  show Run p e below s 1 1 (Q_rm5a Z p1 h0 n0) (T2.setTop (mkF m 27 #[.val (.int p1)] [(.ref b2), (.ref b2)]))
  refine Run.go (fun _ k => XS.iloadN X2.here hx rfl (hb hby d5_27) rfl  k) ?_
  show Run p e below s 1 1 (Q_rm5a Z p1 h0 n0) (T2.setTop (mkF m 28 #[.val (.int p1)] [(.int p1), (.ref b2), (.ref b2)]))
  obtain ⟨_, _, ⟨T4, L4, k4, n4⟩, -, X4, ⟨Lc4, hQ4, l4, y4, z4⟩, st4⟩ := X2.specialBack hx (y := (⟨"java/lang/Integer", "<init>", "(I)V"⟩ : MethodName)) rfl hown (mvT hZ (hw _ (List.mem_of_getElem? (i := 35) rfl))) (mvT hZ (hw _ (List.mem_of_getElem? (i := 36) rfl))) (mvT hZ (hw _ (List.mem_of_getElem? (i := 38) rfl))) (by decide) (backOf (W := 1) (rm6 l Z a0 hw [] b2 p1 (.int (0 : Int32)) h2 n0 Z2 A2 fx3 g_b2) hZ (hw _ (List.mem_of_getElem? (i := 38) rfl)) (hw _ (List.mem_of_getElem? (i := 29) rfl)) (by decide) (by decide)) (g := (mkF m 28 #[.val (.int p1)] [(.int p1), (.ref b2), (.ref b2)])) rfl (by rw [hml]; rfl) (Steps.refl _) (a := b2) (argsL := [(.int p1)]) (rest := [(.ref b2)]) (lenOf pd_1 rfl) rfl (by show 2 * 0 + _ ≤ _; exact Nat.le_of_eq rfl) (hb hby d5_28) (fun _ _ => ⟨rfl, e2, (by decide : 1 + 0 ≤ _), (by decide : 1 + 0 ≤ _)⟩)
  dsimp only [Pt.U, Pt.locs, Pt.cells, Pt.slots] at X4 l4 y4 z4 st4 hQ4
  subst l4 y4 z4
  obtain ⟨rfl, N4q, K4q, fq4_0, fq4_1⟩ := hQ4
  have N4 := Fr.app N0 N4q
  have K4 : Keep h0 T4.heap [] := K2.trans K4q (allS (Or.inr sz_b2) all0)
  have Z4 : n0 ≤ T4.heap.size := Nat.le_trans Z2 K4q.1
  obtain ⟨Lg4, Xg4, Ng4⟩ := Stand_gen X4 N4
  refine Run.tr st4 ?_
  show Run p e below s 1 1 (Q_rm5a Z p1 h0 n0) (T4.setTop (mkF m 31 #[.val (.int p1)] [(.ref b2)]))
  refine Run.retA Xg4 hx rfl Bd.returns rfl Bd.notSynchronized (hb hby d5_31) (by decide) (by decide) ?_
  show Q_rm5a Z p1 h0 n0 _ T4.heap _
  exact ⟨b2, rfl, Ng4, K4, sz_b2, fq4_0, fq4_1⟩
theorem d5_6 : decode jdk_33_method_22_code 6 = .ok (.iload_n 0, 1) := by decide +kernel
theorem d5_7 : decode jdk_33_method_22_code 7 = .ok (.getstatic 191, 3) := by decide +kernel
theorem d5_10 : decode jdk_33_method_22_code 10 = .ok (.if_icmp .gt 13, 3) := by decide +kernel
def Q_rm5b (Z : State) (p1 : Int32) (h0 : Heap) (n0 : Nat) (v : Option Value) (h : Heap) (L : List Loc) : Prop := ∃ (b3 : Addr), v = some (.ref b3) ∧ Fr n0 L ∧ Keep h0 h [] ∧ h0.size ≤ b3 ∧ Exa Z h b3 "java/lang/Integer" ∧ Fld Z h b3 "java/lang/Integer" "value" "I" (.int p1)
theorem ef_rm5b (m : MethodId) (x0 : Int32) : entryFrame m #[(.int x0)] 1 = mkF m 0 #[.val (.int x0)] [] := by first | (simp [entryFrame, mkF, argsToLocals, Value.category]; done) | rfl
set_option maxRecDepth 65536 in
set_option maxHeartbeats 40000000 in
theorem rm5b (l : Launch) (Z : State) (a0 : Array Value) (hw : ∀ d ∈ tables_1, d.before a0 Z = true) (ws : List Jvm.Cond) (p1 : Int32) (h0 : Heap) (n0 : Nat) (Z0 : n0 ≤ h0.size) (S_Integer_IntegerCache_high : Sta Z h0 "java/lang/Integer$IntegerCache" "high" "I" (.int (127 : Int32))) (hc3 : ¬ (p1 < (-128 : Int32))) (hc10 : ((127 : Int32) < p1)) :
    MetFree l (⟨"java/lang/Integer", "valueOf", "(I)Ljava/lang/Integer;"⟩ : MethodName) (head1 (Jvm.Cond.code (⟨"java/lang/Integer", "valueOf", "(I)Ljava/lang/Integer;"⟩ : MethodName) jdk_33_method_22_code 1 (some (.object "java/lang/Integer")) :: ws) ({ frames := 3, cells := 1, slots := 1, locals := 38 } : Room)) (fun a U => a = #[(.int p1)] ∧ Z.Warmed39 U.vm ∧ U.heap = h0) (fun _ _ _ _ _ => True) (fun _ U o U' => ∃ v L, o = .returned v ∧ Q_rm5b Z p1 h0 n0 v U'.heap L ∧ FrameEnd U o U' L ({ frames := 3, cells := 1, slots := 1, locals := 38 } : Room).cells ({ frames := 3, cells := 1, slots := 1, locals := 38 } : Room).slots) := by
  refine MetFree.of_bodySF (plainFor_of_name pn_3) hisR ?_
  intro p e s m args below meth c s₁ Bd hml0 hP hK
  obtain ⟨rfl, hZ, hh⟩ := hP
  have hx := Bd.exec
  have hby := Bd.bytes
  have hml : c.maxLocals = 1 := hml0
  have hown : s.vm.findClass "java/lang/Integer" = some m.cls := findClass_of_methodNamed Bd.named
  have hnm := (name_of_methodNamed Bd.named Bd.method).1
  have X0 : Stand p l e ({ frames := 3, cells := 1, slots := 1, locals := 38 } : Room) s m #[(.int p1)] below meth c s₁ [] 0 0 := Stand.of_body Bd
  have e0 : s₁.heap = h0 := by rw [← hh, Bd.state]; rfl
  have N0 := Fr.nil n0
  show Run p e below s 1 1 (Q_rm5b Z p1 h0 n0) (s₁.setTop (entryFrame m #[(.int p1)] 1))
  refine Run.go (fun _ k => castTop (ef_rm5b m p1) k) ?_
  show Run p e below s 1 1 (Q_rm5b Z p1 h0 n0) (s₁.setTop (mkF m 0 #[.val (.int p1)] []))
  refine Run.go (fun _ k => XS.iloadN X0.here hx rfl (hb hby d5_0) rfl  k) ?_
  show Run p e below s 1 1 (Q_rm5b Z p1 h0 n0) (s₁.setTop (mkF m 1 #[.val (.int p1)] [(.int p1)]))
  refine Run.go (fun _ k => XS.bipush X0.here hx rfl (hb hby d5_1) k) ?_
  show Run p e below s 1 1 (Q_rm5b Z p1 h0 n0) (s₁.setTop (mkF m 3 #[.val (.int p1)] [(.int (-128 : Int32)), (.int p1)]))
  refine Run.go (fun _ k => XS.icmpNo X0.here hx rfl (hb hby d5_3) rfl (flt hc3).1 k) ?_
  show Run p e below s 1 1 (Q_rm5b Z p1 h0 n0) (s₁.setTop (mkF m 6 #[.val (.int p1)] []))
  refine Run.go (fun _ k => XS.iloadN X0.here hx rfl (hb hby d5_6) rfl  k) ?_
  show Run p e below s 1 1 (Q_rm5b Z p1 h0 n0) (s₁.setTop (mkF m 7 #[.val (.int p1)] [(.int p1)]))
  obtain ⟨T2, X2, e2, st2⟩ := getS2 X0 hx hZ hown (host := "") (Or.inl (hw _ (List.mem_of_getElem? (i := 31) rfl))) Via.refl e0 S_Integer_IntegerCache_high (g := (mkF m 7 #[.val (.int p1)] [(.int p1)])) rfl (hb hby d5_7)
  refine Run.go st2 ?_
  show Run p e below s 1 1 (Q_rm5b Z p1 h0 n0) (T2.setTop (mkF m 10 #[.val (.int p1)] [(.int (127 : Int32)), (.int p1)]))
  refine Run.go (fun _ k => XS.icmpYes X2.here hx rfl (pc0 := 10) (pc' := 23) rfl (hb hby d5_10) rfl (tlt hc10).2.2.1 (by decide) (by decide) k) ?_
  show Run p e below s 1 1 (Q_rm5b Z p1 h0 n0) (T2.setTop (mkF m 23 #[.val (.int p1)] []))
  obtain ⟨T3, h3, X3, e3, E3, A3, D3, -, st3⟩ := newO X2 hx hZ hown (hw _ (List.mem_of_getElem? (i := 33) rfl)) (hw _ (List.mem_of_getElem? (i := 34) rfl)) (hw _ (List.mem_of_getElem? (i := 29) rfl)) e2 (g := (mkF m 23 #[.val (.int p1)] [])) rfl (hb hby d5_23) (by decide) (by decide)
  obtain ⟨b3, g3⟩ : ∃ z, z = h0.size := ⟨_, rfl⟩
  rw [← g3] at A3 D3 st3
  have g_b3 : n0 ≤ b3 := Nat.le_trans Z0 (Nat.le_of_eq g3.symm)
  have sz_b3 : h0.size ≤ b3 := Nat.le_trans (Keep.refl h0 []).1 (Nat.le_of_eq g3.symm)
  have Z3 : n0 ≤ h3.size := Nat.le_trans Z0 E3.1
  have K3 : Keep h0 h3 [] := (Keep.refl h0 []).ext E3
  have fx4 : Fld Z h3 b3 "java/lang/Integer" "value" "I" (.int (0 : Int32)) := D3 (Or.inr (hw _ (List.mem_of_getElem? (i := 47) rfl))) (ty := .int) (by decide)
  refine Run.go st3 ?_
  show Run p e below s 1 1 (Q_rm5b Z p1 h0 n0) (T3.setTop (mkF m 26 #[.val (.int p1)] [(.ref b3)]))
  refine Run.go (fun _ k => XS.dup X3.here hx rfl (hb hby d5_26) rfl rfl k) ?_
  show Run p e below s 1 1 (Q_rm5b Z p1 h0 n0) (T3.setTop (mkF m 27 #[.val (.int p1)] [(.ref b3), (.ref b3)]))
  refine Run.go (fun _ k => XS.iloadN X3.here hx rfl (hb hby d5_27) rfl  k) ?_
  show Run p e below s 1 1 (Q_rm5b Z p1 h0 n0) (T3.setTop (mkF m 28 #[.val (.int p1)] [(.int p1), (.ref b3), (.ref b3)]))
  obtain ⟨_, _, ⟨T5, L5, k5, n5⟩, -, X5, ⟨Lc5, hQ5, l5, y5, z5⟩, st5⟩ := X3.specialBack hx (y := (⟨"java/lang/Integer", "<init>", "(I)V"⟩ : MethodName)) rfl hown (mvT hZ (hw _ (List.mem_of_getElem? (i := 35) rfl))) (mvT hZ (hw _ (List.mem_of_getElem? (i := 36) rfl))) (mvT hZ (hw _ (List.mem_of_getElem? (i := 38) rfl))) (by decide) (backOf (W := 1) (rm6 l Z a0 hw [] b3 p1 (.int (0 : Int32)) h3 n0 Z3 A3 fx4 g_b3) hZ (hw _ (List.mem_of_getElem? (i := 38) rfl)) (hw _ (List.mem_of_getElem? (i := 29) rfl)) (by decide) (by decide)) (g := (mkF m 28 #[.val (.int p1)] [(.int p1), (.ref b3), (.ref b3)])) rfl (by rw [hml]; rfl) (Steps.refl _) (a := b3) (argsL := [(.int p1)]) (rest := [(.ref b3)]) (lenOf pd_1 rfl) rfl (by show 2 * 0 + _ ≤ _; exact Nat.le_of_eq rfl) (hb hby d5_28) (fun _ _ => ⟨rfl, e3, (by decide : 1 + 0 ≤ _), (by decide : 1 + 0 ≤ _)⟩)
  dsimp only [Pt.U, Pt.locs, Pt.cells, Pt.slots] at X5 l5 y5 z5 st5 hQ5
  subst l5 y5 z5
  obtain ⟨rfl, N5q, K5q, fq5_0, fq5_1⟩ := hQ5
  have N5 := Fr.app N0 N5q
  have K5 : Keep h0 T5.heap [] := K3.trans K5q (allS (Or.inr sz_b3) all0)
  have Z5 : n0 ≤ T5.heap.size := Nat.le_trans Z3 K5q.1
  obtain ⟨Lg5, Xg5, Ng5⟩ := Stand_gen X5 N5
  refine Run.tr st5 ?_
  show Run p e below s 1 1 (Q_rm5b Z p1 h0 n0) (T5.setTop (mkF m 31 #[.val (.int p1)] [(.ref b3)]))
  refine Run.retA Xg5 hx rfl Bd.returns rfl Bd.notSynchronized (hb hby d5_31) (by decide) (by decide) ?_
  show Q_rm5b Z p1 h0 n0 _ T5.heap _
  exact ⟨b3, rfl, Ng5, K5, sz_b3, fq5_0, fq5_1⟩
theorem own_ci (p : Int32) (h1 : ¬ (p < (-128 : Int32))) (h2 : ¬ ((127 : Int32) < p)) : ¬ (p + (128 : Int32)) < 0 ∧ (p + (128 : Int32)).toNatClampNeg < 256 := by
  rw [Int32.lt_iff_toInt_lt] at h1 h2
  have q := c_iadd p 128
  have := rng32 p
  have := rng32 (p + 128)
  have e1 : (-128 : Int32).toInt = -128 := rfl
  have e2 : (127 : Int32).toInt = 127 := rfl
  have e3 : (128 : Int32).toInt = 128 := rfl
  have e0 : (0 : Int32).toInt = 0 := rfl
  rw [Int32.lt_iff_toInt_lt, Int32.toNatClampNeg]
  omega
theorem d5_13 : decode jdk_33_method_22_code 13 = .ok (.getstatic 195, 3) := by decide +kernel
theorem d5_16 : decode jdk_33_method_22_code 16 = .ok (.iload_n 0, 1) := by decide +kernel
theorem d5_17 : decode jdk_33_method_22_code 17 = .ok (.sipush 128, 3) := by decide +kernel
theorem d5_20 : decode jdk_33_method_22_code 20 = .ok (.iadd, 1) := by decide +kernel
theorem d5_21 : decode jdk_33_method_22_code 21 = .ok (.aaload, 1) := by decide +kernel
theorem d5_22 : decode jdk_33_method_22_code 22 = .ok (.areturn, 1) := by decide +kernel
def Q_rm5c (Z : State) (p1 : Int32) (vC : Addr) (fC : Nat → Value) (h0 : Heap) (n0 : Nat) (v : Option Value) (h : Heap) (L : List Loc) : Prop := ∃ b : Addr, v = some (.ref b) ∧ Fr n0 L ∧ h = h0 ∧ Exa Z h0 b "java/lang/Integer"
theorem ef_rm5c (m : MethodId) (x0 : Int32) : entryFrame m #[(.int x0)] 1 = mkF m 0 #[.val (.int x0)] [] := by first | (simp [entryFrame, mkF, argsToLocals, Value.category]; done) | rfl
set_option maxRecDepth 65536 in
set_option maxHeartbeats 40000000 in
theorem rm5c (l : Launch) (Z : State) (a0 : Array Value) (hw : ∀ d ∈ tables_1, d.before a0 Z = true) (ws : List Jvm.Cond) (p1 : Int32) (vC : Addr) (fC : Nat → Value) (h0 : Heap) (n0 : Nat) (Z0 : n0 ≤ h0.size) (S_Integer_IntegerCache_high : Sta Z h0 "java/lang/Integer$IntegerCache" "high" "I" (.int (127 : Int32))) (S_Integer_IntegerCache_cache : Sta Z h0 "java/lang/Integer$IntegerCache" "cache" "[Ljava/lang/Integer;" (.ref vC)) (A_vC : Ary Z h0 vC (.object "java/lang/Integer") 256 fC) (hall : ∀ i, i < 256 → ∃ y, fC i = Value.ref y ∧ Exa Z h0 y "java/lang/Integer") (hc3 : ¬ (p1 < (-128 : Int32))) (hc10 : ¬ ((127 : Int32) < p1)) :
    MetFree l (⟨"java/lang/Integer", "valueOf", "(I)Ljava/lang/Integer;"⟩ : MethodName) (head1 (Jvm.Cond.code (⟨"java/lang/Integer", "valueOf", "(I)Ljava/lang/Integer;"⟩ : MethodName) jdk_33_method_22_code 1 (some (.object "java/lang/Integer")) :: ws) ({ frames := 0, cells := 0, slots := 0, locals := 0 } : Room)) (fun a U => a = #[(.int p1)] ∧ Z.Warmed39 U.vm ∧ U.heap = h0) (fun _ _ _ _ _ => True) (fun _ U o U' => ∃ v L, o = .returned v ∧ Q_rm5c Z p1 vC fC h0 n0 v U'.heap L ∧ FrameEnd U o U' L ({ frames := 0, cells := 0, slots := 0, locals := 0 } : Room).cells ({ frames := 0, cells := 0, slots := 0, locals := 0 } : Room).slots) := by
  refine MetFree.of_bodySF (plainFor_of_name pn_3) hisR ?_
  intro p e s m args below meth c s₁ Bd hml0 hP hK
  obtain ⟨rfl, hZ, hh⟩ := hP
  have hx := Bd.exec
  have hby := Bd.bytes
  have hml : c.maxLocals = 1 := hml0
  have hown : s.vm.findClass "java/lang/Integer" = some m.cls := findClass_of_methodNamed Bd.named
  have hnm := (name_of_methodNamed Bd.named Bd.method).1
  have X0 : Stand p l e ({ frames := 0, cells := 0, slots := 0, locals := 0 } : Room) s m #[(.int p1)] below meth c s₁ [] 0 0 := Stand.of_body Bd
  have e0 : s₁.heap = h0 := by rw [← hh, Bd.state]; rfl
  have N0 := Fr.nil n0
  show Run p e below s 0 0 (Q_rm5c Z p1 vC fC h0 n0) (s₁.setTop (entryFrame m #[(.int p1)] 1))
  refine Run.go (fun _ k => castTop (ef_rm5c m p1) k) ?_
  show Run p e below s 0 0 (Q_rm5c Z p1 vC fC h0 n0) (s₁.setTop (mkF m 0 #[.val (.int p1)] []))
  refine Run.go (fun _ k => XS.iloadN X0.here hx rfl (hb hby d5_0) rfl  k) ?_
  show Run p e below s 0 0 (Q_rm5c Z p1 vC fC h0 n0) (s₁.setTop (mkF m 1 #[.val (.int p1)] [(.int p1)]))
  refine Run.go (fun _ k => XS.bipush X0.here hx rfl (hb hby d5_1) k) ?_
  show Run p e below s 0 0 (Q_rm5c Z p1 vC fC h0 n0) (s₁.setTop (mkF m 3 #[.val (.int p1)] [(.int (-128 : Int32)), (.int p1)]))
  refine Run.go (fun _ k => XS.icmpNo X0.here hx rfl (hb hby d5_3) rfl (flt hc3).1 k) ?_
  show Run p e below s 0 0 (Q_rm5c Z p1 vC fC h0 n0) (s₁.setTop (mkF m 6 #[.val (.int p1)] []))
  refine Run.go (fun _ k => XS.iloadN X0.here hx rfl (hb hby d5_6) rfl  k) ?_
  show Run p e below s 0 0 (Q_rm5c Z p1 vC fC h0 n0) (s₁.setTop (mkF m 7 #[.val (.int p1)] [(.int p1)]))
  obtain ⟨T2, X2, e2, st2⟩ := getS2 X0 hx hZ hown (host := "") (Or.inl (hw _ (List.mem_of_getElem? (i := 31) rfl))) Via.refl e0 S_Integer_IntegerCache_high (g := (mkF m 7 #[.val (.int p1)] [(.int p1)])) rfl (hb hby d5_7)
  refine Run.go st2 ?_
  show Run p e below s 0 0 (Q_rm5c Z p1 vC fC h0 n0) (T2.setTop (mkF m 10 #[.val (.int p1)] [(.int (127 : Int32)), (.int p1)]))
  refine Run.go (fun _ k => XS.icmpNo X2.here hx rfl (hb hby d5_10) rfl (flt hc10).2.2.1 k) ?_
  show Run p e below s 0 0 (Q_rm5c Z p1 vC fC h0 n0) (T2.setTop (mkF m 13 #[.val (.int p1)] []))
  obtain ⟨T3, X3, e3, st3⟩ := getS2 X2 hx hZ hown (host := "") (Or.inl (hw _ (List.mem_of_getElem? (i := 51) rfl))) Via.refl e2 S_Integer_IntegerCache_cache (g := (mkF m 13 #[.val (.int p1)] [])) rfl (hb hby d5_13)
  refine Run.go st3 ?_
  show Run p e below s 0 0 (Q_rm5c Z p1 vC fC h0 n0) (T3.setTop (mkF m 16 #[.val (.int p1)] [(.ref vC)]))
  refine Run.go (fun _ k => XS.iloadN X3.here hx rfl (hb hby d5_16) rfl  k) ?_
  show Run p e below s 0 0 (Q_rm5c Z p1 vC fC h0 n0) (T3.setTop (mkF m 17 #[.val (.int p1)] [(.int p1), (.ref vC)]))
  refine Run.go (fun _ k => XS.sipush X3.here hx rfl (hb hby d5_17) k) ?_
  show Run p e below s 0 0 (Q_rm5c Z p1 vC fC h0 n0) (T3.setTop (mkF m 20 #[.val (.int p1)] [(.int (128 : Int32)), (.int p1), (.ref vC)]))
  refine Run.go (fun _ k => XS.iadd X3.here hx rfl (hb hby d5_20) rfl k) ?_
  show Run p e below s 0 0 (Q_rm5c Z p1 vC fC h0 n0) (T3.setTop (mkF m 21 #[.val (.int p1)] [(.int (p1 + (128 : Int32))), (.ref vC)]))
  obtain ⟨y, hy, ye⟩ := hall ((p1 + (128 : Int32)).toNatClampNeg) (own_ci _ hc3 hc10).2
  refine Run.go (fun _ k => ary_aget X3 hx hZ e3 A_vC rfl (j := (p1 + (128 : Int32))) (own_ci _ hc3 hc10).1 (own_ci _ hc3 hc10).2 (g := (mkF m 21 #[.val (.int p1)] [(.int (p1 + (128 : Int32))), (.ref vC)])) rfl rfl (hb hby d5_21) hy _ k) ?_
  show Run p e below s 0 0 (Q_rm5c Z p1 vC fC h0 n0) (T3.setTop (mkF m 22 #[.val (.int p1)] [(.ref y)]))
  refine Run.retA X3 hx rfl Bd.returns rfl Bd.notSynchronized (hb hby d5_22) (by decide) (by decide) ?_
  show Q_rm5c Z p1 vC fC h0 n0 _ T3.heap _
  exact ⟨_, rfl, N0, e3, ye⟩
theorem own_m (x : Int32) : ¬ ((x &&& (65535 : Int32)) < (0 : Int32)) ∧ ¬ ((65535 : Int32) < (x &&& (65535 : Int32))) := by
  have h := c_and x 65535 (by decide)
  have e : (65535 : Int32).toInt = 65535 := rfl
  have e0 : (0 : Int32).toInt = 0 := rfl
  rw [Int32.lt_iff_toInt_lt, Int32.lt_iff_toInt_lt]
  omega
theorem own_m2 (c : Prop) [Decidable c] (x y w : Int32) (hw : w = if c then (x &&& (65535 : Int32)) else (y &&& (65535 : Int32))) : ¬ (w < (0 : Int32)) ∧ ¬ ((65535 : Int32) < w) := by
  subst hw
  by_cases h : c
  · rw [if_pos h]; exact own_m x
  · rw [if_neg h]; exact own_m y
theorem own_m3 (c : Prop) [Decidable c] (x y w : Int32) (hw : w = if c then (y &&& (65535 : Int32)) else (x &&& (65535 : Int32))) : ¬ (w < (0 : Int32)) ∧ ¬ ((65535 : Int32) < w) := own_m2 c y x w hw
theorem own_mk (x : Int32) : (((x.toUInt32 >>> ((2 : Int32) &&& 31).toUInt32).toInt32) &&& (3 : Int32)) = 0 ∨ (((x.toUInt32 >>> ((2 : Int32) &&& 31).toUInt32).toInt32) &&& (3 : Int32)) = 1 ∨ (((x.toUInt32 >>> ((2 : Int32) &&& 31).toUInt32).toInt32) &&& (3 : Int32)) = 2 ∨ (((x.toUInt32 >>> ((2 : Int32) &&& 31).toUInt32).toInt32) &&& (3 : Int32)) = 3 := by
  have h := c_and ((x.toUInt32 >>> ((2 : Int32) &&& 31).toUInt32).toInt32) 3 (by decide)
  have e : (3 : Int32).toInt = 3 := rfl
  simp only [← Int32.toInt_inj, show (0 : Int32).toInt = 0 from rfl, show (1 : Int32).toInt = 1 from rfl, show (2 : Int32).toInt = 2 from rfl, show (3 : Int32).toInt = 3 from rfl]
  omega
theorem own_eq1 (a b p q w : Int32) (hw : w = (if ((a = b) ∧ (p = q)) then (1 : Int32) else 0)) : F_rm4c b a q p = w := by
  subst hw; unfold F_rm4c
  have e : (b = a ∧ q = p) ↔ (a = b ∧ p = q) := ⟨fun h => ⟨h.1.symm, h.2.symm⟩, fun h => ⟨h.1.symm, h.2.symm⟩⟩
  simp only [e]
theorem own_eq2 (a b p q w : Int32) (hw : w = (if ((a = b) ∧ (p = q)) then (1 : Int32) else 0)) : F_rm4c a b p q = w := by
  subst hw; rfl
theorem own_len {args : Array Value} {s : State} {t : Term} {a : Addr} {c : Cell} (ht : t.eval args s none [] s = some (.ref a)) (hc : s.arrayAt? a = some c) (h : (Jvm.Cond.eq (Term.length t) (Term.int 256)).value args s none s [] = some true) : c.slots.size = 256 := by
  obtain ⟨x, y, q1, q2, -, -⟩ := cmp_v (Or.inl h)
  by_cases hn : c.slots.size < 2 ^ 31
  · have e := len_f ht hc hn
    have r := gotT (Cond.eq_ints e (Term.int_eval 256)) h
    rw [← Int32.toInt_inj, len_toInt hn] at r
    have : (256 : Int32).toInt = 256 := rfl
    omega
  · exfalso
    have hn' : ¬ c.slots.size < 2147483648 := hn
    simp [Term.eval, ht, hc, hn'] at q1
theorem own_inteq {args : Array Value} {s : State} {t : Term} {x : Value} {k : Int32} (h : (Jvm.Cond.eq t (Term.int k)).value args s none s [] = some true) (ht : t.eval args s none [] s = some x) : t.eval args s none [] s = some (.int k) := by
  cases x <;> simp [Cond.value, ht, Term.int_eval] at h ⊢
  exact h
theorem own_all {args : Array Value} {s : State} {t : Term} {a : Addr} {cell : Cell} {D : Jvm.Cond} (hn : cell.slots.size = 256) (A : Arr s s.heap a cell (.object "java/lang/Integer")) (ht : ∀ idx, t.eval args s none idx s = some (.ref a))
    (h : (Jvm.Cond.all t (Jvm.Cond.and (Jvm.Cond.exactly (Term.elem t (Term.index 0)) "java/lang/Integer") D)).value args s none s [] = some true) : ∀ i, i < 256 → ∃ y, (fun i => (cell.slots[i]?).getD .null) i = Value.ref y ∧ Exa s s.heap y "java/lang/Integer" := by
  intro i hi
  have q := (and_e (Cond.all_elim (ht []) (Arr.fin (Vm.Alike.refl _) A) h i (by omega))).1
  obtain ⟨y, ey⟩ := exa_v q
  obtain ⟨a', j, cell', e1, e2, e3, e4, e5⟩ := Term.elem_spec ey
  cases (ht [i]).symm.trans e1
  cases (Arr.fin (Vm.Alike.refl _) A).symm.trans e3
  have ej : j.toNatClampNeg = i := by
    have e2' : (Term.index 0).eval args s none [i] s = some (.int i.toInt32) := Term.index_eval _
    cases e2'.symm.trans e2
    have : i.toInt32.toInt = i := len_toInt (by omega)
    rw [Int32.toNatClampNeg, this]; omega
  rw [ej] at e5
  exact ⟨y, by show (cell.slots[i]?).getD .null = _; rw [e5]; rfl, exa_at ey q⟩
theorem pd_2 : parseMethodDescriptor "(II)V" = some ⟨[.int, .int], none⟩ := by decide +kernel
theorem pd_3 : parseMethodDescriptor "(Ljava/lang/Object;)Z" = some ⟨[(.object "java/lang/Object")], some .boolean⟩ := by decide +kernel
theorem pd_4 : parseMethodDescriptor "(I)Ljava/lang/Integer;" = some ⟨[.int], some (.object "java/lang/Integer")⟩ := by decide +kernel
def Q_rm0 (Z : State) (p1 : Int32) (p2 : Int32) (p3 : Int32) (p4 : Int32) (p5 : Int32) (vC : Addr) (fC : Nat → Value) (h0 : Heap) (n0 : Nat) (v : Option Value) (h : Heap) (L : List Loc) : Prop := v = some (.int 1) ∧ Fr n0 L
theorem ef_rm0 (m : MethodId) (x0 : Int32) (x1 : Int32) (x2 : Int32) (x3 : Int32) (x4 : Int32) : entryFrame m #[(.int x0), (.int x1), (.int x2), (.int x3), (.int x4)] maxLocals = mkF m 0 #[.val (.int x0), .val (.int x1), .val (.int x2), .val (.int x3), .val (.int x4), .unset, .unset, .unset, .unset, .unset, .unset, .unset] [] := by first | (simp [entryFrame, mkF, argsToLocals, Value.category, maxLocals]; done) | rfl
theorem pn_4 : plainName "murmuration/ContactEqualsPinLaw" = true := by first | (simp [plainName, overriddenIn]; done) | decide +kernel
set_option maxRecDepth 65536 in
set_option maxHeartbeats 40000000 in
theorem rm0 (l : Launch) (Z : State) (a0 : Array Value) (hw : ∀ d ∈ tables_1, d.before a0 Z = true) (ws : List Jvm.Cond) (p1 : Int32) (p2 : Int32) (p3 : Int32) (p4 : Int32) (p5 : Int32) (vC : Addr) (fC : Nat → Value) (h0 : Heap) (n0 : Nat) (Z0 : n0 ≤ h0.size) (S_Integer_IntegerCache_high : Sta Z h0 "java/lang/Integer$IntegerCache" "high" "I" (.int (127 : Int32))) (S_Integer_IntegerCache_cache : Sta Z h0 "java/lang/Integer$IntegerCache" "cache" "[Ljava/lang/Integer;" (.ref vC)) (A_vC : Ary Z h0 vC (.object "java/lang/Integer") 256 fC) (hall : ∀ i, i < 256 → ∃ y, fC i = Value.ref y ∧ Exa Z h0 y "java/lang/Integer") :
    MetFree l x (head1 (Jvm.Cond.code x code maxLocals ret :: ws) room_1) (fun a U => a = #[(.int p1), (.int p2), (.int p3), (.int p4), (.int p5)] ∧ Z.Warmed39 U.vm ∧ U.heap = h0) (fun _ _ _ _ _ => True) (fun _ U o U' => ∃ v L, o = .returned v ∧ Q_rm0 Z p1 p2 p3 p4 p5 vC fC h0 n0 v U'.heap L ∧ FrameEnd U o U' L 3 5) := by
  refine MetFree.of_bodySF (plainFor_of_name pn_4) hisR ?_
  intro p e s m args below meth c s₁ Bd hml0 hP hK
  obtain ⟨rfl, hZ, hh⟩ := hP
  have hx := Bd.exec
  have hby := Bd.bytes
  have hml : c.maxLocals = 12 := hml0
  have hown : s.vm.findClass "murmuration/ContactEqualsPinLaw" = some m.cls := findClass_of_methodNamed Bd.named
  have hnm := (name_of_methodNamed Bd.named Bd.method).1
  have X0 : Stand p l e room_1 s m #[(.int p1), (.int p2), (.int p3), (.int p4), (.int p5)] below meth c s₁ [] 0 0 := Stand.of_body Bd
  have e0 : s₁.heap = h0 := by rw [← hh, Bd.state]; rfl
  have N0 := Fr.nil n0
  show Run p e below s 3 5 (Q_rm0 Z p1 p2 p3 p4 p5 vC fC h0 n0) (s₁.setTop (entryFrame m #[(.int p1), (.int p2), (.int p3), (.int p4), (.int p5)] maxLocals))
  refine Run.go (fun _ k => castTop (ef_rm0 m p1 p2 p3 p4 p5) k) ?_
  show Run p e below s 3 5 (Q_rm0 Z p1 p2 p3 p4 p5 vC fC h0 n0) (s₁.setTop (mkF m 0 #[.val (.int p1), .val (.int p2), .val (.int p3), .val (.int p4), .val (.int p5), .unset, .unset, .unset, .unset, .unset, .unset, .unset] []))
  refine Run.go (fun _ k => XS.iloadN X0.here hx rfl (hb hby at_0) rfl  k) ?_
  show Run p e below s 3 5 (Q_rm0 Z p1 p2 p3 p4 p5 vC fC h0 n0) (s₁.setTop (mkF m 1 #[.val (.int p1), .val (.int p2), .val (.int p3), .val (.int p4), .val (.int p5), .unset, .unset, .unset, .unset, .unset, .unset, .unset] [(.int p2)]))
  refine Run.go (fun _ k => X0.ldcInt hx hown (mvT hZ (hw _ (List.mem_of_getElem? (i := 0) rfl))) (g := (mkF m 1 #[.val (.int p1), .val (.int p2), .val (.int p3), .val (.int p4), .val (.int p5), .unset, .unset, .unset, .unset, .unset, .unset, .unset] [(.int p2)])) rfl (hb hby at_1) _ k) ?_
  show Run p e below s 3 5 (Q_rm0 Z p1 p2 p3 p4 p5 vC fC h0 n0) (s₁.setTop (mkF m 3 #[.val (.int p1), .val (.int p2), .val (.int p3), .val (.int p4), .val (.int p5), .unset, .unset, .unset, .unset, .unset, .unset, .unset] [(.int (65535 : Int32)), (.int p2)]))
  refine Run.go (fun _ k => XS.iand X0.here hx rfl (hb hby at_3) rfl k) ?_
  show Run p e below s 3 5 (Q_rm0 Z p1 p2 p3 p4 p5 vC fC h0 n0) (s₁.setTop (mkF m 4 #[.val (.int p1), .val (.int p2), .val (.int p3), .val (.int p4), .val (.int p5), .unset, .unset, .unset, .unset, .unset, .unset, .unset] [(.int (p2 &&& (65535 : Int32)))]))
  refine Run.go (fun _ k => XS.istore X0.here hx rfl (hb hby at_4) rfl (l' := #[.val (.int p1), .val (.int p2), .val (.int p3), .val (.int p4), .val (.int p5), .val (.int (p2 &&& (65535 : Int32))), .unset, .unset, .unset, .unset, .unset, .unset]) rfl k) ?_
  show Run p e below s 3 5 (Q_rm0 Z p1 p2 p3 p4 p5 vC fC h0 n0) (s₁.setTop (mkF m 6 #[.val (.int p1), .val (.int p2), .val (.int p3), .val (.int p4), .val (.int p5), .val (.int (p2 &&& (65535 : Int32))), .unset, .unset, .unset, .unset, .unset, .unset] []))
  refine Run.go (fun _ k => XS.iload X0.here hx rfl (hb hby at_6) rfl  k) ?_
  show Run p e below s 3 5 (Q_rm0 Z p1 p2 p3 p4 p5 vC fC h0 n0) (s₁.setTop (mkF m 8 #[.val (.int p1), .val (.int p2), .val (.int p3), .val (.int p4), .val (.int p5), .val (.int (p2 &&& (65535 : Int32))), .unset, .unset, .unset, .unset, .unset, .unset] [(.int p5)]))
  refine Run.go (fun _ k => XS.iconst X0.here hx rfl (hb hby at_8) k) ?_
  show Run p e below s 3 5 (Q_rm0 Z p1 p2 p3 p4 p5 vC fC h0 n0) (s₁.setTop (mkF m 9 #[.val (.int p1), .val (.int p2), .val (.int p3), .val (.int p4), .val (.int p5), .val (.int (p2 &&& (65535 : Int32))), .unset, .unset, .unset, .unset, .unset, .unset] [(.int (1 : Int32)), (.int p5)]))
  refine Run.go (fun _ k => XS.iand X0.here hx rfl (hb hby at_9) rfl k) ?_
  show Run p e below s 3 5 (Q_rm0 Z p1 p2 p3 p4 p5 vC fC h0 n0) (s₁.setTop (mkF m 10 #[.val (.int p1), .val (.int p2), .val (.int p3), .val (.int p4), .val (.int p5), .val (.int (p2 &&& (65535 : Int32))), .unset, .unset, .unset, .unset, .unset, .unset] [(.int (p5 &&& (1 : Int32)))]))
  have J6 : ∀ (w7 : Int32) (hw7 : w7 = (if ((p5 &&& (1 : Int32)) = (0 : Int32)) then p3 else p1)) (T8 : State) (L8 : List Loc) (X8 : Stand p l e room_1 s m #[(.int p1), (.int p2), (.int p3), (.int p4), (.int p5)] below meth c T8 L8 0 0) (e8 : T8.heap = h0) (N8 : Fr n0 L8), Run p e below s 3 5 (Q_rm0 Z p1 p2 p3 p4 p5 vC fC h0 n0) (T8.setTop (mkF m 18 #[.val (.int p1), .val (.int p2), .val (.int p3), .val (.int p4), .val (.int p5), .val (.int (p2 &&& (65535 : Int32))), .unset, .unset, .unset, .unset, .unset, .unset] [(.int w7)])) := by
    intro w7 hw7 T8 L8 X8 e8 N8
    show Run p e below s 3 5 (Q_rm0 Z p1 p2 p3 p4 p5 vC fC h0 n0) (T8.setTop (mkF m 18 #[.val (.int p1), .val (.int p2), .val (.int p3), .val (.int p4), .val (.int p5), .val (.int (p2 &&& (65535 : Int32))), .unset, .unset, .unset, .unset, .unset, .unset] [(.int w7)]))
    refine Run.go (fun _ k => XS.istore X8.here hx rfl (hb hby at_18) rfl (l' := #[.val (.int p1), .val (.int p2), .val (.int p3), .val (.int p4), .val (.int p5), .val (.int (p2 &&& (65535 : Int32))), .val (.int w7), .unset, .unset, .unset, .unset, .unset]) rfl k) ?_
    show Run p e below s 3 5 (Q_rm0 Z p1 p2 p3 p4 p5 vC fC h0 n0) (T8.setTop (mkF m 20 #[.val (.int p1), .val (.int p2), .val (.int p3), .val (.int p4), .val (.int p5), .val (.int (p2 &&& (65535 : Int32))), .val (.int w7), .unset, .unset, .unset, .unset, .unset] []))
    refine Run.go (fun _ k => XS.iload X8.here hx rfl (hb hby at_20) rfl  k) ?_
    show Run p e below s 3 5 (Q_rm0 Z p1 p2 p3 p4 p5 vC fC h0 n0) (T8.setTop (mkF m 22 #[.val (.int p1), .val (.int p2), .val (.int p3), .val (.int p4), .val (.int p5), .val (.int (p2 &&& (65535 : Int32))), .val (.int w7), .unset, .unset, .unset, .unset, .unset] [(.int p5)]))
    refine Run.go (fun _ k => XS.iconst X8.here hx rfl (hb hby at_22) k) ?_
    show Run p e below s 3 5 (Q_rm0 Z p1 p2 p3 p4 p5 vC fC h0 n0) (T8.setTop (mkF m 23 #[.val (.int p1), .val (.int p2), .val (.int p3), .val (.int p4), .val (.int p5), .val (.int (p2 &&& (65535 : Int32))), .val (.int w7), .unset, .unset, .unset, .unset, .unset] [(.int (2 : Int32)), (.int p5)]))
    refine Run.go (fun _ k => XS.iand X8.here hx rfl (hb hby at_23) rfl k) ?_
    show Run p e below s 3 5 (Q_rm0 Z p1 p2 p3 p4 p5 vC fC h0 n0) (T8.setTop (mkF m 24 #[.val (.int p1), .val (.int p2), .val (.int p3), .val (.int p4), .val (.int p5), .val (.int (p2 &&& (65535 : Int32))), .val (.int w7), .unset, .unset, .unset, .unset, .unset] [(.int (p5 &&& (2 : Int32)))]))
    have J9 : ∀ (w10 : Int32) (hw10 : w10 = (if ((p5 &&& (2 : Int32)) = (0 : Int32)) then (p4 &&& (65535 : Int32)) else (p2 &&& (65535 : Int32)))) (T11 : State) (L11 : List Loc) (X11 : Stand p l e room_1 s m #[(.int p1), (.int p2), (.int p3), (.int p4), (.int p5)] below meth c T11 L11 0 0) (e11 : T11.heap = h0) (N11 : Fr n0 L11), Run p e below s 3 5 (Q_rm0 Z p1 p2 p3 p4 p5 vC fC h0 n0) (T11.setTop (mkF m 36 #[.val (.int p1), .val (.int p2), .val (.int p3), .val (.int p4), .val (.int p5), .val (.int (p2 &&& (65535 : Int32))), .val (.int w7), .unset, .unset, .unset, .unset, .unset] [(.int w10)])) := by
      intro w10 hw10 T11 L11 X11 e11 N11
      show Run p e below s 3 5 (Q_rm0 Z p1 p2 p3 p4 p5 vC fC h0 n0) (T11.setTop (mkF m 36 #[.val (.int p1), .val (.int p2), .val (.int p3), .val (.int p4), .val (.int p5), .val (.int (p2 &&& (65535 : Int32))), .val (.int w7), .unset, .unset, .unset, .unset, .unset] [(.int w10)]))
      refine Run.go (fun _ k => XS.istore X11.here hx rfl (hb hby at_36) rfl (l' := #[.val (.int p1), .val (.int p2), .val (.int p3), .val (.int p4), .val (.int p5), .val (.int (p2 &&& (65535 : Int32))), .val (.int w7), .val (.int w10), .unset, .unset, .unset, .unset]) rfl k) ?_
      show Run p e below s 3 5 (Q_rm0 Z p1 p2 p3 p4 p5 vC fC h0 n0) (T11.setTop (mkF m 38 #[.val (.int p1), .val (.int p2), .val (.int p3), .val (.int p4), .val (.int p5), .val (.int (p2 &&& (65535 : Int32))), .val (.int w7), .val (.int w10), .unset, .unset, .unset, .unset] []))
      obtain ⟨T12, h12, X12, e12, E12, A12, D12, -, st12⟩ := newO X11 hx hZ hown (hw _ (List.mem_of_getElem? (i := 1) rfl)) (hw _ (List.mem_of_getElem? (i := 2) rfl)) (hw _ (List.mem_of_getElem? (i := 3) rfl)) e11 (g := (mkF m 38 #[.val (.int p1), .val (.int p2), .val (.int p3), .val (.int p4), .val (.int p5), .val (.int (p2 &&& (65535 : Int32))), .val (.int w7), .val (.int w10), .unset, .unset, .unset, .unset] [])) rfl (hb hby at_38) (by decide) (by decide)
      obtain ⟨b12, g12⟩ : ∃ z, z = h0.size := ⟨_, rfl⟩
      rw [← g12] at A12 D12 st12
      have g_b12 : n0 ≤ b12 := Nat.le_trans Z0 (Nat.le_of_eq g12.symm)
      have sz_b12 : h0.size ≤ b12 := Nat.le_trans (Keep.refl h0 []).1 (Nat.le_of_eq g12.symm)
      have Z12 : n0 ≤ h12.size := Nat.le_trans Z0 E12.1
      have K12 : Keep h0 h12 [] := (Keep.refl h0 []).ext E12
      have ne_vC_b12 : vC ≠ b12 := Nat.ne_of_lt (Nat.lt_of_lt_of_le A_vC.lt (Nat.le_of_eq g12.symm))
      have fx13 : Fld Z h12 b12 "murmuration/Contact" "address" "I" (.int (0 : Int32)) := D12 (Or.inr (hw _ (List.mem_of_getElem? (i := 17) rfl))) (ty := .int) (by decide)
      have fx14 : Fld Z h12 b12 "murmuration/Contact" "port" "I" (.int (0 : Int32)) := D12 (Or.inr (hw _ (List.mem_of_getElem? (i := 19) rfl))) (ty := .int) (by decide)
      refine Run.go st12 ?_
      show Run p e below s 3 5 (Q_rm0 Z p1 p2 p3 p4 p5 vC fC h0 n0) (T12.setTop (mkF m 41 #[.val (.int p1), .val (.int p2), .val (.int p3), .val (.int p4), .val (.int p5), .val (.int (p2 &&& (65535 : Int32))), .val (.int w7), .val (.int w10), .unset, .unset, .unset, .unset] [(.ref b12)]))
      refine Run.go (fun _ k => XS.dup X12.here hx rfl (hb hby at_41) rfl rfl k) ?_
      show Run p e below s 3 5 (Q_rm0 Z p1 p2 p3 p4 p5 vC fC h0 n0) (T12.setTop (mkF m 42 #[.val (.int p1), .val (.int p2), .val (.int p3), .val (.int p4), .val (.int p5), .val (.int (p2 &&& (65535 : Int32))), .val (.int w7), .val (.int w10), .unset, .unset, .unset, .unset] [(.ref b12), (.ref b12)]))
      refine Run.go (fun _ k => XS.iloadN X12.here hx rfl (hb hby at_42) rfl  k) ?_
      show Run p e below s 3 5 (Q_rm0 Z p1 p2 p3 p4 p5 vC fC h0 n0) (T12.setTop (mkF m 43 #[.val (.int p1), .val (.int p2), .val (.int p3), .val (.int p4), .val (.int p5), .val (.int (p2 &&& (65535 : Int32))), .val (.int w7), .val (.int w10), .unset, .unset, .unset, .unset] [(.int p1), (.ref b12), (.ref b12)]))
      refine Run.go (fun _ k => XS.iload X12.here hx rfl (hb hby at_43) rfl  k) ?_
      show Run p e below s 3 5 (Q_rm0 Z p1 p2 p3 p4 p5 vC fC h0 n0) (T12.setTop (mkF m 45 #[.val (.int p1), .val (.int p2), .val (.int p3), .val (.int p4), .val (.int p5), .val (.int (p2 &&& (65535 : Int32))), .val (.int w7), .val (.int w10), .unset, .unset, .unset, .unset] [(.int (p2 &&& (65535 : Int32))), (.int p1), (.ref b12), (.ref b12)]))
      obtain ⟨_, _, ⟨T15, L15, k15, n15⟩, -, X15, ⟨Lc15, hQ15, l15, y15, z15⟩, st15⟩ := X12.specialBack hx (y := (⟨"murmuration/Contact", "<init>", "(II)V"⟩ : MethodName)) rfl hown (mvT hZ (hw _ (List.mem_of_getElem? (i := 4) rfl))) (mvT hZ (hw _ (List.mem_of_getElem? (i := 5) rfl))) (mvT hZ (hw _ (List.mem_of_getElem? (i := 6) rfl))) (by decide) (backOf (W := 1) (rm1 l Z a0 hw [] b12 p1 (p2 &&& (65535 : Int32)) (.int (0 : Int32)) (.int (0 : Int32)) h12 n0 Z12 (own_m p2).1 (own_m p2).2 A12 fx13 g_b12 fx14) hZ (hw _ (List.mem_of_getElem? (i := 6) rfl)) (hw _ (List.mem_of_getElem? (i := 3) rfl)) (by decide) (by decide)) (g := (mkF m 45 #[.val (.int p1), .val (.int p2), .val (.int p3), .val (.int p4), .val (.int p5), .val (.int (p2 &&& (65535 : Int32))), .val (.int w7), .val (.int w10), .unset, .unset, .unset, .unset] [(.int (p2 &&& (65535 : Int32))), (.int p1), (.ref b12), (.ref b12)])) rfl (by rw [hml]; rfl) (Steps.refl _) (a := b12) (argsL := [(.int p1), (.int (p2 &&& (65535 : Int32)))]) (rest := [(.ref b12)]) (lenOf pd_2 rfl) rfl (by show 2 * 0 + _ ≤ _; exact Nat.le_of_eq rfl) (hb hby at_45) (fun _ _ => ⟨rfl, e12, (by decide : 1 + 0 ≤ _), (by decide : 2 + 0 ≤ _)⟩)
      dsimp only [Pt.U, Pt.locs, Pt.cells, Pt.slots] at X15 l15 y15 z15 st15 hQ15
      subst l15 y15 z15
      obtain ⟨rfl, N15q, K15q, fq15_0, fq15_1, fq15_2⟩ := hQ15
      have N15 := Fr.app N11 N15q
      have K15 : Keep h0 T15.heap [] := K12.trans K15q (allS (Or.inr sz_b12) all0)
      have Z15 : n0 ≤ T15.heap.size := Nat.le_trans Z12 K15q.1
      obtain ⟨Lg15, Xg15, Ng15⟩ := Stand_gen X15 N15
      refine Run.tr st15 ?_
      show Run p e below s 3 5 (Q_rm0 Z p1 p2 p3 p4 p5 vC fC h0 n0) (T15.setTop (mkF m 48 #[.val (.int p1), .val (.int p2), .val (.int p3), .val (.int p4), .val (.int p5), .val (.int (p2 &&& (65535 : Int32))), .val (.int w7), .val (.int w10), .unset, .unset, .unset, .unset] [(.ref b12)]))
      refine Run.go (fun _ k => XS.astore Xg15.here hx rfl (hb hby at_48) rfl rfl (l' := #[.val (.int p1), .val (.int p2), .val (.int p3), .val (.int p4), .val (.int p5), .val (.int (p2 &&& (65535 : Int32))), .val (.int w7), .val (.int w10), .val (.ref b12), .unset, .unset, .unset]) rfl k) ?_
      show Run p e below s 3 5 (Q_rm0 Z p1 p2 p3 p4 p5 vC fC h0 n0) (T15.setTop (mkF m 50 #[.val (.int p1), .val (.int p2), .val (.int p3), .val (.int p4), .val (.int p5), .val (.int (p2 &&& (65535 : Int32))), .val (.int w7), .val (.int w10), .val (.ref b12), .unset, .unset, .unset] []))
      have fx16 := ((A_vC.ext E12).keep K15q (ninS ne_vC_b12 nin0))
      obtain ⟨T17, h17, X17, e17, E17, A17, D17, -, st17⟩ := newO Xg15 hx hZ hown (hw _ (List.mem_of_getElem? (i := 1) rfl)) (hw _ (List.mem_of_getElem? (i := 2) rfl)) (hw _ (List.mem_of_getElem? (i := 3) rfl)) rfl (g := (mkF m 50 #[.val (.int p1), .val (.int p2), .val (.int p3), .val (.int p4), .val (.int p5), .val (.int (p2 &&& (65535 : Int32))), .val (.int w7), .val (.int w10), .val (.ref b12), .unset, .unset, .unset] [])) rfl (hb hby at_50) (by decide) (by decide)
      obtain ⟨b17, g17⟩ : ∃ z, z = T15.heap.size := ⟨_, rfl⟩
      rw [← g17] at A17 D17 st17
      have g_b17 : n0 ≤ b17 := Nat.le_trans Z15 (Nat.le_of_eq g17.symm)
      have sz_b17 : h0.size ≤ b17 := Nat.le_trans K15.1 (Nat.le_of_eq g17.symm)
      have Z17 : n0 ≤ h17.size := Nat.le_trans Z15 E17.1
      have K17 : Keep h0 h17 [] := K15.ext E17
      have ne_vC_b17 : vC ≠ b17 := Nat.ne_of_lt (Nat.lt_of_lt_of_le fx16.lt (Nat.le_of_eq g17.symm))
      have ne_b12_b17 : b12 ≠ b17 := Nat.ne_of_lt (Nat.lt_of_lt_of_le fq15_0.lt (Nat.le_of_eq g17.symm))
      have fx18 : Fld Z h17 b17 "murmuration/Contact" "address" "I" (.int (0 : Int32)) := D17 (Or.inr (hw _ (List.mem_of_getElem? (i := 17) rfl))) (ty := .int) (by decide)
      have fx19 : Fld Z h17 b17 "murmuration/Contact" "port" "I" (.int (0 : Int32)) := D17 (Or.inr (hw _ (List.mem_of_getElem? (i := 19) rfl))) (ty := .int) (by decide)
      refine Run.go st17 ?_
      show Run p e below s 3 5 (Q_rm0 Z p1 p2 p3 p4 p5 vC fC h0 n0) (T17.setTop (mkF m 53 #[.val (.int p1), .val (.int p2), .val (.int p3), .val (.int p4), .val (.int p5), .val (.int (p2 &&& (65535 : Int32))), .val (.int w7), .val (.int w10), .val (.ref b12), .unset, .unset, .unset] [(.ref b17)]))
      refine Run.go (fun _ k => XS.dup X17.here hx rfl (hb hby at_53) rfl rfl k) ?_
      show Run p e below s 3 5 (Q_rm0 Z p1 p2 p3 p4 p5 vC fC h0 n0) (T17.setTop (mkF m 54 #[.val (.int p1), .val (.int p2), .val (.int p3), .val (.int p4), .val (.int p5), .val (.int (p2 &&& (65535 : Int32))), .val (.int w7), .val (.int w10), .val (.ref b12), .unset, .unset, .unset] [(.ref b17), (.ref b17)]))
      refine Run.go (fun _ k => XS.iload X17.here hx rfl (hb hby at_54) rfl  k) ?_
      show Run p e below s 3 5 (Q_rm0 Z p1 p2 p3 p4 p5 vC fC h0 n0) (T17.setTop (mkF m 56 #[.val (.int p1), .val (.int p2), .val (.int p3), .val (.int p4), .val (.int p5), .val (.int (p2 &&& (65535 : Int32))), .val (.int w7), .val (.int w10), .val (.ref b12), .unset, .unset, .unset] [(.int w7), (.ref b17), (.ref b17)]))
      refine Run.go (fun _ k => XS.iload X17.here hx rfl (hb hby at_56) rfl  k) ?_
      show Run p e below s 3 5 (Q_rm0 Z p1 p2 p3 p4 p5 vC fC h0 n0) (T17.setTop (mkF m 58 #[.val (.int p1), .val (.int p2), .val (.int p3), .val (.int p4), .val (.int p5), .val (.int (p2 &&& (65535 : Int32))), .val (.int w7), .val (.int w10), .val (.ref b12), .unset, .unset, .unset] [(.int w10), (.int w7), (.ref b17), (.ref b17)]))
      obtain ⟨_, _, ⟨T20, L20, k20, n20⟩, -, X20, ⟨Lc20, hQ20, l20, y20, z20⟩, st20⟩ := X17.specialBack hx (y := (⟨"murmuration/Contact", "<init>", "(II)V"⟩ : MethodName)) rfl hown (mvT hZ (hw _ (List.mem_of_getElem? (i := 4) rfl))) (mvT hZ (hw _ (List.mem_of_getElem? (i := 5) rfl))) (mvT hZ (hw _ (List.mem_of_getElem? (i := 6) rfl))) (by decide) (backOf (W := 1) (rm1 l Z a0 hw [] b17 w7 w10 (.int (0 : Int32)) (.int (0 : Int32)) h17 n0 Z17 (own_m2 _ _ _ _ hw10).1 (own_m2 _ _ _ _ hw10).2 A17 fx18 g_b17 fx19) hZ (hw _ (List.mem_of_getElem? (i := 6) rfl)) (hw _ (List.mem_of_getElem? (i := 3) rfl)) (by decide) (by decide)) (g := (mkF m 58 #[.val (.int p1), .val (.int p2), .val (.int p3), .val (.int p4), .val (.int p5), .val (.int (p2 &&& (65535 : Int32))), .val (.int w7), .val (.int w10), .val (.ref b12), .unset, .unset, .unset] [(.int w10), (.int w7), (.ref b17), (.ref b17)])) rfl (by rw [hml]; rfl) (Steps.refl _) (a := b17) (argsL := [(.int w7), (.int w10)]) (rest := [(.ref b17)]) (lenOf pd_2 rfl) rfl (by show 2 * 0 + _ ≤ _; exact Nat.le_of_eq rfl) (hb hby at_58) (fun _ _ => ⟨rfl, e17, (by decide : 2 + 0 ≤ _), (by decide : 4 + 0 ≤ _)⟩)
      dsimp only [Pt.U, Pt.locs, Pt.cells, Pt.slots] at X20 l20 y20 z20 st20 hQ20
      subst l20 y20 z20
      obtain ⟨rfl, N20q, K20q, fq20_0, fq20_1, fq20_2⟩ := hQ20
      have N20 := Fr.app Ng15 N20q
      have K20 : Keep h0 T20.heap [] := K17.trans K20q (allS (Or.inr sz_b17) all0)
      have Z20 : n0 ≤ T20.heap.size := Nat.le_trans Z17 K20q.1
      obtain ⟨Lg20, Xg20, Ng20⟩ := Stand_gen X20 N20
      refine Run.tr st20 ?_
      show Run p e below s 3 5 (Q_rm0 Z p1 p2 p3 p4 p5 vC fC h0 n0) (T20.setTop (mkF m 61 #[.val (.int p1), .val (.int p2), .val (.int p3), .val (.int p4), .val (.int p5), .val (.int (p2 &&& (65535 : Int32))), .val (.int w7), .val (.int w10), .val (.ref b12), .unset, .unset, .unset] [(.ref b17)]))
      refine Run.go (fun _ k => XS.astore Xg20.here hx rfl (hb hby at_61) rfl rfl (l' := #[.val (.int p1), .val (.int p2), .val (.int p3), .val (.int p4), .val (.int p5), .val (.int (p2 &&& (65535 : Int32))), .val (.int w7), .val (.int w10), .val (.ref b12), .val (.ref b17), .unset, .unset]) rfl k) ?_
      show Run p e below s 3 5 (Q_rm0 Z p1 p2 p3 p4 p5 vC fC h0 n0) (T20.setTop (mkF m 63 #[.val (.int p1), .val (.int p2), .val (.int p3), .val (.int p4), .val (.int p5), .val (.int (p2 &&& (65535 : Int32))), .val (.int w7), .val (.int w10), .val (.ref b12), .val (.ref b17), .unset, .unset] []))
      refine Run.go (fun _ k => XS.iload Xg20.here hx rfl (hb hby at_63) rfl  k) ?_
      show Run p e below s 3 5 (Q_rm0 Z p1 p2 p3 p4 p5 vC fC h0 n0) (T20.setTop (mkF m 65 #[.val (.int p1), .val (.int p2), .val (.int p3), .val (.int p4), .val (.int p5), .val (.int (p2 &&& (65535 : Int32))), .val (.int w7), .val (.int w10), .val (.ref b12), .val (.ref b17), .unset, .unset] [(.int p5)]))
      refine Run.go (fun _ k => XS.iconst Xg20.here hx rfl (hb hby at_65) k) ?_
      show Run p e below s 3 5 (Q_rm0 Z p1 p2 p3 p4 p5 vC fC h0 n0) (T20.setTop (mkF m 66 #[.val (.int p1), .val (.int p2), .val (.int p3), .val (.int p4), .val (.int p5), .val (.int (p2 &&& (65535 : Int32))), .val (.int w7), .val (.int w10), .val (.ref b12), .val (.ref b17), .unset, .unset] [(.int (2 : Int32)), (.int p5)]))
      refine Run.go (fun _ k => XS.iushr Xg20.here hx rfl (hb hby at_66) rfl k) ?_
      show Run p e below s 3 5 (Q_rm0 Z p1 p2 p3 p4 p5 vC fC h0 n0) (T20.setTop (mkF m 67 #[.val (.int p1), .val (.int p2), .val (.int p3), .val (.int p4), .val (.int p5), .val (.int (p2 &&& (65535 : Int32))), .val (.int w7), .val (.int w10), .val (.ref b12), .val (.ref b17), .unset, .unset] [(.int ((p5.toUInt32 >>> ((2 : Int32) &&& 31).toUInt32).toInt32))]))
      refine Run.go (fun _ k => XS.iconst Xg20.here hx rfl (hb hby at_67) k) ?_
      show Run p e below s 3 5 (Q_rm0 Z p1 p2 p3 p4 p5 vC fC h0 n0) (T20.setTop (mkF m 68 #[.val (.int p1), .val (.int p2), .val (.int p3), .val (.int p4), .val (.int p5), .val (.int (p2 &&& (65535 : Int32))), .val (.int w7), .val (.int w10), .val (.ref b12), .val (.ref b17), .unset, .unset] [(.int (3 : Int32)), (.int ((p5.toUInt32 >>> ((2 : Int32) &&& 31).toUInt32).toInt32))]))
      refine Run.go (fun _ k => XS.iand Xg20.here hx rfl (hb hby at_68) rfl k) ?_
      show Run p e below s 3 5 (Q_rm0 Z p1 p2 p3 p4 p5 vC fC h0 n0) (T20.setTop (mkF m 69 #[.val (.int p1), .val (.int p2), .val (.int p3), .val (.int p4), .val (.int p5), .val (.int (p2 &&& (65535 : Int32))), .val (.int w7), .val (.int w10), .val (.ref b12), .val (.ref b17), .unset, .unset] [(.int (((p5.toUInt32 >>> ((2 : Int32) &&& 31).toUInt32).toInt32) &&& (3 : Int32)))]))
      refine Run.go (fun _ k => XS.istore Xg20.here hx rfl (hb hby at_69) rfl (l' := #[.val (.int p1), .val (.int p2), .val (.int p3), .val (.int p4), .val (.int p5), .val (.int (p2 &&& (65535 : Int32))), .val (.int w7), .val (.int w10), .val (.ref b12), .val (.ref b17), .val (.int (((p5.toUInt32 >>> ((2 : Int32) &&& 31).toUInt32).toInt32) &&& (3 : Int32))), .unset]) rfl k) ?_
      show Run p e below s 3 5 (Q_rm0 Z p1 p2 p3 p4 p5 vC fC h0 n0) (T20.setTop (mkF m 71 #[.val (.int p1), .val (.int p2), .val (.int p3), .val (.int p4), .val (.int p5), .val (.int (p2 &&& (65535 : Int32))), .val (.int w7), .val (.int w10), .val (.ref b12), .val (.ref b17), .val (.int (((p5.toUInt32 >>> ((2 : Int32) &&& 31).toUInt32).toInt32) &&& (3 : Int32))), .unset] []))
      obtain hk21 | hk21 | hk21 | hk21 := own_mk p5
      · rw [hk21]
        show Run p e below s 3 5 (Q_rm0 Z p1 p2 p3 p4 p5 vC fC h0 n0) (T20.setTop (mkF m 71 #[.val (.int p1), .val (.int p2), .val (.int p3), .val (.int p4), .val (.int p5), .val (.int (p2 &&& (65535 : Int32))), .val (.int w7), .val (.int w10), .val (.ref b12), .val (.ref b17), .val (.int (0 : Int32)), .unset] []))
        refine Run.go (fun _ k => XS.iload Xg20.here hx rfl (hb hby at_71) rfl  k) ?_
        show Run p e below s 3 5 (Q_rm0 Z p1 p2 p3 p4 p5 vC fC h0 n0) (T20.setTop (mkF m 73 #[.val (.int p1), .val (.int p2), .val (.int p3), .val (.int p4), .val (.int p5), .val (.int (p2 &&& (65535 : Int32))), .val (.int w7), .val (.int w10), .val (.ref b12), .val (.ref b17), .val (.int (0 : Int32)), .unset] [(.int (0 : Int32))]))
        refine Run.go (fun _ k => XS.ifNo Xg20.here hx rfl (hb hby at_73) rfl ((if0 _ _).trans (teq (rfl : (0 : Int32) = (0 : Int32))).2) k) ?_
        show Run p e below s 3 5 (Q_rm0 Z p1 p2 p3 p4 p5 vC fC h0 n0) (T20.setTop (mkF m 76 #[.val (.int p1), .val (.int p2), .val (.int p3), .val (.int p4), .val (.int p5), .val (.int (p2 &&& (65535 : Int32))), .val (.int w7), .val (.int w10), .val (.ref b12), .val (.ref b17), .val (.int (0 : Int32)), .unset] []))
        refine Run.go (fun _ k => XS.iloadN Xg20.here hx rfl (hb hby at_76) rfl  k) ?_
        show Run p e below s 3 5 (Q_rm0 Z p1 p2 p3 p4 p5 vC fC h0 n0) (T20.setTop (mkF m 77 #[.val (.int p1), .val (.int p2), .val (.int p3), .val (.int p4), .val (.int p5), .val (.int (p2 &&& (65535 : Int32))), .val (.int w7), .val (.int w10), .val (.ref b12), .val (.ref b17), .val (.int (0 : Int32)), .unset] [(.int p1)]))
        refine Run.go (fun _ k => XS.iload Xg20.here hx rfl (hb hby at_77) rfl  k) ?_
        show Run p e below s 3 5 (Q_rm0 Z p1 p2 p3 p4 p5 vC fC h0 n0) (T20.setTop (mkF m 79 #[.val (.int p1), .val (.int p2), .val (.int p3), .val (.int p4), .val (.int p5), .val (.int (p2 &&& (65535 : Int32))), .val (.int w7), .val (.int w10), .val (.ref b12), .val (.ref b17), .val (.int (0 : Int32)), .unset] [(.int w7), (.int p1)]))
        have J22 : ∀ (w23 : Int32) (hw23 : w23 = (if ((p1 = w7) ∧ ((p2 &&& (65535 : Int32)) = w10)) then (1 : Int32) else 0)) (T24 : State) (L24 : List Loc) (X24 : Stand p l e room_1 s m #[(.int p1), (.int p2), (.int p3), (.int p4), (.int p5)] below meth c T24 L24 2 4) (e24 : T24.heap = T20.heap) (N24 : Fr n0 L24), Run p e below s 3 5 (Q_rm0 Z p1 p2 p3 p4 p5 vC fC h0 n0) (T24.setTop (mkF m 94 #[.val (.int p1), .val (.int p2), .val (.int p3), .val (.int p4), .val (.int p5), .val (.int (p2 &&& (65535 : Int32))), .val (.int w7), .val (.int w10), .val (.ref b12), .val (.ref b17), .val (.int (0 : Int32)), .unset] [(.int w23)])) := by
          intro w23 hw23 T24 L24 X24 e24 N24
          show Run p e below s 3 5 (Q_rm0 Z p1 p2 p3 p4 p5 vC fC h0 n0) (T24.setTop (mkF m 94 #[.val (.int p1), .val (.int p2), .val (.int p3), .val (.int p4), .val (.int p5), .val (.int (p2 &&& (65535 : Int32))), .val (.int w7), .val (.int w10), .val (.ref b12), .val (.ref b17), .val (.int (0 : Int32)), .unset] [(.int w23)]))
          refine Run.go (fun _ k => XS.istore X24.here hx rfl (hb hby at_94) rfl (l' := #[.val (.int p1), .val (.int p2), .val (.int p3), .val (.int p4), .val (.int p5), .val (.int (p2 &&& (65535 : Int32))), .val (.int w7), .val (.int w10), .val (.ref b12), .val (.ref b17), .val (.int (0 : Int32)), .val (.int w23)]) rfl k) ?_
          show Run p e below s 3 5 (Q_rm0 Z p1 p2 p3 p4 p5 vC fC h0 n0) (T24.setTop (mkF m 96 #[.val (.int p1), .val (.int p2), .val (.int p3), .val (.int p4), .val (.int p5), .val (.int (p2 &&& (65535 : Int32))), .val (.int w7), .val (.int w10), .val (.ref b12), .val (.ref b17), .val (.int (0 : Int32)), .val (.int w23)] []))
          refine Run.go (fun _ k => XS.aload X24.here hx rfl (hb hby at_96) rfl rfl k) ?_
          show Run p e below s 3 5 (Q_rm0 Z p1 p2 p3 p4 p5 vC fC h0 n0) (T24.setTop (mkF m 98 #[.val (.int p1), .val (.int p2), .val (.int p3), .val (.int p4), .val (.int p5), .val (.int (p2 &&& (65535 : Int32))), .val (.int w7), .val (.int w10), .val (.ref b12), .val (.ref b17), .val (.int (0 : Int32)), .val (.int w23)] [(.ref b12)]))
          refine Run.go (fun _ k => XS.aload X24.here hx rfl (hb hby at_98) rfl rfl k) ?_
          show Run p e below s 3 5 (Q_rm0 Z p1 p2 p3 p4 p5 vC fC h0 n0) (T24.setTop (mkF m 100 #[.val (.int p1), .val (.int p2), .val (.int p3), .val (.int p4), .val (.int p5), .val (.int (p2 &&& (65535 : Int32))), .val (.int w7), .val (.int w10), .val (.ref b12), .val (.ref b17), .val (.int (0 : Int32)), .val (.int w23)] [(.ref b17), (.ref b12)]))
          have fx26 := ((fq15_1.ext E17).keep K20q (ninS ne_b12_b17 nin0))
          have fx27 := ((fq15_2.ext E17).keep K20q (ninS ne_b12_b17 nin0))
          have fx28 := ((fq15_0.ext E17).keep K20q)
          obtain ⟨cq25, kq25, q25a, q25b, q25c⟩ := isOf hZ e24 fx28
          obtain ⟨_, _, ⟨T25, L25, k25, n25⟩, -, X25, ⟨Lc25, hQ25, l25, y25, z25⟩, st25⟩ := X24.virtualBack hx (y := (⟨"murmuration/Contact", "equals", "(Ljava/lang/Object;)Z"⟩ : MethodName)) (z := (⟨"murmuration/Contact", "equals", "(Ljava/lang/Object;)Z"⟩ : MethodName)) hown (mvT hZ (hw _ (List.mem_of_getElem? (i := 20) rfl))) (mvT hZ (hw _ (List.mem_of_getElem? (i := 21) rfl))) (notFace_of_selects (args := #[]) (mvT hZ (hw _ (List.mem_of_getElem? (i := 23) rfl)))) (mvT hZ (hw _ (List.mem_of_getElem? (i := 23) rfl))) (mvT hZ (hw _ (List.mem_of_getElem? (i := 22) rfl))) (by decide) (backOf (W := 0) (rm4c l Z a0 hw [] b12 b17 w7 p1 w10 (p2 &&& (65535 : Int32)) T20.heap n0 Z20 fq20_0 fq20_1 fx26 fq20_2 fx27) hZ (hw _ (List.mem_of_getElem? (i := 24) rfl)) (hw _ (List.mem_of_getElem? (i := 3) rfl)) (by decide) (by decide)) q25a q25c (g := (mkF m 100 #[.val (.int p1), .val (.int p2), .val (.int p3), .val (.int p4), .val (.int p5), .val (.int (p2 &&& (65535 : Int32))), .val (.int w7), .val (.int w10), .val (.ref b12), .val (.ref b17), .val (.int (0 : Int32)), .val (.int w23)] [(.ref b17), (.ref b12)])) rfl (by rw [hml]; rfl) (Steps.refl _) (argsL := [(.ref b17)]) (rest := []) (lenOf pd_3 rfl) rfl (by show 2 * 0 + _ ≤ _; exact Nat.le_of_eq rfl) (hb hby at_100) (fun _ _ => ⟨rfl, e24, (by decide : 2 + 0 ≤ _), (by decide : 4 + 0 ≤ _)⟩)
          dsimp only [Pt.U, Pt.locs, Pt.cells, Pt.slots] at X25 l25 y25 z25 st25 hQ25
          subst l25 y25 z25
          obtain ⟨rfl, N25q, e25q⟩ := hQ25
          have N25 := Fr.app N24 N25q
          obtain ⟨Lg25, Xg25, Ng25⟩ := Stand_gen X25 N25
          refine Run.tr st25 ?_
          show Run p e below s 3 5 (Q_rm0 Z p1 p2 p3 p4 p5 vC fC h0 n0) (T25.setTop (mkF m 103 #[.val (.int p1), .val (.int p2), .val (.int p3), .val (.int p4), .val (.int p5), .val (.int (p2 &&& (65535 : Int32))), .val (.int w7), .val (.int w10), .val (.ref b12), .val (.ref b17), .val (.int (0 : Int32)), .val (.int w23)] [(.int (F_rm4c w7 p1 w10 (p2 &&& (65535 : Int32))))]))
          refine Run.go (fun _ k => XS.iload Xg25.here hx rfl (hb hby at_103) rfl  k) ?_
          show Run p e below s 3 5 (Q_rm0 Z p1 p2 p3 p4 p5 vC fC h0 n0) (T25.setTop (mkF m 105 #[.val (.int p1), .val (.int p2), .val (.int p3), .val (.int p4), .val (.int p5), .val (.int (p2 &&& (65535 : Int32))), .val (.int w7), .val (.int w10), .val (.ref b12), .val (.ref b17), .val (.int (0 : Int32)), .val (.int w23)] [(.int w23), (.int (F_rm4c w7 p1 w10 (p2 &&& (65535 : Int32))))]))
          refine Run.go (fun _ k => XS.icmpNo Xg25.here hx rfl (hb hby at_105) rfl (teq (own_eq1 _ _ _ _ _ hw23)).2 k) ?_
          show Run p e below s 3 5 (Q_rm0 Z p1 p2 p3 p4 p5 vC fC h0 n0) (T25.setTop (mkF m 108 #[.val (.int p1), .val (.int p2), .val (.int p3), .val (.int p4), .val (.int p5), .val (.int (p2 &&& (65535 : Int32))), .val (.int w7), .val (.int w10), .val (.ref b12), .val (.ref b17), .val (.int (0 : Int32)), .val (.int w23)] []))
          refine Run.go (fun _ k => XS.aload Xg25.here hx rfl (hb hby at_108) rfl rfl k) ?_
          show Run p e below s 3 5 (Q_rm0 Z p1 p2 p3 p4 p5 vC fC h0 n0) (T25.setTop (mkF m 110 #[.val (.int p1), .val (.int p2), .val (.int p3), .val (.int p4), .val (.int p5), .val (.int (p2 &&& (65535 : Int32))), .val (.int w7), .val (.int w10), .val (.ref b12), .val (.ref b17), .val (.int (0 : Int32)), .val (.int w23)] [(.ref b17)]))
          refine Run.go (fun _ k => XS.aload Xg25.here hx rfl (hb hby at_110) rfl rfl k) ?_
          show Run p e below s 3 5 (Q_rm0 Z p1 p2 p3 p4 p5 vC fC h0 n0) (T25.setTop (mkF m 112 #[.val (.int p1), .val (.int p2), .val (.int p3), .val (.int p4), .val (.int p5), .val (.int (p2 &&& (65535 : Int32))), .val (.int w7), .val (.int w10), .val (.ref b12), .val (.ref b17), .val (.int (0 : Int32)), .val (.int w23)] [(.ref b12), (.ref b17)]))
          obtain ⟨cq29, kq29, q29a, q29b, q29c⟩ := isOf hZ e25q fq20_0
          obtain ⟨_, _, ⟨T29, L29, k29, n29⟩, -, X29, ⟨Lc29, hQ29, l29, y29, z29⟩, st29⟩ := Xg25.virtualBack hx (y := (⟨"murmuration/Contact", "equals", "(Ljava/lang/Object;)Z"⟩ : MethodName)) (z := (⟨"murmuration/Contact", "equals", "(Ljava/lang/Object;)Z"⟩ : MethodName)) hown (mvT hZ (hw _ (List.mem_of_getElem? (i := 20) rfl))) (mvT hZ (hw _ (List.mem_of_getElem? (i := 21) rfl))) (notFace_of_selects (args := #[]) (mvT hZ (hw _ (List.mem_of_getElem? (i := 23) rfl)))) (mvT hZ (hw _ (List.mem_of_getElem? (i := 23) rfl))) (mvT hZ (hw _ (List.mem_of_getElem? (i := 22) rfl))) (by decide) (backOf (W := 0) (rm4c l Z a0 hw [] b17 b12 p1 w7 (p2 &&& (65535 : Int32)) w10 T20.heap n0 Z20 fx28 fx26 fq20_1 fx27 fq20_2) hZ (hw _ (List.mem_of_getElem? (i := 24) rfl)) (hw _ (List.mem_of_getElem? (i := 3) rfl)) (by decide) (by decide)) q29a q29c (g := (mkF m 112 #[.val (.int p1), .val (.int p2), .val (.int p3), .val (.int p4), .val (.int p5), .val (.int (p2 &&& (65535 : Int32))), .val (.int w7), .val (.int w10), .val (.ref b12), .val (.ref b17), .val (.int (0 : Int32)), .val (.int w23)] [(.ref b12), (.ref b17)])) rfl (by rw [hml]; rfl) (Steps.refl _) (argsL := [(.ref b12)]) (rest := []) (lenOf pd_3 rfl) rfl (by show 2 * 0 + _ ≤ _; exact Nat.le_of_eq rfl) (hb hby at_112) (fun _ _ => ⟨rfl, e25q, (by decide : 2 + 0 ≤ _), (by decide : 4 + 0 ≤ _)⟩)
          dsimp only [Pt.U, Pt.locs, Pt.cells, Pt.slots] at X29 l29 y29 z29 st29 hQ29
          subst l29 y29 z29
          obtain ⟨rfl, N29q, e29q⟩ := hQ29
          have N29 := Fr.app Ng25 N29q
          obtain ⟨Lg29, Xg29, Ng29⟩ := Stand_gen X29 N29
          refine Run.tr st29 ?_
          show Run p e below s 3 5 (Q_rm0 Z p1 p2 p3 p4 p5 vC fC h0 n0) (T29.setTop (mkF m 115 #[.val (.int p1), .val (.int p2), .val (.int p3), .val (.int p4), .val (.int p5), .val (.int (p2 &&& (65535 : Int32))), .val (.int w7), .val (.int w10), .val (.ref b12), .val (.ref b17), .val (.int (0 : Int32)), .val (.int w23)] [(.int (F_rm4c p1 w7 (p2 &&& (65535 : Int32)) w10))]))
          refine Run.go (fun _ k => XS.iload Xg29.here hx rfl (hb hby at_115) rfl  k) ?_
          show Run p e below s 3 5 (Q_rm0 Z p1 p2 p3 p4 p5 vC fC h0 n0) (T29.setTop (mkF m 117 #[.val (.int p1), .val (.int p2), .val (.int p3), .val (.int p4), .val (.int p5), .val (.int (p2 &&& (65535 : Int32))), .val (.int w7), .val (.int w10), .val (.ref b12), .val (.ref b17), .val (.int (0 : Int32)), .val (.int w23)] [(.int w23), (.int (F_rm4c p1 w7 (p2 &&& (65535 : Int32)) w10))]))
          refine Run.go (fun _ k => XS.icmpNo Xg29.here hx rfl (hb hby at_117) rfl (teq (own_eq2 _ _ _ _ _ hw23)).2 k) ?_
          show Run p e below s 3 5 (Q_rm0 Z p1 p2 p3 p4 p5 vC fC h0 n0) (T29.setTop (mkF m 120 #[.val (.int p1), .val (.int p2), .val (.int p3), .val (.int p4), .val (.int p5), .val (.int (p2 &&& (65535 : Int32))), .val (.int w7), .val (.int w10), .val (.ref b12), .val (.ref b17), .val (.int (0 : Int32)), .val (.int w23)] []))
          refine Run.go (fun _ k => XS.iconst Xg29.here hx rfl (hb hby at_120) k) ?_
          show Run p e below s 3 5 (Q_rm0 Z p1 p2 p3 p4 p5 vC fC h0 n0) (T29.setTop (mkF m 121 #[.val (.int p1), .val (.int p2), .val (.int p3), .val (.int p4), .val (.int p5), .val (.int (p2 &&& (65535 : Int32))), .val (.int w7), .val (.int w10), .val (.ref b12), .val (.ref b17), .val (.int (0 : Int32)), .val (.int w23)] [(.int (1 : Int32))]))
          refine Run.go (fun _ k => XS.goto Xg29.here hx rfl (pc0 := 121) (pc' := 125) rfl (hb hby at_121) (by decide) (by decide) k) ?_
          show Run p e below s 3 5 (Q_rm0 Z p1 p2 p3 p4 p5 vC fC h0 n0) (T29.setTop (mkF m 125 #[.val (.int p1), .val (.int p2), .val (.int p3), .val (.int p4), .val (.int p5), .val (.int (p2 &&& (65535 : Int32))), .val (.int w7), .val (.int w10), .val (.ref b12), .val (.ref b17), .val (.int (0 : Int32)), .val (.int w23)] [(.int (1 : Int32))]))
          exact Run.retN (y := 1) Xg29 hx (t := .boolean) Bd.returns (by simp) rfl Bd.notSynchronized (hb hby at_125) (by decide) (by decide) ⟨rfl, Ng29⟩
        by_cases hc30 : (p1 = w7)
        · refine Run.go (fun _ k => XS.icmpNo Xg20.here hx rfl (hb hby at_79) rfl (teq hc30).2 k) ?_
          show Run p e below s 3 5 (Q_rm0 Z p1 p2 p3 p4 p5 vC fC h0 n0) (T20.setTop (mkF m 82 #[.val (.int p1), .val (.int p2), .val (.int p3), .val (.int p4), .val (.int p5), .val (.int (p2 &&& (65535 : Int32))), .val (.int w7), .val (.int w10), .val (.ref b12), .val (.ref b17), .val (.int (0 : Int32)), .unset] []))
          refine Run.go (fun _ k => XS.iload Xg20.here hx rfl (hb hby at_82) rfl  k) ?_
          show Run p e below s 3 5 (Q_rm0 Z p1 p2 p3 p4 p5 vC fC h0 n0) (T20.setTop (mkF m 84 #[.val (.int p1), .val (.int p2), .val (.int p3), .val (.int p4), .val (.int p5), .val (.int (p2 &&& (65535 : Int32))), .val (.int w7), .val (.int w10), .val (.ref b12), .val (.ref b17), .val (.int (0 : Int32)), .unset] [(.int (p2 &&& (65535 : Int32)))]))
          refine Run.go (fun _ k => XS.iload Xg20.here hx rfl (hb hby at_84) rfl  k) ?_
          show Run p e below s 3 5 (Q_rm0 Z p1 p2 p3 p4 p5 vC fC h0 n0) (T20.setTop (mkF m 86 #[.val (.int p1), .val (.int p2), .val (.int p3), .val (.int p4), .val (.int p5), .val (.int (p2 &&& (65535 : Int32))), .val (.int w7), .val (.int w10), .val (.ref b12), .val (.ref b17), .val (.int (0 : Int32)), .unset] [(.int w10), (.int (p2 &&& (65535 : Int32)))]))
          by_cases hc31 : ((p2 &&& (65535 : Int32)) = w10)
          · refine Run.go (fun _ k => XS.icmpNo Xg20.here hx rfl (hb hby at_86) rfl (teq hc31).2 k) ?_
            show Run p e below s 3 5 (Q_rm0 Z p1 p2 p3 p4 p5 vC fC h0 n0) (T20.setTop (mkF m 89 #[.val (.int p1), .val (.int p2), .val (.int p3), .val (.int p4), .val (.int p5), .val (.int (p2 &&& (65535 : Int32))), .val (.int w7), .val (.int w10), .val (.ref b12), .val (.ref b17), .val (.int (0 : Int32)), .unset] []))
            refine Run.go (fun _ k => XS.iconst Xg20.here hx rfl (hb hby at_89) k) ?_
            show Run p e below s 3 5 (Q_rm0 Z p1 p2 p3 p4 p5 vC fC h0 n0) (T20.setTop (mkF m 90 #[.val (.int p1), .val (.int p2), .val (.int p3), .val (.int p4), .val (.int p5), .val (.int (p2 &&& (65535 : Int32))), .val (.int w7), .val (.int w10), .val (.ref b12), .val (.ref b17), .val (.int (0 : Int32)), .unset] [(.int (1 : Int32))]))
            refine Run.go (fun _ k => XS.goto Xg20.here hx rfl (pc0 := 90) (pc' := 94) rfl (hb hby at_90) (by decide) (by decide) k) ?_
            show Run p e below s 3 5 (Q_rm0 Z p1 p2 p3 p4 p5 vC fC h0 n0) (T20.setTop (mkF m 94 #[.val (.int p1), .val (.int p2), .val (.int p3), .val (.int p4), .val (.int p5), .val (.int (p2 &&& (65535 : Int32))), .val (.int w7), .val (.int w10), .val (.ref b12), .val (.ref b17), .val (.int (0 : Int32)), .unset] [(.int (1 : Int32))]))
            exact J22 _ (if_pos ⟨hc30, hc31⟩).symm _ _ Xg20 rfl Ng20
          · refine Run.go (fun _ k => XS.icmpYes Xg20.here hx rfl (pc0 := 86) (pc' := 93) rfl (hb hby at_86) rfl (feq hc31).2 (by decide) (by decide) k) ?_
            show Run p e below s 3 5 (Q_rm0 Z p1 p2 p3 p4 p5 vC fC h0 n0) (T20.setTop (mkF m 93 #[.val (.int p1), .val (.int p2), .val (.int p3), .val (.int p4), .val (.int p5), .val (.int (p2 &&& (65535 : Int32))), .val (.int w7), .val (.int w10), .val (.ref b12), .val (.ref b17), .val (.int (0 : Int32)), .unset] []))
            refine Run.go (fun _ k => XS.iconst Xg20.here hx rfl (hb hby at_93) k) ?_
            show Run p e below s 3 5 (Q_rm0 Z p1 p2 p3 p4 p5 vC fC h0 n0) (T20.setTop (mkF m 94 #[.val (.int p1), .val (.int p2), .val (.int p3), .val (.int p4), .val (.int p5), .val (.int (p2 &&& (65535 : Int32))), .val (.int w7), .val (.int w10), .val (.ref b12), .val (.ref b17), .val (.int (0 : Int32)), .unset] [(.int (0 : Int32))]))
            exact J22 _ (if_neg (fun q => hc31 q.2)).symm _ _ Xg20 rfl Ng20
        · refine Run.go (fun _ k => XS.icmpYes Xg20.here hx rfl (pc0 := 79) (pc' := 93) rfl (hb hby at_79) rfl (feq hc30).2 (by decide) (by decide) k) ?_
          show Run p e below s 3 5 (Q_rm0 Z p1 p2 p3 p4 p5 vC fC h0 n0) (T20.setTop (mkF m 93 #[.val (.int p1), .val (.int p2), .val (.int p3), .val (.int p4), .val (.int p5), .val (.int (p2 &&& (65535 : Int32))), .val (.int w7), .val (.int w10), .val (.ref b12), .val (.ref b17), .val (.int (0 : Int32)), .unset] []))
          refine Run.go (fun _ k => XS.iconst Xg20.here hx rfl (hb hby at_93) k) ?_
          show Run p e below s 3 5 (Q_rm0 Z p1 p2 p3 p4 p5 vC fC h0 n0) (T20.setTop (mkF m 94 #[.val (.int p1), .val (.int p2), .val (.int p3), .val (.int p4), .val (.int p5), .val (.int (p2 &&& (65535 : Int32))), .val (.int w7), .val (.int w10), .val (.ref b12), .val (.ref b17), .val (.int (0 : Int32)), .unset] [(.int (0 : Int32))]))
          exact J22 _ (if_neg (fun q => hc30 q.1)).symm _ _ Xg20 rfl Ng20
      · rw [hk21]
        show Run p e below s 3 5 (Q_rm0 Z p1 p2 p3 p4 p5 vC fC h0 n0) (T20.setTop (mkF m 71 #[.val (.int p1), .val (.int p2), .val (.int p3), .val (.int p4), .val (.int p5), .val (.int (p2 &&& (65535 : Int32))), .val (.int w7), .val (.int w10), .val (.ref b12), .val (.ref b17), .val (.int (1 : Int32)), .unset] []))
        refine Run.go (fun _ k => XS.iload Xg20.here hx rfl (hb hby at_71) rfl  k) ?_
        show Run p e below s 3 5 (Q_rm0 Z p1 p2 p3 p4 p5 vC fC h0 n0) (T20.setTop (mkF m 73 #[.val (.int p1), .val (.int p2), .val (.int p3), .val (.int p4), .val (.int p5), .val (.int (p2 &&& (65535 : Int32))), .val (.int w7), .val (.int w10), .val (.ref b12), .val (.ref b17), .val (.int (1 : Int32)), .unset] [(.int (1 : Int32))]))
        refine Run.go (fun _ k => XS.ifYes Xg20.here hx rfl (pc0 := 73) (pc' := 126) rfl (hb hby at_73) rfl ((if0 _ _).trans (feq (by decide)).2) (by decide) (by decide) k) ?_
        show Run p e below s 3 5 (Q_rm0 Z p1 p2 p3 p4 p5 vC fC h0 n0) (T20.setTop (mkF m 126 #[.val (.int p1), .val (.int p2), .val (.int p3), .val (.int p4), .val (.int p5), .val (.int (p2 &&& (65535 : Int32))), .val (.int w7), .val (.int w10), .val (.ref b12), .val (.ref b17), .val (.int (1 : Int32)), .unset] []))
        refine Run.go (fun _ k => XS.iload Xg20.here hx rfl (hb hby at_126) rfl  k) ?_
        show Run p e below s 3 5 (Q_rm0 Z p1 p2 p3 p4 p5 vC fC h0 n0) (T20.setTop (mkF m 128 #[.val (.int p1), .val (.int p2), .val (.int p3), .val (.int p4), .val (.int p5), .val (.int (p2 &&& (65535 : Int32))), .val (.int w7), .val (.int w10), .val (.ref b12), .val (.ref b17), .val (.int (1 : Int32)), .unset] [(.int (1 : Int32))]))
        refine Run.go (fun _ k => XS.iconst Xg20.here hx rfl (hb hby at_128) k) ?_
        show Run p e below s 3 5 (Q_rm0 Z p1 p2 p3 p4 p5 vC fC h0 n0) (T20.setTop (mkF m 129 #[.val (.int p1), .val (.int p2), .val (.int p3), .val (.int p4), .val (.int p5), .val (.int (p2 &&& (65535 : Int32))), .val (.int w7), .val (.int w10), .val (.ref b12), .val (.ref b17), .val (.int (1 : Int32)), .unset] [(.int (1 : Int32)), (.int (1 : Int32))]))
        refine Run.go (fun _ k => XS.icmpNo Xg20.here hx rfl (hb hby at_129) rfl (teq (rfl : (1 : Int32) = (1 : Int32))).2 k) ?_
        show Run p e below s 3 5 (Q_rm0 Z p1 p2 p3 p4 p5 vC fC h0 n0) (T20.setTop (mkF m 132 #[.val (.int p1), .val (.int p2), .val (.int p3), .val (.int p4), .val (.int p5), .val (.int (p2 &&& (65535 : Int32))), .val (.int w7), .val (.int w10), .val (.ref b12), .val (.ref b17), .val (.int (1 : Int32)), .unset] []))
        refine Run.go (fun _ k => XS.aconstNull Xg20.here hx rfl (hb hby at_132) k) ?_
        show Run p e below s 3 5 (Q_rm0 Z p1 p2 p3 p4 p5 vC fC h0 n0) (T20.setTop (mkF m 133 #[.val (.int p1), .val (.int p2), .val (.int p3), .val (.int p4), .val (.int p5), .val (.int (p2 &&& (65535 : Int32))), .val (.int w7), .val (.int w10), .val (.ref b12), .val (.ref b17), .val (.int (1 : Int32)), .unset] [.null]))
        refine Run.go (fun _ k => XS.astore Xg20.here hx rfl (hb hby at_133) rfl rfl (l' := #[.val (.int p1), .val (.int p2), .val (.int p3), .val (.int p4), .val (.int p5), .val (.int (p2 &&& (65535 : Int32))), .val (.int w7), .val (.int w10), .val (.ref b12), .val (.ref b17), .val (.int (1 : Int32)), .val .null]) rfl k) ?_
        show Run p e below s 3 5 (Q_rm0 Z p1 p2 p3 p4 p5 vC fC h0 n0) (T20.setTop (mkF m 135 #[.val (.int p1), .val (.int p2), .val (.int p3), .val (.int p4), .val (.int p5), .val (.int (p2 &&& (65535 : Int32))), .val (.int w7), .val (.int w10), .val (.ref b12), .val (.ref b17), .val (.int (1 : Int32)), .val .null] []))
        refine Run.go (fun _ k => XS.aload Xg20.here hx rfl (hb hby at_135) rfl rfl k) ?_
        show Run p e below s 3 5 (Q_rm0 Z p1 p2 p3 p4 p5 vC fC h0 n0) (T20.setTop (mkF m 137 #[.val (.int p1), .val (.int p2), .val (.int p3), .val (.int p4), .val (.int p5), .val (.int (p2 &&& (65535 : Int32))), .val (.int w7), .val (.int w10), .val (.ref b12), .val (.ref b17), .val (.int (1 : Int32)), .val .null] [(.ref b12)]))
        refine Run.go (fun _ k => XS.aload Xg20.here hx rfl (hb hby at_137) rfl rfl k) ?_
        show Run p e below s 3 5 (Q_rm0 Z p1 p2 p3 p4 p5 vC fC h0 n0) (T20.setTop (mkF m 139 #[.val (.int p1), .val (.int p2), .val (.int p3), .val (.int p4), .val (.int p5), .val (.int (p2 &&& (65535 : Int32))), .val (.int w7), .val (.int w10), .val (.ref b12), .val (.ref b17), .val (.int (1 : Int32)), .val .null] [.null, (.ref b12)]))
        have fx33 := ((fq15_0.ext E17).keep K20q)
        obtain ⟨cq32, kq32, q32a, q32b, q32c⟩ := isOf hZ rfl fx33
        obtain ⟨_, _, ⟨T32, L32, k32, n32⟩, -, X32, ⟨Lc32, hQ32, l32, y32, z32⟩, st32⟩ := Xg20.virtualBack hx (y := (⟨"murmuration/Contact", "equals", "(Ljava/lang/Object;)Z"⟩ : MethodName)) (z := (⟨"murmuration/Contact", "equals", "(Ljava/lang/Object;)Z"⟩ : MethodName)) hown (mvT hZ (hw _ (List.mem_of_getElem? (i := 20) rfl))) (mvT hZ (hw _ (List.mem_of_getElem? (i := 21) rfl))) (notFace_of_selects (args := #[]) (mvT hZ (hw _ (List.mem_of_getElem? (i := 23) rfl)))) (mvT hZ (hw _ (List.mem_of_getElem? (i := 23) rfl))) (mvT hZ (hw _ (List.mem_of_getElem? (i := 22) rfl))) (by decide) (backOf (W := 0) (rm4n l Z a0 hw [] b12 T20.heap n0 Z20 ) hZ (hw _ (List.mem_of_getElem? (i := 24) rfl)) (hw _ (List.mem_of_getElem? (i := 3) rfl)) (by decide) (by decide)) q32a q32c (g := (mkF m 139 #[.val (.int p1), .val (.int p2), .val (.int p3), .val (.int p4), .val (.int p5), .val (.int (p2 &&& (65535 : Int32))), .val (.int w7), .val (.int w10), .val (.ref b12), .val (.ref b17), .val (.int (1 : Int32)), .val .null] [.null, (.ref b12)])) rfl (by rw [hml]; rfl) (Steps.refl _) (argsL := [.null]) (rest := []) (lenOf pd_3 rfl) rfl (by show 2 * 0 + _ ≤ _; exact Nat.le_of_eq rfl) (hb hby at_139) (fun _ _ => ⟨rfl, rfl, (by decide : 2 + 0 ≤ _), (by decide : 4 + 0 ≤ _)⟩)
        dsimp only [Pt.U, Pt.locs, Pt.cells, Pt.slots] at X32 l32 y32 z32 st32 hQ32
        subst l32 y32 z32
        obtain ⟨rfl, N32q, e32q⟩ := hQ32
        have N32 := Fr.app Ng20 N32q
        obtain ⟨Lg32, Xg32, Ng32⟩ := Stand_gen X32 N32
        refine Run.tr st32 ?_
        show Run p e below s 3 5 (Q_rm0 Z p1 p2 p3 p4 p5 vC fC h0 n0) (T32.setTop (mkF m 142 #[.val (.int p1), .val (.int p2), .val (.int p3), .val (.int p4), .val (.int p5), .val (.int (p2 &&& (65535 : Int32))), .val (.int w7), .val (.int w10), .val (.ref b12), .val (.ref b17), .val (.int (1 : Int32)), .val .null] [(.int (0 : Int32))]))
        refine Run.go (fun _ k => XS.ifNo Xg32.here hx rfl (hb hby at_142) rfl ((if0 _ _).trans (teq (rfl : (0 : Int32) = (0 : Int32))).2) k) ?_
        show Run p e below s 3 5 (Q_rm0 Z p1 p2 p3 p4 p5 vC fC h0 n0) (T32.setTop (mkF m 145 #[.val (.int p1), .val (.int p2), .val (.int p3), .val (.int p4), .val (.int p5), .val (.int (p2 &&& (65535 : Int32))), .val (.int w7), .val (.int w10), .val (.ref b12), .val (.ref b17), .val (.int (1 : Int32)), .val .null] []))
        refine Run.go (fun _ k => XS.iconst Xg32.here hx rfl (hb hby at_145) k) ?_
        show Run p e below s 3 5 (Q_rm0 Z p1 p2 p3 p4 p5 vC fC h0 n0) (T32.setTop (mkF m 146 #[.val (.int p1), .val (.int p2), .val (.int p3), .val (.int p4), .val (.int p5), .val (.int (p2 &&& (65535 : Int32))), .val (.int w7), .val (.int w10), .val (.ref b12), .val (.ref b17), .val (.int (1 : Int32)), .val .null] [(.int (1 : Int32))]))
        refine Run.go (fun _ k => XS.goto Xg32.here hx rfl (pc0 := 146) (pc' := 150) rfl (hb hby at_146) (by decide) (by decide) k) ?_
        show Run p e below s 3 5 (Q_rm0 Z p1 p2 p3 p4 p5 vC fC h0 n0) (T32.setTop (mkF m 150 #[.val (.int p1), .val (.int p2), .val (.int p3), .val (.int p4), .val (.int p5), .val (.int (p2 &&& (65535 : Int32))), .val (.int w7), .val (.int w10), .val (.ref b12), .val (.ref b17), .val (.int (1 : Int32)), .val .null] [(.int (1 : Int32))]))
        exact Run.retN (y := 1) Xg32 hx (t := .boolean) Bd.returns (by simp) rfl Bd.notSynchronized (hb hby at_150) (by decide) (by decide) ⟨rfl, Ng32⟩
      · rw [hk21]
        show Run p e below s 3 5 (Q_rm0 Z p1 p2 p3 p4 p5 vC fC h0 n0) (T20.setTop (mkF m 71 #[.val (.int p1), .val (.int p2), .val (.int p3), .val (.int p4), .val (.int p5), .val (.int (p2 &&& (65535 : Int32))), .val (.int w7), .val (.int w10), .val (.ref b12), .val (.ref b17), .val (.int (2 : Int32)), .unset] []))
        refine Run.go (fun _ k => XS.iload Xg20.here hx rfl (hb hby at_71) rfl  k) ?_
        show Run p e below s 3 5 (Q_rm0 Z p1 p2 p3 p4 p5 vC fC h0 n0) (T20.setTop (mkF m 73 #[.val (.int p1), .val (.int p2), .val (.int p3), .val (.int p4), .val (.int p5), .val (.int (p2 &&& (65535 : Int32))), .val (.int w7), .val (.int w10), .val (.ref b12), .val (.ref b17), .val (.int (2 : Int32)), .unset] [(.int (2 : Int32))]))
        refine Run.go (fun _ k => XS.ifYes Xg20.here hx rfl (pc0 := 73) (pc' := 126) rfl (hb hby at_73) rfl ((if0 _ _).trans (feq (by decide)).2) (by decide) (by decide) k) ?_
        show Run p e below s 3 5 (Q_rm0 Z p1 p2 p3 p4 p5 vC fC h0 n0) (T20.setTop (mkF m 126 #[.val (.int p1), .val (.int p2), .val (.int p3), .val (.int p4), .val (.int p5), .val (.int (p2 &&& (65535 : Int32))), .val (.int w7), .val (.int w10), .val (.ref b12), .val (.ref b17), .val (.int (2 : Int32)), .unset] []))
        refine Run.go (fun _ k => XS.iload Xg20.here hx rfl (hb hby at_126) rfl  k) ?_
        show Run p e below s 3 5 (Q_rm0 Z p1 p2 p3 p4 p5 vC fC h0 n0) (T20.setTop (mkF m 128 #[.val (.int p1), .val (.int p2), .val (.int p3), .val (.int p4), .val (.int p5), .val (.int (p2 &&& (65535 : Int32))), .val (.int w7), .val (.int w10), .val (.ref b12), .val (.ref b17), .val (.int (2 : Int32)), .unset] [(.int (2 : Int32))]))
        refine Run.go (fun _ k => XS.iconst Xg20.here hx rfl (hb hby at_128) k) ?_
        show Run p e below s 3 5 (Q_rm0 Z p1 p2 p3 p4 p5 vC fC h0 n0) (T20.setTop (mkF m 129 #[.val (.int p1), .val (.int p2), .val (.int p3), .val (.int p4), .val (.int p5), .val (.int (p2 &&& (65535 : Int32))), .val (.int w7), .val (.int w10), .val (.ref b12), .val (.ref b17), .val (.int (2 : Int32)), .unset] [(.int (1 : Int32)), (.int (2 : Int32))]))
        refine Run.go (fun _ k => XS.icmpYes Xg20.here hx rfl (pc0 := 129) (pc' := 151) rfl (hb hby at_129) rfl (feq (by decide)).2 (by decide) (by decide) k) ?_
        show Run p e below s 3 5 (Q_rm0 Z p1 p2 p3 p4 p5 vC fC h0 n0) (T20.setTop (mkF m 151 #[.val (.int p1), .val (.int p2), .val (.int p3), .val (.int p4), .val (.int p5), .val (.int (p2 &&& (65535 : Int32))), .val (.int w7), .val (.int w10), .val (.ref b12), .val (.ref b17), .val (.int (2 : Int32)), .unset] []))
        refine Run.go (fun _ k => XS.iload Xg20.here hx rfl (hb hby at_151) rfl  k) ?_
        show Run p e below s 3 5 (Q_rm0 Z p1 p2 p3 p4 p5 vC fC h0 n0) (T20.setTop (mkF m 153 #[.val (.int p1), .val (.int p2), .val (.int p3), .val (.int p4), .val (.int p5), .val (.int (p2 &&& (65535 : Int32))), .val (.int w7), .val (.int w10), .val (.ref b12), .val (.ref b17), .val (.int (2 : Int32)), .unset] [(.int (2 : Int32))]))
        refine Run.go (fun _ k => XS.iconst Xg20.here hx rfl (hb hby at_153) k) ?_
        show Run p e below s 3 5 (Q_rm0 Z p1 p2 p3 p4 p5 vC fC h0 n0) (T20.setTop (mkF m 154 #[.val (.int p1), .val (.int p2), .val (.int p3), .val (.int p4), .val (.int p5), .val (.int (p2 &&& (65535 : Int32))), .val (.int w7), .val (.int w10), .val (.ref b12), .val (.ref b17), .val (.int (2 : Int32)), .unset] [(.int (2 : Int32)), (.int (2 : Int32))]))
        refine Run.go (fun _ k => XS.icmpNo Xg20.here hx rfl (hb hby at_154) rfl (teq (rfl : (2 : Int32) = (2 : Int32))).2 k) ?_
        show Run p e below s 3 5 (Q_rm0 Z p1 p2 p3 p4 p5 vC fC h0 n0) (T20.setTop (mkF m 157 #[.val (.int p1), .val (.int p2), .val (.int p3), .val (.int p4), .val (.int p5), .val (.int (p2 &&& (65535 : Int32))), .val (.int w7), .val (.int w10), .val (.ref b12), .val (.ref b17), .val (.int (2 : Int32)), .unset] []))
        by_cases ha34 : (p1 < (-128 : Int32))
        · show Run p e below s 3 5 (Q_rm0 Z p1 p2 p3 p4 p5 vC fC h0 n0) (T20.setTop (mkF m 157 #[.val (.int p1), .val (.int p2), .val (.int p3), .val (.int p4), .val (.int p5), .val (.int (p2 &&& (65535 : Int32))), .val (.int w7), .val (.int w10), .val (.ref b12), .val (.ref b17), .val (.int (2 : Int32)), .unset] []))
          refine Run.go (fun _ k => XS.iloadN Xg20.here hx rfl (hb hby at_157) rfl  k) ?_
          show Run p e below s 3 5 (Q_rm0 Z p1 p2 p3 p4 p5 vC fC h0 n0) (T20.setTop (mkF m 158 #[.val (.int p1), .val (.int p2), .val (.int p3), .val (.int p4), .val (.int p5), .val (.int (p2 &&& (65535 : Int32))), .val (.int w7), .val (.int w10), .val (.ref b12), .val (.ref b17), .val (.int (2 : Int32)), .unset] [(.int p1)]))
          have fx37 := (Sta.keep ((Sta.keep (S_Integer_IntegerCache_high.ext E12) K15q (allS (Exa.nst A12) all0)).ext E17) K20q (allS (Exa.nst A17) all0))
          have fx38 := ((fx16.ext E17).keep K20q (ninS ne_vC_b17 nin0))
          have fx39 := ((fq15_0.ext E17).keep K20q)
          obtain ⟨_, _, ⟨T36, L36, k36, n36⟩, -, X36, ⟨Lc36, hQ36, l36, y36, z36⟩, st36⟩ := Jvm.LawKit.callS Xg20 hx (y := (⟨"java/lang/Integer", "valueOf", "(I)Ljava/lang/Integer;"⟩ : MethodName)) hown (mvT hZ (hw _ (List.mem_of_getElem? (i := 27) rfl))) (mvT hZ (hw _ (List.mem_of_getElem? (i := 28) rfl))) (mvT hZ (hw _ (List.mem_of_getElem? (i := 29) rfl))) (mvT hZ (hw _ (List.mem_of_getElem? (i := 30) rfl))) (by decide) (backOf (W := 0) (rm5a l Z a0 hw [] p1 T20.heap n0 Z20 fx37 ha34) hZ (hw _ (List.mem_of_getElem? (i := 30) rfl)) (hw _ (List.mem_of_getElem? (i := 29) rfl)) (by decide) (by decide)) (g := (mkF m 158 #[.val (.int p1), .val (.int p2), .val (.int p3), .val (.int p4), .val (.int p5), .val (.int (p2 &&& (65535 : Int32))), .val (.int w7), .val (.int w10), .val (.ref b12), .val (.ref b17), .val (.int (2 : Int32)), .unset] [(.int p1)])) rfl (by rw [hml]; rfl) (argsL := [(.int p1)]) (rest := []) (lenOf pd_4 rfl) rfl (by show 2 * 0 + _ ≤ _; exact Nat.le_of_eq rfl) (hb hby at_158) (fun _ _ => ⟨rfl, rfl, (by decide : 2 + 1 ≤ _), (by decide : 4 + 1 ≤ _)⟩)
          dsimp only [Pt.U, Pt.locs, Pt.cells, Pt.slots] at X36 l36 y36 z36 st36 hQ36
          subst l36 y36 z36
          obtain ⟨b40, rfl, N36q, K36q, s_b40, fq36_0, fq36_1⟩ := hQ36
          have N36 := Fr.app Ng20 N36q
          have K36 : Keep h0 T36.heap [] := K20.trans K36q all0
          have g_b40 : n0 ≤ b40 := Nat.le_trans Z20 s_b40
          have sz_b40 : h0.size ≤ b40 := Nat.le_trans K20.1 s_b40
          have ne_vC_b40 : vC ≠ b40 := Nat.ne_of_lt (Nat.lt_of_lt_of_le fx38.lt s_b40)
          have ne_b12_b40 : b12 ≠ b40 := Nat.ne_of_lt (Nat.lt_of_lt_of_le fx39.lt s_b40)
          have ne_b17_b40 : b17 ≠ b40 := Nat.ne_of_lt (Nat.lt_of_lt_of_le fq20_0.lt s_b40)
          have Z36 : n0 ≤ T36.heap.size := Nat.le_trans Z20 K36q.1
          obtain ⟨Lg36, Xg36, Ng36⟩ := Stand_gen X36 N36
          refine Run.go st36 ?_
          show Run p e below s 3 5 (Q_rm0 Z p1 p2 p3 p4 p5 vC fC h0 n0) (T36.setTop (mkF m 161 #[.val (.int p1), .val (.int p2), .val (.int p3), .val (.int p4), .val (.int p5), .val (.int (p2 &&& (65535 : Int32))), .val (.int w7), .val (.int w10), .val (.ref b12), .val (.ref b17), .val (.int (2 : Int32)), .unset] [(.ref b40)]))
          refine Run.go (fun _ k => XS.astore Xg36.here hx rfl (hb hby at_161) rfl rfl (l' := #[.val (.int p1), .val (.int p2), .val (.int p3), .val (.int p4), .val (.int p5), .val (.int (p2 &&& (65535 : Int32))), .val (.int w7), .val (.int w10), .val (.ref b12), .val (.ref b17), .val (.int (2 : Int32)), .val (.ref b40)]) rfl k) ?_
          show Run p e below s 3 5 (Q_rm0 Z p1 p2 p3 p4 p5 vC fC h0 n0) (T36.setTop (mkF m 163 #[.val (.int p1), .val (.int p2), .val (.int p3), .val (.int p4), .val (.int p5), .val (.int (p2 &&& (65535 : Int32))), .val (.int w7), .val (.int w10), .val (.ref b12), .val (.ref b17), .val (.int (2 : Int32)), .val (.ref b40)] []))
          refine Run.go (fun _ k => XS.aload Xg36.here hx rfl (hb hby at_163) rfl rfl k) ?_
          show Run p e below s 3 5 (Q_rm0 Z p1 p2 p3 p4 p5 vC fC h0 n0) (T36.setTop (mkF m 165 #[.val (.int p1), .val (.int p2), .val (.int p3), .val (.int p4), .val (.int p5), .val (.int (p2 &&& (65535 : Int32))), .val (.int w7), .val (.int w10), .val (.ref b12), .val (.ref b17), .val (.int (2 : Int32)), .val (.ref b40)] [(.ref b12)]))
          refine Run.go (fun _ k => XS.aload Xg36.here hx rfl (hb hby at_165) rfl rfl k) ?_
          show Run p e below s 3 5 (Q_rm0 Z p1 p2 p3 p4 p5 vC fC h0 n0) (T36.setTop (mkF m 167 #[.val (.int p1), .val (.int p2), .val (.int p3), .val (.int p4), .val (.int p5), .val (.int (p2 &&& (65535 : Int32))), .val (.int w7), .val (.int w10), .val (.ref b12), .val (.ref b17), .val (.int (2 : Int32)), .val (.ref b40)] [(.ref b40), (.ref b12)]))
          have fx42 := (fx39.keep K36q)
          obtain ⟨cq41, kq41, q41a, q41b, q41c⟩ := isOf hZ rfl fx42
          obtain ⟨_, _, ⟨T41, L41, k41, n41⟩, -, X41, ⟨Lc41, hQ41, l41, y41, z41⟩, st41⟩ := Xg36.virtualBack hx (y := (⟨"murmuration/Contact", "equals", "(Ljava/lang/Object;)Z"⟩ : MethodName)) (z := (⟨"murmuration/Contact", "equals", "(Ljava/lang/Object;)Z"⟩ : MethodName)) hown (mvT hZ (hw _ (List.mem_of_getElem? (i := 20) rfl))) (mvT hZ (hw _ (List.mem_of_getElem? (i := 21) rfl))) (notFace_of_selects (args := #[]) (mvT hZ (hw _ (List.mem_of_getElem? (i := 23) rfl)))) (mvT hZ (hw _ (List.mem_of_getElem? (i := 23) rfl))) (mvT hZ (hw _ (List.mem_of_getElem? (i := 22) rfl))) (by decide) (backOf (W := 0) (rm4i l Z a0 hw [] b12 b40 T36.heap n0 Z36 fq36_0) hZ (hw _ (List.mem_of_getElem? (i := 24) rfl)) (hw _ (List.mem_of_getElem? (i := 3) rfl)) (by decide) (by decide)) q41a q41c (g := (mkF m 167 #[.val (.int p1), .val (.int p2), .val (.int p3), .val (.int p4), .val (.int p5), .val (.int (p2 &&& (65535 : Int32))), .val (.int w7), .val (.int w10), .val (.ref b12), .val (.ref b17), .val (.int (2 : Int32)), .val (.ref b40)] [(.ref b40), (.ref b12)])) rfl (by rw [hml]; rfl) (Steps.refl _) (argsL := [(.ref b40)]) (rest := []) (lenOf pd_3 rfl) rfl (by show 2 * 0 + _ ≤ _; exact Nat.le_of_eq rfl) (hb hby at_167) (fun _ _ => ⟨rfl, rfl, (by decide : 3 + 0 ≤ _), (by decide : 5 + 0 ≤ _)⟩)
          dsimp only [Pt.U, Pt.locs, Pt.cells, Pt.slots] at X41 l41 y41 z41 st41 hQ41
          subst l41 y41 z41
          obtain ⟨rfl, N41q, e41q⟩ := hQ41
          have N41 := Fr.app Ng36 N41q
          obtain ⟨Lg41, Xg41, Ng41⟩ := Stand_gen X41 N41
          refine Run.tr st41 ?_
          show Run p e below s 3 5 (Q_rm0 Z p1 p2 p3 p4 p5 vC fC h0 n0) (T41.setTop (mkF m 170 #[.val (.int p1), .val (.int p2), .val (.int p3), .val (.int p4), .val (.int p5), .val (.int (p2 &&& (65535 : Int32))), .val (.int w7), .val (.int w10), .val (.ref b12), .val (.ref b17), .val (.int (2 : Int32)), .val (.ref b40)] [(.int (0 : Int32))]))
          refine Run.go (fun _ k => XS.ifNo Xg41.here hx rfl (hb hby at_170) rfl ((if0 _ _).trans (teq (rfl : (0 : Int32) = (0 : Int32))).2) k) ?_
          show Run p e below s 3 5 (Q_rm0 Z p1 p2 p3 p4 p5 vC fC h0 n0) (T41.setTop (mkF m 173 #[.val (.int p1), .val (.int p2), .val (.int p3), .val (.int p4), .val (.int p5), .val (.int (p2 &&& (65535 : Int32))), .val (.int w7), .val (.int w10), .val (.ref b12), .val (.ref b17), .val (.int (2 : Int32)), .val (.ref b40)] []))
          refine Run.go (fun _ k => XS.iconst Xg41.here hx rfl (hb hby at_173) k) ?_
          show Run p e below s 3 5 (Q_rm0 Z p1 p2 p3 p4 p5 vC fC h0 n0) (T41.setTop (mkF m 174 #[.val (.int p1), .val (.int p2), .val (.int p3), .val (.int p4), .val (.int p5), .val (.int (p2 &&& (65535 : Int32))), .val (.int w7), .val (.int w10), .val (.ref b12), .val (.ref b17), .val (.int (2 : Int32)), .val (.ref b40)] [(.int (1 : Int32))]))
          refine Run.go (fun _ k => XS.goto Xg41.here hx rfl (pc0 := 174) (pc' := 178) rfl (hb hby at_174) (by decide) (by decide) k) ?_
          show Run p e below s 3 5 (Q_rm0 Z p1 p2 p3 p4 p5 vC fC h0 n0) (T41.setTop (mkF m 178 #[.val (.int p1), .val (.int p2), .val (.int p3), .val (.int p4), .val (.int p5), .val (.int (p2 &&& (65535 : Int32))), .val (.int w7), .val (.int w10), .val (.ref b12), .val (.ref b17), .val (.int (2 : Int32)), .val (.ref b40)] [(.int (1 : Int32))]))
          exact Run.retN (y := 1) Xg41 hx (t := .boolean) Bd.returns (by simp) rfl Bd.notSynchronized (hb hby at_178) (by decide) (by decide) ⟨rfl, Ng41⟩
        by_cases ha35 : ((127 : Int32) < p1)
        · show Run p e below s 3 5 (Q_rm0 Z p1 p2 p3 p4 p5 vC fC h0 n0) (T20.setTop (mkF m 157 #[.val (.int p1), .val (.int p2), .val (.int p3), .val (.int p4), .val (.int p5), .val (.int (p2 &&& (65535 : Int32))), .val (.int w7), .val (.int w10), .val (.ref b12), .val (.ref b17), .val (.int (2 : Int32)), .unset] []))
          refine Run.go (fun _ k => XS.iloadN Xg20.here hx rfl (hb hby at_157) rfl  k) ?_
          show Run p e below s 3 5 (Q_rm0 Z p1 p2 p3 p4 p5 vC fC h0 n0) (T20.setTop (mkF m 158 #[.val (.int p1), .val (.int p2), .val (.int p3), .val (.int p4), .val (.int p5), .val (.int (p2 &&& (65535 : Int32))), .val (.int w7), .val (.int w10), .val (.ref b12), .val (.ref b17), .val (.int (2 : Int32)), .unset] [(.int p1)]))
          have fx44 := (Sta.keep ((Sta.keep (S_Integer_IntegerCache_high.ext E12) K15q (allS (Exa.nst A12) all0)).ext E17) K20q (allS (Exa.nst A17) all0))
          have fx45 := ((fx16.ext E17).keep K20q (ninS ne_vC_b17 nin0))
          have fx46 := ((fq15_0.ext E17).keep K20q)
          obtain ⟨_, _, ⟨T43, L43, k43, n43⟩, -, X43, ⟨Lc43, hQ43, l43, y43, z43⟩, st43⟩ := Jvm.LawKit.callS Xg20 hx (y := (⟨"java/lang/Integer", "valueOf", "(I)Ljava/lang/Integer;"⟩ : MethodName)) hown (mvT hZ (hw _ (List.mem_of_getElem? (i := 27) rfl))) (mvT hZ (hw _ (List.mem_of_getElem? (i := 28) rfl))) (mvT hZ (hw _ (List.mem_of_getElem? (i := 29) rfl))) (mvT hZ (hw _ (List.mem_of_getElem? (i := 30) rfl))) (by decide) (backOf (W := 0) (rm5b l Z a0 hw [] p1 T20.heap n0 Z20 fx44 ha34 ha35) hZ (hw _ (List.mem_of_getElem? (i := 30) rfl)) (hw _ (List.mem_of_getElem? (i := 29) rfl)) (by decide) (by decide)) (g := (mkF m 158 #[.val (.int p1), .val (.int p2), .val (.int p3), .val (.int p4), .val (.int p5), .val (.int (p2 &&& (65535 : Int32))), .val (.int w7), .val (.int w10), .val (.ref b12), .val (.ref b17), .val (.int (2 : Int32)), .unset] [(.int p1)])) rfl (by rw [hml]; rfl) (argsL := [(.int p1)]) (rest := []) (lenOf pd_4 rfl) rfl (by show 2 * 0 + _ ≤ _; exact Nat.le_of_eq rfl) (hb hby at_158) (fun _ _ => ⟨rfl, rfl, (by decide : 2 + 1 ≤ _), (by decide : 4 + 1 ≤ _)⟩)
          dsimp only [Pt.U, Pt.locs, Pt.cells, Pt.slots] at X43 l43 y43 z43 st43 hQ43
          subst l43 y43 z43
          obtain ⟨b47, rfl, N43q, K43q, s_b47, fq43_0, fq43_1⟩ := hQ43
          have N43 := Fr.app Ng20 N43q
          have K43 : Keep h0 T43.heap [] := K20.trans K43q all0
          have g_b47 : n0 ≤ b47 := Nat.le_trans Z20 s_b47
          have sz_b47 : h0.size ≤ b47 := Nat.le_trans K20.1 s_b47
          have ne_vC_b47 : vC ≠ b47 := Nat.ne_of_lt (Nat.lt_of_lt_of_le fx45.lt s_b47)
          have ne_b12_b47 : b12 ≠ b47 := Nat.ne_of_lt (Nat.lt_of_lt_of_le fx46.lt s_b47)
          have ne_b17_b47 : b17 ≠ b47 := Nat.ne_of_lt (Nat.lt_of_lt_of_le fq20_0.lt s_b47)
          have Z43 : n0 ≤ T43.heap.size := Nat.le_trans Z20 K43q.1
          obtain ⟨Lg43, Xg43, Ng43⟩ := Stand_gen X43 N43
          refine Run.go st43 ?_
          show Run p e below s 3 5 (Q_rm0 Z p1 p2 p3 p4 p5 vC fC h0 n0) (T43.setTop (mkF m 161 #[.val (.int p1), .val (.int p2), .val (.int p3), .val (.int p4), .val (.int p5), .val (.int (p2 &&& (65535 : Int32))), .val (.int w7), .val (.int w10), .val (.ref b12), .val (.ref b17), .val (.int (2 : Int32)), .unset] [(.ref b47)]))
          refine Run.go (fun _ k => XS.astore Xg43.here hx rfl (hb hby at_161) rfl rfl (l' := #[.val (.int p1), .val (.int p2), .val (.int p3), .val (.int p4), .val (.int p5), .val (.int (p2 &&& (65535 : Int32))), .val (.int w7), .val (.int w10), .val (.ref b12), .val (.ref b17), .val (.int (2 : Int32)), .val (.ref b47)]) rfl k) ?_
          show Run p e below s 3 5 (Q_rm0 Z p1 p2 p3 p4 p5 vC fC h0 n0) (T43.setTop (mkF m 163 #[.val (.int p1), .val (.int p2), .val (.int p3), .val (.int p4), .val (.int p5), .val (.int (p2 &&& (65535 : Int32))), .val (.int w7), .val (.int w10), .val (.ref b12), .val (.ref b17), .val (.int (2 : Int32)), .val (.ref b47)] []))
          refine Run.go (fun _ k => XS.aload Xg43.here hx rfl (hb hby at_163) rfl rfl k) ?_
          show Run p e below s 3 5 (Q_rm0 Z p1 p2 p3 p4 p5 vC fC h0 n0) (T43.setTop (mkF m 165 #[.val (.int p1), .val (.int p2), .val (.int p3), .val (.int p4), .val (.int p5), .val (.int (p2 &&& (65535 : Int32))), .val (.int w7), .val (.int w10), .val (.ref b12), .val (.ref b17), .val (.int (2 : Int32)), .val (.ref b47)] [(.ref b12)]))
          refine Run.go (fun _ k => XS.aload Xg43.here hx rfl (hb hby at_165) rfl rfl k) ?_
          show Run p e below s 3 5 (Q_rm0 Z p1 p2 p3 p4 p5 vC fC h0 n0) (T43.setTop (mkF m 167 #[.val (.int p1), .val (.int p2), .val (.int p3), .val (.int p4), .val (.int p5), .val (.int (p2 &&& (65535 : Int32))), .val (.int w7), .val (.int w10), .val (.ref b12), .val (.ref b17), .val (.int (2 : Int32)), .val (.ref b47)] [(.ref b47), (.ref b12)]))
          have fx49 := (fx46.keep K43q)
          obtain ⟨cq48, kq48, q48a, q48b, q48c⟩ := isOf hZ rfl fx49
          obtain ⟨_, _, ⟨T48, L48, k48, n48⟩, -, X48, ⟨Lc48, hQ48, l48, y48, z48⟩, st48⟩ := Xg43.virtualBack hx (y := (⟨"murmuration/Contact", "equals", "(Ljava/lang/Object;)Z"⟩ : MethodName)) (z := (⟨"murmuration/Contact", "equals", "(Ljava/lang/Object;)Z"⟩ : MethodName)) hown (mvT hZ (hw _ (List.mem_of_getElem? (i := 20) rfl))) (mvT hZ (hw _ (List.mem_of_getElem? (i := 21) rfl))) (notFace_of_selects (args := #[]) (mvT hZ (hw _ (List.mem_of_getElem? (i := 23) rfl)))) (mvT hZ (hw _ (List.mem_of_getElem? (i := 23) rfl))) (mvT hZ (hw _ (List.mem_of_getElem? (i := 22) rfl))) (by decide) (backOf (W := 0) (rm4i l Z a0 hw [] b12 b47 T43.heap n0 Z43 fq43_0) hZ (hw _ (List.mem_of_getElem? (i := 24) rfl)) (hw _ (List.mem_of_getElem? (i := 3) rfl)) (by decide) (by decide)) q48a q48c (g := (mkF m 167 #[.val (.int p1), .val (.int p2), .val (.int p3), .val (.int p4), .val (.int p5), .val (.int (p2 &&& (65535 : Int32))), .val (.int w7), .val (.int w10), .val (.ref b12), .val (.ref b17), .val (.int (2 : Int32)), .val (.ref b47)] [(.ref b47), (.ref b12)])) rfl (by rw [hml]; rfl) (Steps.refl _) (argsL := [(.ref b47)]) (rest := []) (lenOf pd_3 rfl) rfl (by show 2 * 0 + _ ≤ _; exact Nat.le_of_eq rfl) (hb hby at_167) (fun _ _ => ⟨rfl, rfl, (by decide : 3 + 0 ≤ _), (by decide : 5 + 0 ≤ _)⟩)
          dsimp only [Pt.U, Pt.locs, Pt.cells, Pt.slots] at X48 l48 y48 z48 st48 hQ48
          subst l48 y48 z48
          obtain ⟨rfl, N48q, e48q⟩ := hQ48
          have N48 := Fr.app Ng43 N48q
          obtain ⟨Lg48, Xg48, Ng48⟩ := Stand_gen X48 N48
          refine Run.tr st48 ?_
          show Run p e below s 3 5 (Q_rm0 Z p1 p2 p3 p4 p5 vC fC h0 n0) (T48.setTop (mkF m 170 #[.val (.int p1), .val (.int p2), .val (.int p3), .val (.int p4), .val (.int p5), .val (.int (p2 &&& (65535 : Int32))), .val (.int w7), .val (.int w10), .val (.ref b12), .val (.ref b17), .val (.int (2 : Int32)), .val (.ref b47)] [(.int (0 : Int32))]))
          refine Run.go (fun _ k => XS.ifNo Xg48.here hx rfl (hb hby at_170) rfl ((if0 _ _).trans (teq (rfl : (0 : Int32) = (0 : Int32))).2) k) ?_
          show Run p e below s 3 5 (Q_rm0 Z p1 p2 p3 p4 p5 vC fC h0 n0) (T48.setTop (mkF m 173 #[.val (.int p1), .val (.int p2), .val (.int p3), .val (.int p4), .val (.int p5), .val (.int (p2 &&& (65535 : Int32))), .val (.int w7), .val (.int w10), .val (.ref b12), .val (.ref b17), .val (.int (2 : Int32)), .val (.ref b47)] []))
          refine Run.go (fun _ k => XS.iconst Xg48.here hx rfl (hb hby at_173) k) ?_
          show Run p e below s 3 5 (Q_rm0 Z p1 p2 p3 p4 p5 vC fC h0 n0) (T48.setTop (mkF m 174 #[.val (.int p1), .val (.int p2), .val (.int p3), .val (.int p4), .val (.int p5), .val (.int (p2 &&& (65535 : Int32))), .val (.int w7), .val (.int w10), .val (.ref b12), .val (.ref b17), .val (.int (2 : Int32)), .val (.ref b47)] [(.int (1 : Int32))]))
          refine Run.go (fun _ k => XS.goto Xg48.here hx rfl (pc0 := 174) (pc' := 178) rfl (hb hby at_174) (by decide) (by decide) k) ?_
          show Run p e below s 3 5 (Q_rm0 Z p1 p2 p3 p4 p5 vC fC h0 n0) (T48.setTop (mkF m 178 #[.val (.int p1), .val (.int p2), .val (.int p3), .val (.int p4), .val (.int p5), .val (.int (p2 &&& (65535 : Int32))), .val (.int w7), .val (.int w10), .val (.ref b12), .val (.ref b17), .val (.int (2 : Int32)), .val (.ref b47)] [(.int (1 : Int32))]))
          exact Run.retN (y := 1) Xg48 hx (t := .boolean) Bd.returns (by simp) rfl Bd.notSynchronized (hb hby at_178) (by decide) (by decide) ⟨rfl, Ng48⟩
        · show Run p e below s 3 5 (Q_rm0 Z p1 p2 p3 p4 p5 vC fC h0 n0) (T20.setTop (mkF m 157 #[.val (.int p1), .val (.int p2), .val (.int p3), .val (.int p4), .val (.int p5), .val (.int (p2 &&& (65535 : Int32))), .val (.int w7), .val (.int w10), .val (.ref b12), .val (.ref b17), .val (.int (2 : Int32)), .unset] []))
          refine Run.go (fun _ k => XS.iloadN Xg20.here hx rfl (hb hby at_157) rfl  k) ?_
          show Run p e below s 3 5 (Q_rm0 Z p1 p2 p3 p4 p5 vC fC h0 n0) (T20.setTop (mkF m 158 #[.val (.int p1), .val (.int p2), .val (.int p3), .val (.int p4), .val (.int p5), .val (.int (p2 &&& (65535 : Int32))), .val (.int w7), .val (.int w10), .val (.ref b12), .val (.ref b17), .val (.int (2 : Int32)), .unset] [(.int p1)]))
          have fx51 := ((fx16.ext E17).keep K20q (ninS ne_vC_b17 nin0))
          have fx52 := (Sta.keep ((Sta.keep (S_Integer_IntegerCache_high.ext E12) K15q (allS (Exa.nst A12) all0)).ext E17) K20q (allS (Exa.nst A17) all0))
          have fx53 := (Sta.keep ((Sta.keep (S_Integer_IntegerCache_cache.ext E12) K15q (allS (Exa.nst A12) all0)).ext E17) K20q (allS (Exa.nst A17) all0))
          obtain ⟨_, _, ⟨T50, L50, k50, n50⟩, -, X50, ⟨Lc50, hQ50, l50, y50, z50⟩, st50⟩ := Jvm.LawKit.callS Xg20 hx (y := (⟨"java/lang/Integer", "valueOf", "(I)Ljava/lang/Integer;"⟩ : MethodName)) hown (mvT hZ (hw _ (List.mem_of_getElem? (i := 27) rfl))) (mvT hZ (hw _ (List.mem_of_getElem? (i := 28) rfl))) (mvT hZ (hw _ (List.mem_of_getElem? (i := 29) rfl))) (mvT hZ (hw _ (List.mem_of_getElem? (i := 30) rfl))) (by decide) (backOf (W := 0) (rm5c l Z a0 hw [] p1 vC fC T20.heap n0 Z20 fx52 fx53 fx51 (fun i hi => by obtain ⟨y, hy, ye⟩ := hall i hi; exact ⟨y, hy, ye.keep K20⟩) ha34 ha35) hZ (hw _ (List.mem_of_getElem? (i := 30) rfl)) (hw _ (List.mem_of_getElem? (i := 29) rfl)) (by decide) (by decide)) (g := (mkF m 158 #[.val (.int p1), .val (.int p2), .val (.int p3), .val (.int p4), .val (.int p5), .val (.int (p2 &&& (65535 : Int32))), .val (.int w7), .val (.int w10), .val (.ref b12), .val (.ref b17), .val (.int (2 : Int32)), .unset] [(.int p1)])) rfl (by rw [hml]; rfl) (argsL := [(.int p1)]) (rest := []) (lenOf pd_4 rfl) rfl (by show 2 * 0 + _ ≤ _; exact Nat.le_of_eq rfl) (hb hby at_158) (fun _ _ => ⟨rfl, rfl, (by decide : 2 + 0 ≤ _), (by decide : 4 + 0 ≤ _)⟩)
          dsimp only [Pt.U, Pt.locs, Pt.cells, Pt.slots] at X50 l50 y50 z50 st50 hQ50
          subst l50 y50 z50
          obtain ⟨b54, rfl, N50q, e50q, fq50_0⟩ := hQ50
          have N50 := Fr.app Ng20 N50q
          obtain ⟨Lg50, Xg50, Ng50⟩ := Stand_gen X50 N50
          refine Run.go st50 ?_
          show Run p e below s 3 5 (Q_rm0 Z p1 p2 p3 p4 p5 vC fC h0 n0) (T50.setTop (mkF m 161 #[.val (.int p1), .val (.int p2), .val (.int p3), .val (.int p4), .val (.int p5), .val (.int (p2 &&& (65535 : Int32))), .val (.int w7), .val (.int w10), .val (.ref b12), .val (.ref b17), .val (.int (2 : Int32)), .unset] [(.ref b54)]))
          refine Run.go (fun _ k => XS.astore Xg50.here hx rfl (hb hby at_161) rfl rfl (l' := #[.val (.int p1), .val (.int p2), .val (.int p3), .val (.int p4), .val (.int p5), .val (.int (p2 &&& (65535 : Int32))), .val (.int w7), .val (.int w10), .val (.ref b12), .val (.ref b17), .val (.int (2 : Int32)), .val (.ref b54)]) rfl k) ?_
          show Run p e below s 3 5 (Q_rm0 Z p1 p2 p3 p4 p5 vC fC h0 n0) (T50.setTop (mkF m 163 #[.val (.int p1), .val (.int p2), .val (.int p3), .val (.int p4), .val (.int p5), .val (.int (p2 &&& (65535 : Int32))), .val (.int w7), .val (.int w10), .val (.ref b12), .val (.ref b17), .val (.int (2 : Int32)), .val (.ref b54)] []))
          refine Run.go (fun _ k => XS.aload Xg50.here hx rfl (hb hby at_163) rfl rfl k) ?_
          show Run p e below s 3 5 (Q_rm0 Z p1 p2 p3 p4 p5 vC fC h0 n0) (T50.setTop (mkF m 165 #[.val (.int p1), .val (.int p2), .val (.int p3), .val (.int p4), .val (.int p5), .val (.int (p2 &&& (65535 : Int32))), .val (.int w7), .val (.int w10), .val (.ref b12), .val (.ref b17), .val (.int (2 : Int32)), .val (.ref b54)] [(.ref b12)]))
          refine Run.go (fun _ k => XS.aload Xg50.here hx rfl (hb hby at_165) rfl rfl k) ?_
          show Run p e below s 3 5 (Q_rm0 Z p1 p2 p3 p4 p5 vC fC h0 n0) (T50.setTop (mkF m 167 #[.val (.int p1), .val (.int p2), .val (.int p3), .val (.int p4), .val (.int p5), .val (.int (p2 &&& (65535 : Int32))), .val (.int w7), .val (.int w10), .val (.ref b12), .val (.ref b17), .val (.int (2 : Int32)), .val (.ref b54)] [(.ref b54), (.ref b12)]))
          have fx56 := ((fq15_0.ext E17).keep K20q)
          obtain ⟨cq55, kq55, q55a, q55b, q55c⟩ := isOf hZ e50q fx56
          obtain ⟨_, _, ⟨T55, L55, k55, n55⟩, -, X55, ⟨Lc55, hQ55, l55, y55, z55⟩, st55⟩ := Xg50.virtualBack hx (y := (⟨"murmuration/Contact", "equals", "(Ljava/lang/Object;)Z"⟩ : MethodName)) (z := (⟨"murmuration/Contact", "equals", "(Ljava/lang/Object;)Z"⟩ : MethodName)) hown (mvT hZ (hw _ (List.mem_of_getElem? (i := 20) rfl))) (mvT hZ (hw _ (List.mem_of_getElem? (i := 21) rfl))) (notFace_of_selects (args := #[]) (mvT hZ (hw _ (List.mem_of_getElem? (i := 23) rfl)))) (mvT hZ (hw _ (List.mem_of_getElem? (i := 23) rfl))) (mvT hZ (hw _ (List.mem_of_getElem? (i := 22) rfl))) (by decide) (backOf (W := 0) (rm4i l Z a0 hw [] b12 b54 T20.heap n0 Z20 fq50_0) hZ (hw _ (List.mem_of_getElem? (i := 24) rfl)) (hw _ (List.mem_of_getElem? (i := 3) rfl)) (by decide) (by decide)) q55a q55c (g := (mkF m 167 #[.val (.int p1), .val (.int p2), .val (.int p3), .val (.int p4), .val (.int p5), .val (.int (p2 &&& (65535 : Int32))), .val (.int w7), .val (.int w10), .val (.ref b12), .val (.ref b17), .val (.int (2 : Int32)), .val (.ref b54)] [(.ref b54), (.ref b12)])) rfl (by rw [hml]; rfl) (Steps.refl _) (argsL := [(.ref b54)]) (rest := []) (lenOf pd_3 rfl) rfl (by show 2 * 0 + _ ≤ _; exact Nat.le_of_eq rfl) (hb hby at_167) (fun _ _ => ⟨rfl, e50q, (by decide : 2 + 0 ≤ _), (by decide : 4 + 0 ≤ _)⟩)
          dsimp only [Pt.U, Pt.locs, Pt.cells, Pt.slots] at X55 l55 y55 z55 st55 hQ55
          subst l55 y55 z55
          obtain ⟨rfl, N55q, e55q⟩ := hQ55
          have N55 := Fr.app Ng50 N55q
          obtain ⟨Lg55, Xg55, Ng55⟩ := Stand_gen X55 N55
          refine Run.tr st55 ?_
          show Run p e below s 3 5 (Q_rm0 Z p1 p2 p3 p4 p5 vC fC h0 n0) (T55.setTop (mkF m 170 #[.val (.int p1), .val (.int p2), .val (.int p3), .val (.int p4), .val (.int p5), .val (.int (p2 &&& (65535 : Int32))), .val (.int w7), .val (.int w10), .val (.ref b12), .val (.ref b17), .val (.int (2 : Int32)), .val (.ref b54)] [(.int (0 : Int32))]))
          refine Run.go (fun _ k => XS.ifNo Xg55.here hx rfl (hb hby at_170) rfl ((if0 _ _).trans (teq (rfl : (0 : Int32) = (0 : Int32))).2) k) ?_
          show Run p e below s 3 5 (Q_rm0 Z p1 p2 p3 p4 p5 vC fC h0 n0) (T55.setTop (mkF m 173 #[.val (.int p1), .val (.int p2), .val (.int p3), .val (.int p4), .val (.int p5), .val (.int (p2 &&& (65535 : Int32))), .val (.int w7), .val (.int w10), .val (.ref b12), .val (.ref b17), .val (.int (2 : Int32)), .val (.ref b54)] []))
          refine Run.go (fun _ k => XS.iconst Xg55.here hx rfl (hb hby at_173) k) ?_
          show Run p e below s 3 5 (Q_rm0 Z p1 p2 p3 p4 p5 vC fC h0 n0) (T55.setTop (mkF m 174 #[.val (.int p1), .val (.int p2), .val (.int p3), .val (.int p4), .val (.int p5), .val (.int (p2 &&& (65535 : Int32))), .val (.int w7), .val (.int w10), .val (.ref b12), .val (.ref b17), .val (.int (2 : Int32)), .val (.ref b54)] [(.int (1 : Int32))]))
          refine Run.go (fun _ k => XS.goto Xg55.here hx rfl (pc0 := 174) (pc' := 178) rfl (hb hby at_174) (by decide) (by decide) k) ?_
          show Run p e below s 3 5 (Q_rm0 Z p1 p2 p3 p4 p5 vC fC h0 n0) (T55.setTop (mkF m 178 #[.val (.int p1), .val (.int p2), .val (.int p3), .val (.int p4), .val (.int p5), .val (.int (p2 &&& (65535 : Int32))), .val (.int w7), .val (.int w10), .val (.ref b12), .val (.ref b17), .val (.int (2 : Int32)), .val (.ref b54)] [(.int (1 : Int32))]))
          exact Run.retN (y := 1) Xg55 hx (t := .boolean) Bd.returns (by simp) rfl Bd.notSynchronized (hb hby at_178) (by decide) (by decide) ⟨rfl, Ng55⟩
      · rw [hk21]
        show Run p e below s 3 5 (Q_rm0 Z p1 p2 p3 p4 p5 vC fC h0 n0) (T20.setTop (mkF m 71 #[.val (.int p1), .val (.int p2), .val (.int p3), .val (.int p4), .val (.int p5), .val (.int (p2 &&& (65535 : Int32))), .val (.int w7), .val (.int w10), .val (.ref b12), .val (.ref b17), .val (.int (3 : Int32)), .unset] []))
        refine Run.go (fun _ k => XS.iload Xg20.here hx rfl (hb hby at_71) rfl  k) ?_
        show Run p e below s 3 5 (Q_rm0 Z p1 p2 p3 p4 p5 vC fC h0 n0) (T20.setTop (mkF m 73 #[.val (.int p1), .val (.int p2), .val (.int p3), .val (.int p4), .val (.int p5), .val (.int (p2 &&& (65535 : Int32))), .val (.int w7), .val (.int w10), .val (.ref b12), .val (.ref b17), .val (.int (3 : Int32)), .unset] [(.int (3 : Int32))]))
        refine Run.go (fun _ k => XS.ifYes Xg20.here hx rfl (pc0 := 73) (pc' := 126) rfl (hb hby at_73) rfl ((if0 _ _).trans (feq (by decide)).2) (by decide) (by decide) k) ?_
        show Run p e below s 3 5 (Q_rm0 Z p1 p2 p3 p4 p5 vC fC h0 n0) (T20.setTop (mkF m 126 #[.val (.int p1), .val (.int p2), .val (.int p3), .val (.int p4), .val (.int p5), .val (.int (p2 &&& (65535 : Int32))), .val (.int w7), .val (.int w10), .val (.ref b12), .val (.ref b17), .val (.int (3 : Int32)), .unset] []))
        refine Run.go (fun _ k => XS.iload Xg20.here hx rfl (hb hby at_126) rfl  k) ?_
        show Run p e below s 3 5 (Q_rm0 Z p1 p2 p3 p4 p5 vC fC h0 n0) (T20.setTop (mkF m 128 #[.val (.int p1), .val (.int p2), .val (.int p3), .val (.int p4), .val (.int p5), .val (.int (p2 &&& (65535 : Int32))), .val (.int w7), .val (.int w10), .val (.ref b12), .val (.ref b17), .val (.int (3 : Int32)), .unset] [(.int (3 : Int32))]))
        refine Run.go (fun _ k => XS.iconst Xg20.here hx rfl (hb hby at_128) k) ?_
        show Run p e below s 3 5 (Q_rm0 Z p1 p2 p3 p4 p5 vC fC h0 n0) (T20.setTop (mkF m 129 #[.val (.int p1), .val (.int p2), .val (.int p3), .val (.int p4), .val (.int p5), .val (.int (p2 &&& (65535 : Int32))), .val (.int w7), .val (.int w10), .val (.ref b12), .val (.ref b17), .val (.int (3 : Int32)), .unset] [(.int (1 : Int32)), (.int (3 : Int32))]))
        refine Run.go (fun _ k => XS.icmpYes Xg20.here hx rfl (pc0 := 129) (pc' := 151) rfl (hb hby at_129) rfl (feq (by decide)).2 (by decide) (by decide) k) ?_
        show Run p e below s 3 5 (Q_rm0 Z p1 p2 p3 p4 p5 vC fC h0 n0) (T20.setTop (mkF m 151 #[.val (.int p1), .val (.int p2), .val (.int p3), .val (.int p4), .val (.int p5), .val (.int (p2 &&& (65535 : Int32))), .val (.int w7), .val (.int w10), .val (.ref b12), .val (.ref b17), .val (.int (3 : Int32)), .unset] []))
        refine Run.go (fun _ k => XS.iload Xg20.here hx rfl (hb hby at_151) rfl  k) ?_
        show Run p e below s 3 5 (Q_rm0 Z p1 p2 p3 p4 p5 vC fC h0 n0) (T20.setTop (mkF m 153 #[.val (.int p1), .val (.int p2), .val (.int p3), .val (.int p4), .val (.int p5), .val (.int (p2 &&& (65535 : Int32))), .val (.int w7), .val (.int w10), .val (.ref b12), .val (.ref b17), .val (.int (3 : Int32)), .unset] [(.int (3 : Int32))]))
        refine Run.go (fun _ k => XS.iconst Xg20.here hx rfl (hb hby at_153) k) ?_
        show Run p e below s 3 5 (Q_rm0 Z p1 p2 p3 p4 p5 vC fC h0 n0) (T20.setTop (mkF m 154 #[.val (.int p1), .val (.int p2), .val (.int p3), .val (.int p4), .val (.int p5), .val (.int (p2 &&& (65535 : Int32))), .val (.int w7), .val (.int w10), .val (.ref b12), .val (.ref b17), .val (.int (3 : Int32)), .unset] [(.int (2 : Int32)), (.int (3 : Int32))]))
        refine Run.go (fun _ k => XS.icmpYes Xg20.here hx rfl (pc0 := 154) (pc' := 179) rfl (hb hby at_154) rfl (feq (by decide)).2 (by decide) (by decide) k) ?_
        show Run p e below s 3 5 (Q_rm0 Z p1 p2 p3 p4 p5 vC fC h0 n0) (T20.setTop (mkF m 179 #[.val (.int p1), .val (.int p2), .val (.int p3), .val (.int p4), .val (.int p5), .val (.int (p2 &&& (65535 : Int32))), .val (.int w7), .val (.int w10), .val (.ref b12), .val (.ref b17), .val (.int (3 : Int32)), .unset] []))
        refine Run.go (fun _ k => XS.aload Xg20.here hx rfl (hb hby at_179) rfl rfl k) ?_
        show Run p e below s 3 5 (Q_rm0 Z p1 p2 p3 p4 p5 vC fC h0 n0) (T20.setTop (mkF m 181 #[.val (.int p1), .val (.int p2), .val (.int p3), .val (.int p4), .val (.int p5), .val (.int (p2 &&& (65535 : Int32))), .val (.int w7), .val (.int w10), .val (.ref b12), .val (.ref b17), .val (.int (3 : Int32)), .unset] [(.ref b12)]))
        refine Run.go (fun _ k => XS.aload Xg20.here hx rfl (hb hby at_181) rfl rfl k) ?_
        show Run p e below s 3 5 (Q_rm0 Z p1 p2 p3 p4 p5 vC fC h0 n0) (T20.setTop (mkF m 183 #[.val (.int p1), .val (.int p2), .val (.int p3), .val (.int p4), .val (.int p5), .val (.int (p2 &&& (65535 : Int32))), .val (.int w7), .val (.int w10), .val (.ref b12), .val (.ref b17), .val (.int (3 : Int32)), .unset] [(.ref b12), (.ref b12)]))
        have fx58 := ((fq15_0.ext E17).keep K20q)
        have fx59 := ((fq15_1.ext E17).keep K20q (ninS ne_b12_b17 nin0))
        have fx60 := ((fq15_2.ext E17).keep K20q (ninS ne_b12_b17 nin0))
        obtain ⟨cq57, kq57, q57a, q57b, q57c⟩ := isOf hZ rfl fx58
        obtain ⟨_, _, ⟨T57, L57, k57, n57⟩, -, X57, ⟨Lc57, hQ57, l57, y57, z57⟩, st57⟩ := Xg20.virtualBack hx (y := (⟨"murmuration/Contact", "equals", "(Ljava/lang/Object;)Z"⟩ : MethodName)) (z := (⟨"murmuration/Contact", "equals", "(Ljava/lang/Object;)Z"⟩ : MethodName)) hown (mvT hZ (hw _ (List.mem_of_getElem? (i := 20) rfl))) (mvT hZ (hw _ (List.mem_of_getElem? (i := 21) rfl))) (notFace_of_selects (args := #[]) (mvT hZ (hw _ (List.mem_of_getElem? (i := 23) rfl)))) (mvT hZ (hw _ (List.mem_of_getElem? (i := 23) rfl))) (mvT hZ (hw _ (List.mem_of_getElem? (i := 22) rfl))) (by decide) (backOf (W := 0) (rm4s l Z a0 hw [] b12 p1 (p2 &&& (65535 : Int32)) T20.heap n0 Z20 fx58 fx59 fx60) hZ (hw _ (List.mem_of_getElem? (i := 24) rfl)) (hw _ (List.mem_of_getElem? (i := 3) rfl)) (by decide) (by decide)) q57a q57c (g := (mkF m 183 #[.val (.int p1), .val (.int p2), .val (.int p3), .val (.int p4), .val (.int p5), .val (.int (p2 &&& (65535 : Int32))), .val (.int w7), .val (.int w10), .val (.ref b12), .val (.ref b17), .val (.int (3 : Int32)), .unset] [(.ref b12), (.ref b12)])) rfl (by rw [hml]; rfl) (Steps.refl _) (argsL := [(.ref b12)]) (rest := []) (lenOf pd_3 rfl) rfl (by show 2 * 0 + _ ≤ _; exact Nat.le_of_eq rfl) (hb hby at_183) (fun _ _ => ⟨rfl, rfl, (by decide : 2 + 0 ≤ _), (by decide : 4 + 0 ≤ _)⟩)
        dsimp only [Pt.U, Pt.locs, Pt.cells, Pt.slots] at X57 l57 y57 z57 st57 hQ57
        subst l57 y57 z57
        obtain ⟨rfl, N57q, e57q⟩ := hQ57
        have N57 := Fr.app Ng20 N57q
        obtain ⟨Lg57, Xg57, Ng57⟩ := Stand_gen X57 N57
        refine Run.tr st57 ?_
        show Run p e below s 3 5 (Q_rm0 Z p1 p2 p3 p4 p5 vC fC h0 n0) (T57.setTop (mkF m 186 #[.val (.int p1), .val (.int p2), .val (.int p3), .val (.int p4), .val (.int p5), .val (.int (p2 &&& (65535 : Int32))), .val (.int w7), .val (.int w10), .val (.ref b12), .val (.ref b17), .val (.int (3 : Int32)), .unset] [(.int (1 : Int32))]))
        exact Run.retN (y := 1) Xg57 hx (t := .boolean) Bd.returns (by simp) rfl Bd.notSynchronized (hb hby at_186) (by decide) (by decide) ⟨rfl, Ng57⟩
    by_cases hc61 : ((p5 &&& (2 : Int32)) = (0 : Int32))
    · refine Run.go (fun _ k => XS.ifYes X8.here hx rfl (pc0 := 24) (pc' := 32) rfl (hb hby at_24) rfl ((if0 _ _).trans (teq hc61).1) (by decide) (by decide) k) ?_
      show Run p e below s 3 5 (Q_rm0 Z p1 p2 p3 p4 p5 vC fC h0 n0) (T8.setTop (mkF m 32 #[.val (.int p1), .val (.int p2), .val (.int p3), .val (.int p4), .val (.int p5), .val (.int (p2 &&& (65535 : Int32))), .val (.int w7), .unset, .unset, .unset, .unset, .unset] []))
      refine Run.go (fun _ k => XS.iloadN X8.here hx rfl (hb hby at_32) rfl  k) ?_
      show Run p e below s 3 5 (Q_rm0 Z p1 p2 p3 p4 p5 vC fC h0 n0) (T8.setTop (mkF m 33 #[.val (.int p1), .val (.int p2), .val (.int p3), .val (.int p4), .val (.int p5), .val (.int (p2 &&& (65535 : Int32))), .val (.int w7), .unset, .unset, .unset, .unset, .unset] [(.int p4)]))
      refine Run.go (fun _ k => X8.ldcInt hx hown (mvT hZ (hw _ (List.mem_of_getElem? (i := 0) rfl))) (g := (mkF m 33 #[.val (.int p1), .val (.int p2), .val (.int p3), .val (.int p4), .val (.int p5), .val (.int (p2 &&& (65535 : Int32))), .val (.int w7), .unset, .unset, .unset, .unset, .unset] [(.int p4)])) rfl (hb hby at_33) _ k) ?_
      show Run p e below s 3 5 (Q_rm0 Z p1 p2 p3 p4 p5 vC fC h0 n0) (T8.setTop (mkF m 35 #[.val (.int p1), .val (.int p2), .val (.int p3), .val (.int p4), .val (.int p5), .val (.int (p2 &&& (65535 : Int32))), .val (.int w7), .unset, .unset, .unset, .unset, .unset] [(.int (65535 : Int32)), (.int p4)]))
      refine Run.go (fun _ k => XS.iand X8.here hx rfl (hb hby at_35) rfl k) ?_
      show Run p e below s 3 5 (Q_rm0 Z p1 p2 p3 p4 p5 vC fC h0 n0) (T8.setTop (mkF m 36 #[.val (.int p1), .val (.int p2), .val (.int p3), .val (.int p4), .val (.int p5), .val (.int (p2 &&& (65535 : Int32))), .val (.int w7), .unset, .unset, .unset, .unset, .unset] [(.int (p4 &&& (65535 : Int32)))]))
      exact J9 _ (by rw [if_pos hc61]) _ _ X8 e8 N8
    · refine Run.go (fun _ k => XS.ifNo X8.here hx rfl (hb hby at_24) rfl ((if0 _ _).trans (feq hc61).1) k) ?_
      show Run p e below s 3 5 (Q_rm0 Z p1 p2 p3 p4 p5 vC fC h0 n0) (T8.setTop (mkF m 27 #[.val (.int p1), .val (.int p2), .val (.int p3), .val (.int p4), .val (.int p5), .val (.int (p2 &&& (65535 : Int32))), .val (.int w7), .unset, .unset, .unset, .unset, .unset] []))
      refine Run.go (fun _ k => XS.iload X8.here hx rfl (hb hby at_27) rfl  k) ?_
      show Run p e below s 3 5 (Q_rm0 Z p1 p2 p3 p4 p5 vC fC h0 n0) (T8.setTop (mkF m 29 #[.val (.int p1), .val (.int p2), .val (.int p3), .val (.int p4), .val (.int p5), .val (.int (p2 &&& (65535 : Int32))), .val (.int w7), .unset, .unset, .unset, .unset, .unset] [(.int (p2 &&& (65535 : Int32)))]))
      refine Run.go (fun _ k => XS.goto X8.here hx rfl (pc0 := 29) (pc' := 36) rfl (hb hby at_29) (by decide) (by decide) k) ?_
      show Run p e below s 3 5 (Q_rm0 Z p1 p2 p3 p4 p5 vC fC h0 n0) (T8.setTop (mkF m 36 #[.val (.int p1), .val (.int p2), .val (.int p3), .val (.int p4), .val (.int p5), .val (.int (p2 &&& (65535 : Int32))), .val (.int w7), .unset, .unset, .unset, .unset, .unset] [(.int (p2 &&& (65535 : Int32)))]))
      exact J9 _ (by rw [if_neg hc61]) _ _ X8 e8 N8
  by_cases hc62 : ((p5 &&& (1 : Int32)) = (0 : Int32))
  · refine Run.go (fun _ k => XS.ifYes X0.here hx rfl (pc0 := 10) (pc' := 17) rfl (hb hby at_10) rfl ((if0 _ _).trans (teq hc62).1) (by decide) (by decide) k) ?_
    show Run p e below s 3 5 (Q_rm0 Z p1 p2 p3 p4 p5 vC fC h0 n0) (s₁.setTop (mkF m 17 #[.val (.int p1), .val (.int p2), .val (.int p3), .val (.int p4), .val (.int p5), .val (.int (p2 &&& (65535 : Int32))), .unset, .unset, .unset, .unset, .unset, .unset] []))
    refine Run.go (fun _ k => XS.iloadN X0.here hx rfl (hb hby at_17) rfl  k) ?_
    show Run p e below s 3 5 (Q_rm0 Z p1 p2 p3 p4 p5 vC fC h0 n0) (s₁.setTop (mkF m 18 #[.val (.int p1), .val (.int p2), .val (.int p3), .val (.int p4), .val (.int p5), .val (.int (p2 &&& (65535 : Int32))), .unset, .unset, .unset, .unset, .unset, .unset] [(.int p3)]))
    exact J6 _ (by rw [if_pos hc62]) _ _ X0 e0 N0
  · refine Run.go (fun _ k => XS.ifNo X0.here hx rfl (hb hby at_10) rfl ((if0 _ _).trans (feq hc62).1) k) ?_
    show Run p e below s 3 5 (Q_rm0 Z p1 p2 p3 p4 p5 vC fC h0 n0) (s₁.setTop (mkF m 13 #[.val (.int p1), .val (.int p2), .val (.int p3), .val (.int p4), .val (.int p5), .val (.int (p2 &&& (65535 : Int32))), .unset, .unset, .unset, .unset, .unset, .unset] []))
    refine Run.go (fun _ k => XS.iloadN X0.here hx rfl (hb hby at_13) rfl  k) ?_
    show Run p e below s 3 5 (Q_rm0 Z p1 p2 p3 p4 p5 vC fC h0 n0) (s₁.setTop (mkF m 14 #[.val (.int p1), .val (.int p2), .val (.int p3), .val (.int p4), .val (.int p5), .val (.int (p2 &&& (65535 : Int32))), .unset, .unset, .unset, .unset, .unset, .unset] [(.int p1)]))
    refine Run.go (fun _ k => XS.goto X0.here hx rfl (pc0 := 14) (pc' := 18) rfl (hb hby at_14) (by decide) (by decide) k) ?_
    show Run p e below s 3 5 (Q_rm0 Z p1 p2 p3 p4 p5 vC fC h0 n0) (s₁.setTop (mkF m 18 #[.val (.int p1), .val (.int p2), .val (.int p3), .val (.int p4), .val (.int p5), .val (.int (p2 &&& (65535 : Int32))), .unset, .unset, .unset, .unset, .unset, .unset] [(.int p1)]))
    exact J6 _ (by rw [if_neg hc62]) _ _ X0 e0 N0
set_option maxRecDepth 65536 in
set_option maxHeartbeats 40000000 in
theorem comes_1 {Post : Tables → Env → Array Value → State → Outcome → State → Prop} (hpost : ∀ tb e args s v u, (limb_1_1.after args s (.returned v) u = true ∧ limb_1_2.after args s (.returned v) u = true ∧ True) → FrameEnd s (.returned v) u (Jvm.fieldLocs frame_1_writes args s ++ Jvm.arrayLocs frame_1_arrays args s ++ Jvm.staticLocs frame_1_statics s) 16 128 → Post tb e args s (.returned v) u) :
    ArmFor flags0 classFile x code maxLocals ret World_1 tables_1 room_1 Calls_1 rest_1 Pre_1 Post := by
  intro l hfl _ _ p e ha hc hk s m args below hf hA hF happ hP
  obtain ⟨hcalls, hrest, hpre⟩ := hP
  obtain ⟨-, -, -, hnamed, -, -, -, hat⟩ := (Spec.applies_iff hf).mp happ
  obtain ⟨hg, hn⟩ := and_e (Cond.before_iff.mp (show (Jvm.Cond.and given_1 narrow_1).before args s = true from hpre))
  obtain ⟨g1, g2⟩ := and_e hg
  obtain ⟨g3, g4⟩ := and_e g2
  obtain ⟨g5, g6⟩ := and_e g4
  obtain ⟨g7, g8⟩ := and_e g6
  obtain ⟨g9, g10⟩ := and_e g8
  obtain ⟨w0, w1, w2, w3, w4, rfl⟩ : ∃ w0 w1 w2 w3 w4 : Value, args = #[w0, w1, w2, w3, w4] := by
    have hs : args.size = 5 := by simpa [Cond.value, given_1] using g1
    obtain ⟨L⟩ := args
    match L, hs with
    | [w0, w1, w2, w3, w4], _ => exact ⟨w0, w1, w2, w3, w4, rfl⟩
  have hw := fun d (hd : d ∈ tables_1) => atoms_spec (ws := Jvm.Cond.code x code maxLocals ret :: tables_1) hat d (List.mem_cons_of_mem _ hd)
  have hfit : Fit s := fun {y c} hc i hi => by
    obtain ⟨ha, rfl⟩ := Array.getElem?_eq_some_iff.mp hc
    have q := List.all_eq_true.mp ((Array.all_eq_true_iff_forall_mem.mp hF) _ (Array.getElem_mem ha)) i (List.mem_range.mpr hi)
    simpa [Array.getElem?_eq_getElem hi] using q
  obtain ⟨hsets, hown0⟩ := atoms_of _ (rest_1_c_eq ▸ (show rest_1_c.before _ s = true from hrest))
  have hr0 := Cond.before_iff.mp hown0
  obtain ⟨i0, ei0⟩ := is_v g3
  obtain rfl : w0 = (.int i0) := Option.some.inj ei0
  obtain ⟨i1, ei1⟩ := is_v g5
  obtain rfl : w1 = (.int i1) := Option.some.inj ei1
  obtain ⟨i2, ei2⟩ := is_v g7
  obtain rfl : w2 = (.int i2) := Option.some.inj ei2
  obtain ⟨i3, ei3⟩ := is_v g9
  obtain rfl : w3 = (.int i3) := Option.some.inj ei3
  obtain ⟨i4, ei4⟩ := is_v g10
  obtain rfl : w4 = (.int i4) := Option.some.inj ei4
  obtain ⟨xh, yh, eh, -, -, -⟩ := cmp_v (Or.inl (Cond.before_iff.mp (hsets _ (List.mem_of_getElem? (i := 3) rfl))))
  have Shigh : Sta s s.heap "java/lang/Integer$IntegerCache" "high" "I" (.int (127 : Int32)) := Sta.start (own_inteq (Cond.before_iff.mp (hsets _ (List.mem_of_getElem? (i := 3) rfl))) eh) (Or.inl (hsets _ (List.mem_of_getElem? (i := 1) rfl)))
  obtain ⟨vC, evC⟩ := arr_v (Cond.before_iff.mp (hsets _ (List.mem_of_getElem? (i := 4) rfl)))
  have Scache : Sta s s.heap "java/lang/Integer$IntegerCache" "cache" "[Ljava/lang/Integer;" (.ref vC) := Sta.start evC (Or.inr ⟨(hw _ (List.mem_of_getElem? (i := 32) rfl)), hsets _ (List.mem_of_getElem? (i := 2) rfl)⟩)
  obtain ⟨cA, AA⟩ := Arr.start evC (Cond.before_iff.mp (hsets _ (List.mem_of_getElem? (i := 4) rfl)))
  have zA := own_len evC (Arr.fin (Vm.Alike.refl _) AA) (Cond.before_iff.mp (hsets _ (List.mem_of_getElem? (i := 6) rfl)))
  have FA : Ary s s.heap vC (.object "java/lang/Integer") 256 (fun i => (cA.slots[i]?).getD .null) := ⟨cA, AA, zA, fun i hi => by simp [Array.getElem?_eq_getElem (show i < cA.slots.size by omega)]⟩
  have hall := own_all zA AA (fun idx => by have q := evC; simp only [Term.eval] at q ⊢; exact q) (Cond.before_iff.mp (hsets _ (List.mem_of_getElem? (i := 7) rfl)))
  obtain ⟨n, o, h1, h2, h3, _, L, rfl, ⟨rfl, N⟩, hq⟩ := rm0 l s _ hw tables_1 i0 i1 i2 i3 i4 vC (fun i => (cA.slots[i]?).getD .null) s.heap s.heap.size (Nat.le_refl _) Shigh Scache FA hall p e ha hc hk s m _ below hf ((Spec.applies_iff_loose hf).mp happ).1 ⟨rfl, State.Warmed39.refl s, rfl⟩ trivial
  refine ⟨n, _, h1, h2, h3, hpost _ _ _ _ _ _ ⟨Cond.after_iff.mpr rfl, Cond.after_iff.mpr (eq_i res_at (Term.int_eval (1)) rfl), trivial⟩ ⟨hq.1, hq.2.1, (hq.2.2.sift fun y hy => Or.inr (N y hy)).mono (by decide) (by decide)⟩⟩
theorem main_1_1 : Claimed_1_1 := comes_1 fun _ _ _ _ _ _ h hF => ⟨h.1, hF⟩
theorem main_1_2 : Claimed_1_2 := comes_1 fun _ _ _ _ _ _ h hF => ⟨h.2.1, hF⟩
end Jvm.Pilot.@@N@@
namespace Jvm.Pilot.@@N@@
open Jvm Jvm.ClassFile Sem Op Lib Jvm.Free Jvm.Stand Jvm.Pilot.@@N@@.Jvm.D
/-! MADE BY PROGRAM (witnessworld.py) out of the Statement's table words and the real class files: 17 classes; the members and pool entries that the words name. The judged class is class 1, her method 1. -/
namespace start1
open Jvm.ClassFile
def u (s : String) : CpInfo := .utf8 (stringToUtf16 s)
/-- a pool by its gaps: so many unusable entries, then the entry; so many at the end -/
def gap : Nat → List CpInfo → List CpInfo
  | 0, r => r
  | n + 1, r => .unusable :: gap n r
def poolList (es : List (Nat × CpInfo)) (last : Nat) : List CpInfo := es.foldr (fun e r => gap e.1 (e.2 :: r)) (gap last [])
def pool (es : List (Nat × CpInfo)) (last : Nat) : Array CpInfo := ⟨poolList es last⟩
def fileOf (pool : Array CpInfo) (this : Nat) (attrs : Array Attribute := #[]) (ms : Array MethodInfo := #[]) (fl : Nat := 33) (sup : Nat := 0) (ifs : Array Nat := #[]) (fds : Array FieldInfo := #[]) : ClassFile where
  minorVersion := 0
  majorVersion := 65
  constantPool := pool
  accessFlags := fl
  thisClass := this
  superClass := sup
  interfaces := ifs
  fields := fds
  methods := ms
  attributes := attrs
def plain (name : String) (sup : Option ClassId) : Class where
  name := name
  kind := .ordinary
  loader := none
  accessFlags := 33
  super := sup
  interfaces := #[]
  cf := none
  fields := #[]
  methods := #[]
  instanceTypes := #[]
  staticTypes := #[]
  resolved := #[]
  callSites := []
  init := .initialized
  statics := none
  mirror := none

def pool0 : Array CpInfo := pool [(5, u "<init>"), (0, u "()V"), (1, .class_ 10), (1, u "java/lang/Object")] 113

def k0c0 : Code := { maxStack := 0, maxLocals := 1, code := object_method_1_code, exceptionTable := #[], attributes := #[] }
def k0m0 : Method := { name := "<init>", desc := "()V", sig := { parameters := [], returnType := none }, accessFlags := 1, code := some k0c0 }
/-- java/lang/Object -/
def k0 : Class := { plain "java/lang/Object" none with
  accessFlags := 33
  interfaces := #[]
  cf := some (fileOf pool0 8 #[] #[{ accessFlags := 1, nameIndex := 5, descriptorIndex := 6, attributes := #[] }] 33 0 #[] #[])
  fields := #[]
  methods := #[k0m0]
  instanceTypes := #[]
  staticTypes := #[]
  resolved := Array.replicate 124 none
  statics := none }

def pool1 : Array CpInfo := pool [(2, .class_ 4), (1, u "java/lang/Object"), (0, u "<init>"), (0, u "()V"), (0, .integer 65535), (0, .class_ 9), (0, u "murmuration/Contact"), (0, .methodref 8 11), (0, .nameAndType 5 12), (0, u "(II)V"), (0, .methodref 8 14), (0, .nameAndType 15 16), (0, u "equals"), (0, u "(Ljava/lang/Object;)Z"), (0, .methodref 18 19), (0, .class_ 20), (0, .nameAndType 21 22), (0, u "java/lang/Integer"), (0, u "valueOf"), (0, u "(I)Ljava/lang/Integer;"), (0, .class_ 24), (0, u "murmuration/ContactEqualsPinLaw"), (2, u "law"), (0, u "(IIIII)Z")] 3

def k1m0 : Method := { name := "<init>", desc := "()V", sig := { parameters := [], returnType := none }, accessFlags := 1, code := none }
def k1c1 : Code := { maxStack := 4, maxLocals := 12, code := code, exceptionTable := #[], attributes := #[] }
def k1m1 : Method := { name := "law", desc := "(IIIII)Z", sig := { parameters := [.int, .int, .int, .int, .int], returnType := some .boolean }, accessFlags := 9, code := some k1c1 }
/-- murmuration/ContactEqualsPinLaw -/
def k1 : Class := { plain "murmuration/ContactEqualsPinLaw" (some 0) with
  accessFlags := 49
  interfaces := #[]
  cf := some (fileOf pool1 23 #[] #[{ accessFlags := 1, nameIndex := 5, descriptorIndex := 6, attributes := #[] }, { accessFlags := 9, nameIndex := 27, descriptorIndex := 28, attributes := #[] }] 49 2 #[] #[])
  fields := #[]
  methods := #[k1m0, k1m1]
  instanceTypes := #[]
  staticTypes := #[]
  resolved := Array.replicate 32 none
  statics := none }

def pool2 : Array CpInfo := pool [(1, .methodref 2 3), (0, .class_ 4), (0, .nameAndType 5 6), (0, u "java/lang/Object"), (0, u "<init>"), (0, u "()V"), (0, .class_ 8), (0, u "java/lang/Record")] 13

def k2c0 : Code := { maxStack := 1, maxLocals := 1, code := jdk_30_method_1_code, exceptionTable := #[], attributes := #[] }
def k2m0 : Method := { name := "<init>", desc := "()V", sig := { parameters := [], returnType := none }, accessFlags := 4, code := some k2c0 }
/-- java/lang/Record -/
def k2 : Class := { plain "java/lang/Record" (some 0) with
  accessFlags := 1057
  interfaces := #[]
  cf := some (fileOf pool2 7 #[] #[{ accessFlags := 4, nameIndex := 5, descriptorIndex := 6, attributes := #[] }] 1057 2 #[] #[])
  fields := #[]
  methods := #[k2m0]
  instanceTypes := #[]
  staticTypes := #[]
  resolved := Array.replicate 22 none
  statics := none }

def pool3 : Array CpInfo := pool [(1, .class_ 2), (0, u "java/lang/Comparable"), (0, .class_ 4), (0, u "java/lang/Object")] 7

/-- java/lang/Comparable -/
def k3 : Class := { plain "java/lang/Comparable" (some 0) with
  accessFlags := 1537
  interfaces := #[]
  cf := some (fileOf pool3 1 #[] #[] 1537 3 #[] #[])
  fields := #[]
  methods := #[]
  instanceTypes := #[]
  staticTypes := #[]
  resolved := Array.replicate 12 none
  statics := none }

def pool4 : Array CpInfo := pool [(1, .methodref 2 3), (0, .class_ 4), (0, .nameAndType 5 6), (0, u "java/lang/Record"), (0, u "<init>"), (0, u "()V"), (0, .integer 65535), (9, .fieldref 18 19), (0, .class_ 20), (0, .nameAndType 21 22), (0, u "murmuration/Contact"), (0, u "address"), (0, u "I"), (0, .fieldref 18 24), (0, .nameAndType 25 22), (0, u "port"), (23, u "(II)V"), (126, .class_ 177), (0, u "java/lang/Comparable"), (0, u "BYTES"), (20, u "equals"), (0, u "(Ljava/lang/Object;)Z")] 49

def k4c0 : Code := { maxStack := 3, maxLocals := 3, code := prog_7_method_1_code, exceptionTable := #[], attributes := #[] }
def k4m0 : Method := { name := "<init>", desc := "(II)V", sig := { parameters := [.int, .int], returnType := none }, accessFlags := 1, code := some k4c0 }
def k4c1 : Code := { maxStack := 2, maxLocals := 3, code := prog_7_method_9_code, exceptionTable := #[], attributes := #[] }
def k4m1 : Method := { name := "equals", desc := "(Ljava/lang/Object;)Z", sig := { parameters := [(.object "java/lang/Object")], returnType := some .boolean }, accessFlags := 1, code := some k4c1 }
/-- murmuration/Contact -/
def k4 : Class := { plain "murmuration/Contact" (some 2) with
  accessFlags := 49
  interfaces := #[3]
  cf := some (fileOf pool4 18 #[] #[{ accessFlags := 1, nameIndex := 5, descriptorIndex := 49, attributes := #[] }, { accessFlags := 1, nameIndex := 199, descriptorIndex := 200, attributes := #[] }] 49 2 #[176] #[{ accessFlags := 18, nameIndex := 21, descriptorIndex := 22, attributes := #[] }, { accessFlags := 18, nameIndex := 25, descriptorIndex := 22, attributes := #[] }, { accessFlags := 25, nameIndex := 178, descriptorIndex := 22, attributes := #[] }])
  fields := #[{ name := "address", type := .int, accessFlags := 18, slot := 0, constantValue := 0 }, { name := "port", type := .int, accessFlags := 18, slot := 1, constantValue := 0 }, { name := "BYTES", type := .int, accessFlags := 25, slot := 0, constantValue := 0 }]
  methods := #[k4m0, k4m1]
  instanceTypes := #[.int, .int]
  staticTypes := #[.int]
  resolved := Array.replicate 250 none
  statics := none }

def pool5 : Array CpInfo := pool [(1, .class_ 2), (0, u "java/io/Serializable"), (0, .class_ 4), (0, u "java/lang/Object")] 2

/-- java/io/Serializable -/
def k5 : Class := { plain "java/io/Serializable" (some 0) with
  accessFlags := 1537
  interfaces := #[]
  cf := some (fileOf pool5 1 #[] #[] 1537 3 #[] #[])
  fields := #[]
  methods := #[]
  instanceTypes := #[]
  staticTypes := #[]
  resolved := Array.replicate 7 none
  statics := none }

def pool6 : Array CpInfo := pool [(1, .methodref 2 3), (0, .class_ 4), (0, .nameAndType 5 6), (0, u "java/lang/Object"), (0, u "<init>"), (0, u "()V"), (1, .class_ 10), (1, u "java/lang/Number"), (2, .class_ 14), (0, u "java/io/Serializable"), (0, u "serialVersionUID"), (0, u "J")] 20

def k6c0 : Code := { maxStack := 1, maxLocals := 1, code := jdk_18_method_1_code, exceptionTable := #[], attributes := #[] }
def k6m0 : Method := { name := "<init>", desc := "()V", sig := { parameters := [], returnType := none }, accessFlags := 1, code := some k6c0 }
/-- java/lang/Number -/
def k6 : Class := { plain "java/lang/Number" (some 0) with
  accessFlags := 1057
  interfaces := #[5]
  cf := some (fileOf pool6 8 #[] #[{ accessFlags := 1, nameIndex := 5, descriptorIndex := 6, attributes := #[] }] 1057 2 #[13] #[{ accessFlags := 26, nameIndex := 15, descriptorIndex := 16, attributes := #[] }])
  fields := #[{ name := "serialVersionUID", type := .long, accessFlags := 26, slot := 0, constantValue := 0 }]
  methods := #[k6m0]
  instanceTypes := #[]
  staticTypes := #[.long]
  resolved := Array.replicate 37 none
  statics := none }

def pool7 : Array CpInfo := pool [(1, .class_ 2), (0, u "java/lang/constant/Constable"), (0, .class_ 4), (0, u "java/lang/Object")] 6

/-- java/lang/constant/Constable -/
def k7 : Class := { plain "java/lang/constant/Constable" (some 0) with
  accessFlags := 1537
  interfaces := #[]
  cf := some (fileOf pool7 1 #[] #[] 1537 3 #[] #[])
  fields := #[]
  methods := #[]
  instanceTypes := #[]
  staticTypes := #[]
  resolved := Array.replicate 11 none
  statics := none }

def pool8 : Array CpInfo := pool [(1, .class_ 2), (0, u "java/lang/constant/ConstantDesc"), (0, .class_ 4), (0, u "java/lang/Object")] 32

/-- java/lang/constant/ConstantDesc -/
def k8 : Class := { plain "java/lang/constant/ConstantDesc" (some 0) with
  accessFlags := 1537
  interfaces := #[]
  cf := some (fileOf pool8 1 #[] #[] 1537 3 #[] #[])
  fields := #[]
  methods := #[]
  instanceTypes := #[]
  staticTypes := #[]
  resolved := Array.replicate 37 none
  statics := none }

def pool9 : Array CpInfo := pool [(1, .class_ 2), (0, u "java/lang/Integer"), (16, u "digits"), (0, u "[C"), (46, u "<init>"), (17, u "DigitOnes"), (0, u "[B"), (2, u "DigitTens"), (10, .nameAndType 67 101), (0, u "()V"), (85, u "valueOf"), (0, u "(I)Ljava/lang/Integer;"), (0, .class_ 190), (0, u "java/lang/Integer$IntegerCache"), (0, .fieldref 189 192), (0, .nameAndType 193 194), (0, u "high"), (0, u "I"), (0, .fieldref 189 196), (0, .nameAndType 197 198), (0, u "cache"), (0, u "[Ljava/lang/Integer;"), (0, .methodref 1 200), (0, .nameAndType 67 201), (0, u "(I)V"), (0, .methodref 203 100), (0, .class_ 204), (0, u "java/lang/Number"), (0, .fieldref 1 206), (0, .nameAndType 207 194), (0, u "value"), (94, u "TYPE"), (0, u "Ljava/lang/Class;"), (0, .class_ 305), (0, u "java/lang/Comparable"), (0, .class_ 307), (0, u "java/lang/constant/Constable"), (0, .class_ 309), (0, u "java/lang/constant/ConstantDesc"), (0, u "MIN_VALUE"), (1, u "MAX_VALUE"), (3, u "SIZE"), (1, u "BYTES"), (1, u "serialVersionUID"), (0, u "J")] 131

def k9c0 : Code := { maxStack := 3, maxLocals := 1, code := jdk_33_method_22_code, exceptionTable := #[], attributes := #[] }
def k9m0 : Method := { name := "valueOf", desc := "(I)Ljava/lang/Integer;", sig := { parameters := [.int], returnType := some (.object "java/lang/Integer") }, accessFlags := 9, code := some k9c0 }
def k9c1 : Code := { maxStack := 2, maxLocals := 2, code := jdk_33_method_23_code, exceptionTable := #[], attributes := #[] }
def k9m1 : Method := { name := "<init>", desc := "(I)V", sig := { parameters := [.int], returnType := none }, accessFlags := 1, code := some k9c1 }
/-- java/lang/Integer -/
def k9 : Class := { plain "java/lang/Integer" (some 6) with
  accessFlags := 49
  interfaces := #[3, 7, 8]
  cf := some (fileOf pool9 1 #[.nestMembers #[189]] #[{ accessFlags := 9, nameIndex := 187, descriptorIndex := 188, attributes := #[] }, { accessFlags := 1, nameIndex := 67, descriptorIndex := 201, attributes := #[] }] 49 203 #[304, 306, 308] #[{ accessFlags := 25, nameIndex := 310, descriptorIndex := 194, attributes := #[] }, { accessFlags := 25, nameIndex := 312, descriptorIndex := 194, attributes := #[] }, { accessFlags := 25, nameIndex := 302, descriptorIndex := 303, attributes := #[] }, { accessFlags := 24, nameIndex := 19, descriptorIndex := 20, attributes := #[] }, { accessFlags := 24, nameIndex := 89, descriptorIndex := 86, attributes := #[] }, { accessFlags := 24, nameIndex := 85, descriptorIndex := 86, attributes := #[] }, { accessFlags := 18, nameIndex := 207, descriptorIndex := 194, attributes := #[] }, { accessFlags := 25, nameIndex := 316, descriptorIndex := 194, attributes := #[] }, { accessFlags := 25, nameIndex := 318, descriptorIndex := 194, attributes := #[] }, { accessFlags := 26, nameIndex := 320, descriptorIndex := 321, attributes := #[] }])
  fields := #[{ name := "MIN_VALUE", type := .int, accessFlags := 25, slot := 0, constantValue := 0 }, { name := "MAX_VALUE", type := .int, accessFlags := 25, slot := 1, constantValue := 0 }, { name := "TYPE", type := (.object "java/lang/Class"), accessFlags := 25, slot := 2, constantValue := 0 }, { name := "digits", type := (.array .char), accessFlags := 24, slot := 3, constantValue := 0 }, { name := "DigitTens", type := (.array .byte), accessFlags := 24, slot := 4, constantValue := 0 }, { name := "DigitOnes", type := (.array .byte), accessFlags := 24, slot := 5, constantValue := 0 }, { name := "value", type := .int, accessFlags := 18, slot := 0, constantValue := 0 }, { name := "SIZE", type := .int, accessFlags := 25, slot := 6, constantValue := 0 }, { name := "BYTES", type := .int, accessFlags := 25, slot := 7, constantValue := 0 }, { name := "serialVersionUID", type := .long, accessFlags := 26, slot := 8, constantValue := 0 }]
  methods := #[k9m0, k9m1]
  instanceTypes := #[.int]
  staticTypes := #[.int, .int, (.object "java/lang/Class"), (.array .char), (.array .byte), (.array .byte), .int, .int, .long]
  resolved := Array.replicate 453 none
  statics := none }

def pool10 : Array CpInfo := pool [(2, .class_ 4), (1, u "java/lang/Object"), (0, u "<init>"), (0, u "()V"), (0, .class_ 8), (0, u "java/lang/Integer"), (7, .class_ 18), (1, u "java/lang/Integer$IntegerCache"), (0, u "$assertionsDisabled"), (0, u "Z"), (26, u "high"), (0, u "I"), (8, u "archivedCache"), (0, u "[Ljava/lang/Integer;"), (12, u "cache"), (0, u "low")] 27

def k10m0 : Method := { name := "<init>", desc := "()V", sig := { parameters := [], returnType := none }, accessFlags := 2, code := none }
/-- java/lang/Integer$IntegerCache -/
def k10 : Class := { plain "java/lang/Integer$IntegerCache" (some 0) with
  accessFlags := 48
  interfaces := #[]
  cf := some (fileOf pool10 16 #[.nestHost 7] #[{ accessFlags := 2, nameIndex := 5, descriptorIndex := 6, attributes := #[] }] 48 2 #[] #[{ accessFlags := 24, nameIndex := 72, descriptorIndex := 48, attributes := #[] }, { accessFlags := 24, nameIndex := 47, descriptorIndex := 48, attributes := #[] }, { accessFlags := 24, nameIndex := 71, descriptorIndex := 58, attributes := #[] }, { accessFlags := 8, nameIndex := 57, descriptorIndex := 58, attributes := #[] }, { accessFlags := 4120, nameIndex := 19, descriptorIndex := 20, attributes := #[] }])
  fields := #[{ name := "low", type := .int, accessFlags := 24, slot := 0, constantValue := 0 }, { name := "high", type := .int, accessFlags := 24, slot := 1, constantValue := 0 }, { name := "cache", type := (.array (.object "java/lang/Integer")), accessFlags := 24, slot := 2, constantValue := 0 }, { name := "archivedCache", type := (.array (.object "java/lang/Integer")), accessFlags := 8, slot := 3, constantValue := 0 }, { name := "$assertionsDisabled", type := .boolean, accessFlags := 4120, slot := 4, constantValue := 0 }]
  methods := #[k10m0]
  instanceTypes := #[]
  staticTypes := #[.int, .int, (.array (.object "java/lang/Integer")), (.array (.object "java/lang/Integer")), .boolean]
  resolved := Array.replicate 100 none
  statics := some 0 }

def pool11 : Array CpInfo := pool [(1, u "java/lang/Cloneable"), (0, .class_ 1), (0, u "java/lang/Object"), (0, .class_ 3)] 3

/-- java/lang/Cloneable -/
def k11 : Class := { plain "java/lang/Cloneable" (some 0) with
  accessFlags := 1537
  interfaces := #[]
  cf := some (fileOf pool11 2 #[] #[] 1537 4 #[] #[])
  fields := #[]
  methods := #[]
  instanceTypes := #[]
  staticTypes := #[]
  resolved := Array.replicate 8 none
  statics := none }

/-- the primitive byte -/
def k12 : Class := { plain "byte" none with kind := .primitive 'B', accessFlags := 0x411 }
/-- [B -/
def k13 : Class := { plain "[B" (some 0) with kind := .array 12 .byte, interfaces := #[11, 5], accessFlags := 1041 }

/-- the primitive int -/
def k14 : Class := { plain "int" none with kind := .primitive 'I', accessFlags := 0x411 }
/-- [I -/
def k15 : Class := { plain "[I" (some 0) with kind := .array 14 .int, interfaces := #[11, 5], accessFlags := 1041 }

/-- [Ljava/lang/Integer; -/
def k16 : Class := { plain "[Ljava/lang/Integer;" (some 0) with kind := .array 9 (.object "java/lang/Integer"), interfaces := #[11, 5], accessFlags := 1041 }

def heap : Heap := #[{ cls := 10, slots := #[.int 0, .int 127, .ref 1, .null, .int 0], vm := .statics 10 },
  { cls := 16, slots := #[.ref 2, .ref 3, .ref 4, .ref 5, .ref 6, .ref 7, .ref 8, .ref 9, .ref 10, .ref 11, .ref 12, .ref 13, .ref 14, .ref 15, .ref 16, .ref 17, .ref 18, .ref 19, .ref 20, .ref 21, .ref 22, .ref 23, .ref 24, .ref 25, .ref 26, .ref 27, .ref 28, .ref 29, .ref 30, .ref 31, .ref 32, .ref 33, .ref 34, .ref 35, .ref 36, .ref 37, .ref 38, .ref 39, .ref 40, .ref 41, .ref 42, .ref 43, .ref 44, .ref 45, .ref 46, .ref 47, .ref 48, .ref 49, .ref 50, .ref 51, .ref 52, .ref 53, .ref 54, .ref 55, .ref 56, .ref 57, .ref 58, .ref 59, .ref 60, .ref 61, .ref 62, .ref 63, .ref 64, .ref 65, .ref 66, .ref 67, .ref 68, .ref 69, .ref 70, .ref 71, .ref 72, .ref 73, .ref 74, .ref 75, .ref 76, .ref 77, .ref 78, .ref 79, .ref 80, .ref 81, .ref 82, .ref 83, .ref 84, .ref 85, .ref 86, .ref 87, .ref 88, .ref 89, .ref 90, .ref 91, .ref 92, .ref 93, .ref 94, .ref 95, .ref 96, .ref 97, .ref 98, .ref 99, .ref 100, .ref 101, .ref 102, .ref 103, .ref 104, .ref 105, .ref 106, .ref 107, .ref 108, .ref 109, .ref 110, .ref 111, .ref 112, .ref 113, .ref 114, .ref 115, .ref 116, .ref 117, .ref 118, .ref 119, .ref 120, .ref 121, .ref 122, .ref 123, .ref 124, .ref 125, .ref 126, .ref 127, .ref 128, .ref 129, .ref 130, .ref 131, .ref 132, .ref 133, .ref 134, .ref 135, .ref 136, .ref 137, .ref 138, .ref 139, .ref 140, .ref 141, .ref 142, .ref 143, .ref 144, .ref 145, .ref 146, .ref 147, .ref 148, .ref 149, .ref 150, .ref 151, .ref 152, .ref 153, .ref 154, .ref 155, .ref 156, .ref 157, .ref 158, .ref 159, .ref 160, .ref 161, .ref 162, .ref 163, .ref 164, .ref 165, .ref 166, .ref 167, .ref 168, .ref 169, .ref 170, .ref 171, .ref 172, .ref 173, .ref 174, .ref 175, .ref 176, .ref 177, .ref 178, .ref 179, .ref 180, .ref 181, .ref 182, .ref 183, .ref 184, .ref 185, .ref 186, .ref 187, .ref 188, .ref 189, .ref 190, .ref 191, .ref 192, .ref 193, .ref 194, .ref 195, .ref 196, .ref 197, .ref 198, .ref 199, .ref 200, .ref 201, .ref 202, .ref 203, .ref 204, .ref 205, .ref 206, .ref 207, .ref 208, .ref 209, .ref 210, .ref 211, .ref 212, .ref 213, .ref 214, .ref 215, .ref 216, .ref 217, .ref 218, .ref 219, .ref 220, .ref 221, .ref 222, .ref 223, .ref 224, .ref 225, .ref 226, .ref 227, .ref 228, .ref 229, .ref 230, .ref 231, .ref 232, .ref 233, .ref 234, .ref 235, .ref 236, .ref 237, .ref 238, .ref 239, .ref 240, .ref 241, .ref 242, .ref 243, .ref 244, .ref 245, .ref 246, .ref 247, .ref 248, .ref 249, .ref 250, .ref 251, .ref 252, .ref 253, .ref 254, .ref 255, .ref 256, .ref 257], vm := .none },
  { cls := 9, slots := #[.int (-128)], vm := .none },
  { cls := 9, slots := #[.int (-127)], vm := .none },
  { cls := 9, slots := #[.int (-126)], vm := .none },
  { cls := 9, slots := #[.int (-125)], vm := .none },
  { cls := 9, slots := #[.int (-124)], vm := .none },
  { cls := 9, slots := #[.int (-123)], vm := .none },
  { cls := 9, slots := #[.int (-122)], vm := .none },
  { cls := 9, slots := #[.int (-121)], vm := .none },
  { cls := 9, slots := #[.int (-120)], vm := .none },
  { cls := 9, slots := #[.int (-119)], vm := .none },
  { cls := 9, slots := #[.int (-118)], vm := .none },
  { cls := 9, slots := #[.int (-117)], vm := .none },
  { cls := 9, slots := #[.int (-116)], vm := .none },
  { cls := 9, slots := #[.int (-115)], vm := .none },
  { cls := 9, slots := #[.int (-114)], vm := .none },
  { cls := 9, slots := #[.int (-113)], vm := .none },
  { cls := 9, slots := #[.int (-112)], vm := .none },
  { cls := 9, slots := #[.int (-111)], vm := .none },
  { cls := 9, slots := #[.int (-110)], vm := .none },
  { cls := 9, slots := #[.int (-109)], vm := .none },
  { cls := 9, slots := #[.int (-108)], vm := .none },
  { cls := 9, slots := #[.int (-107)], vm := .none },
  { cls := 9, slots := #[.int (-106)], vm := .none },
  { cls := 9, slots := #[.int (-105)], vm := .none },
  { cls := 9, slots := #[.int (-104)], vm := .none },
  { cls := 9, slots := #[.int (-103)], vm := .none },
  { cls := 9, slots := #[.int (-102)], vm := .none },
  { cls := 9, slots := #[.int (-101)], vm := .none },
  { cls := 9, slots := #[.int (-100)], vm := .none },
  { cls := 9, slots := #[.int (-99)], vm := .none },
  { cls := 9, slots := #[.int (-98)], vm := .none },
  { cls := 9, slots := #[.int (-97)], vm := .none },
  { cls := 9, slots := #[.int (-96)], vm := .none },
  { cls := 9, slots := #[.int (-95)], vm := .none },
  { cls := 9, slots := #[.int (-94)], vm := .none },
  { cls := 9, slots := #[.int (-93)], vm := .none },
  { cls := 9, slots := #[.int (-92)], vm := .none },
  { cls := 9, slots := #[.int (-91)], vm := .none },
  { cls := 9, slots := #[.int (-90)], vm := .none },
  { cls := 9, slots := #[.int (-89)], vm := .none },
  { cls := 9, slots := #[.int (-88)], vm := .none },
  { cls := 9, slots := #[.int (-87)], vm := .none },
  { cls := 9, slots := #[.int (-86)], vm := .none },
  { cls := 9, slots := #[.int (-85)], vm := .none },
  { cls := 9, slots := #[.int (-84)], vm := .none },
  { cls := 9, slots := #[.int (-83)], vm := .none },
  { cls := 9, slots := #[.int (-82)], vm := .none },
  { cls := 9, slots := #[.int (-81)], vm := .none },
  { cls := 9, slots := #[.int (-80)], vm := .none },
  { cls := 9, slots := #[.int (-79)], vm := .none },
  { cls := 9, slots := #[.int (-78)], vm := .none },
  { cls := 9, slots := #[.int (-77)], vm := .none },
  { cls := 9, slots := #[.int (-76)], vm := .none },
  { cls := 9, slots := #[.int (-75)], vm := .none },
  { cls := 9, slots := #[.int (-74)], vm := .none },
  { cls := 9, slots := #[.int (-73)], vm := .none },
  { cls := 9, slots := #[.int (-72)], vm := .none },
  { cls := 9, slots := #[.int (-71)], vm := .none },
  { cls := 9, slots := #[.int (-70)], vm := .none },
  { cls := 9, slots := #[.int (-69)], vm := .none },
  { cls := 9, slots := #[.int (-68)], vm := .none },
  { cls := 9, slots := #[.int (-67)], vm := .none },
  { cls := 9, slots := #[.int (-66)], vm := .none },
  { cls := 9, slots := #[.int (-65)], vm := .none },
  { cls := 9, slots := #[.int (-64)], vm := .none },
  { cls := 9, slots := #[.int (-63)], vm := .none },
  { cls := 9, slots := #[.int (-62)], vm := .none },
  { cls := 9, slots := #[.int (-61)], vm := .none },
  { cls := 9, slots := #[.int (-60)], vm := .none },
  { cls := 9, slots := #[.int (-59)], vm := .none },
  { cls := 9, slots := #[.int (-58)], vm := .none },
  { cls := 9, slots := #[.int (-57)], vm := .none },
  { cls := 9, slots := #[.int (-56)], vm := .none },
  { cls := 9, slots := #[.int (-55)], vm := .none },
  { cls := 9, slots := #[.int (-54)], vm := .none },
  { cls := 9, slots := #[.int (-53)], vm := .none },
  { cls := 9, slots := #[.int (-52)], vm := .none },
  { cls := 9, slots := #[.int (-51)], vm := .none },
  { cls := 9, slots := #[.int (-50)], vm := .none },
  { cls := 9, slots := #[.int (-49)], vm := .none },
  { cls := 9, slots := #[.int (-48)], vm := .none },
  { cls := 9, slots := #[.int (-47)], vm := .none },
  { cls := 9, slots := #[.int (-46)], vm := .none },
  { cls := 9, slots := #[.int (-45)], vm := .none },
  { cls := 9, slots := #[.int (-44)], vm := .none },
  { cls := 9, slots := #[.int (-43)], vm := .none },
  { cls := 9, slots := #[.int (-42)], vm := .none },
  { cls := 9, slots := #[.int (-41)], vm := .none },
  { cls := 9, slots := #[.int (-40)], vm := .none },
  { cls := 9, slots := #[.int (-39)], vm := .none },
  { cls := 9, slots := #[.int (-38)], vm := .none },
  { cls := 9, slots := #[.int (-37)], vm := .none },
  { cls := 9, slots := #[.int (-36)], vm := .none },
  { cls := 9, slots := #[.int (-35)], vm := .none },
  { cls := 9, slots := #[.int (-34)], vm := .none },
  { cls := 9, slots := #[.int (-33)], vm := .none },
  { cls := 9, slots := #[.int (-32)], vm := .none },
  { cls := 9, slots := #[.int (-31)], vm := .none },
  { cls := 9, slots := #[.int (-30)], vm := .none },
  { cls := 9, slots := #[.int (-29)], vm := .none },
  { cls := 9, slots := #[.int (-28)], vm := .none },
  { cls := 9, slots := #[.int (-27)], vm := .none },
  { cls := 9, slots := #[.int (-26)], vm := .none },
  { cls := 9, slots := #[.int (-25)], vm := .none },
  { cls := 9, slots := #[.int (-24)], vm := .none },
  { cls := 9, slots := #[.int (-23)], vm := .none },
  { cls := 9, slots := #[.int (-22)], vm := .none },
  { cls := 9, slots := #[.int (-21)], vm := .none },
  { cls := 9, slots := #[.int (-20)], vm := .none },
  { cls := 9, slots := #[.int (-19)], vm := .none },
  { cls := 9, slots := #[.int (-18)], vm := .none },
  { cls := 9, slots := #[.int (-17)], vm := .none },
  { cls := 9, slots := #[.int (-16)], vm := .none },
  { cls := 9, slots := #[.int (-15)], vm := .none },
  { cls := 9, slots := #[.int (-14)], vm := .none },
  { cls := 9, slots := #[.int (-13)], vm := .none },
  { cls := 9, slots := #[.int (-12)], vm := .none },
  { cls := 9, slots := #[.int (-11)], vm := .none },
  { cls := 9, slots := #[.int (-10)], vm := .none },
  { cls := 9, slots := #[.int (-9)], vm := .none },
  { cls := 9, slots := #[.int (-8)], vm := .none },
  { cls := 9, slots := #[.int (-7)], vm := .none },
  { cls := 9, slots := #[.int (-6)], vm := .none },
  { cls := 9, slots := #[.int (-5)], vm := .none },
  { cls := 9, slots := #[.int (-4)], vm := .none },
  { cls := 9, slots := #[.int (-3)], vm := .none },
  { cls := 9, slots := #[.int (-2)], vm := .none },
  { cls := 9, slots := #[.int (-1)], vm := .none },
  { cls := 9, slots := #[.int (0)], vm := .none },
  { cls := 9, slots := #[.int (1)], vm := .none },
  { cls := 9, slots := #[.int (2)], vm := .none },
  { cls := 9, slots := #[.int (3)], vm := .none },
  { cls := 9, slots := #[.int (4)], vm := .none },
  { cls := 9, slots := #[.int (5)], vm := .none },
  { cls := 9, slots := #[.int (6)], vm := .none },
  { cls := 9, slots := #[.int (7)], vm := .none },
  { cls := 9, slots := #[.int (8)], vm := .none },
  { cls := 9, slots := #[.int (9)], vm := .none },
  { cls := 9, slots := #[.int (10)], vm := .none },
  { cls := 9, slots := #[.int (11)], vm := .none },
  { cls := 9, slots := #[.int (12)], vm := .none },
  { cls := 9, slots := #[.int (13)], vm := .none },
  { cls := 9, slots := #[.int (14)], vm := .none },
  { cls := 9, slots := #[.int (15)], vm := .none },
  { cls := 9, slots := #[.int (16)], vm := .none },
  { cls := 9, slots := #[.int (17)], vm := .none },
  { cls := 9, slots := #[.int (18)], vm := .none },
  { cls := 9, slots := #[.int (19)], vm := .none },
  { cls := 9, slots := #[.int (20)], vm := .none },
  { cls := 9, slots := #[.int (21)], vm := .none },
  { cls := 9, slots := #[.int (22)], vm := .none },
  { cls := 9, slots := #[.int (23)], vm := .none },
  { cls := 9, slots := #[.int (24)], vm := .none },
  { cls := 9, slots := #[.int (25)], vm := .none },
  { cls := 9, slots := #[.int (26)], vm := .none },
  { cls := 9, slots := #[.int (27)], vm := .none },
  { cls := 9, slots := #[.int (28)], vm := .none },
  { cls := 9, slots := #[.int (29)], vm := .none },
  { cls := 9, slots := #[.int (30)], vm := .none },
  { cls := 9, slots := #[.int (31)], vm := .none },
  { cls := 9, slots := #[.int (32)], vm := .none },
  { cls := 9, slots := #[.int (33)], vm := .none },
  { cls := 9, slots := #[.int (34)], vm := .none },
  { cls := 9, slots := #[.int (35)], vm := .none },
  { cls := 9, slots := #[.int (36)], vm := .none },
  { cls := 9, slots := #[.int (37)], vm := .none },
  { cls := 9, slots := #[.int (38)], vm := .none },
  { cls := 9, slots := #[.int (39)], vm := .none },
  { cls := 9, slots := #[.int (40)], vm := .none },
  { cls := 9, slots := #[.int (41)], vm := .none },
  { cls := 9, slots := #[.int (42)], vm := .none },
  { cls := 9, slots := #[.int (43)], vm := .none },
  { cls := 9, slots := #[.int (44)], vm := .none },
  { cls := 9, slots := #[.int (45)], vm := .none },
  { cls := 9, slots := #[.int (46)], vm := .none },
  { cls := 9, slots := #[.int (47)], vm := .none },
  { cls := 9, slots := #[.int (48)], vm := .none },
  { cls := 9, slots := #[.int (49)], vm := .none },
  { cls := 9, slots := #[.int (50)], vm := .none },
  { cls := 9, slots := #[.int (51)], vm := .none },
  { cls := 9, slots := #[.int (52)], vm := .none },
  { cls := 9, slots := #[.int (53)], vm := .none },
  { cls := 9, slots := #[.int (54)], vm := .none },
  { cls := 9, slots := #[.int (55)], vm := .none },
  { cls := 9, slots := #[.int (56)], vm := .none },
  { cls := 9, slots := #[.int (57)], vm := .none },
  { cls := 9, slots := #[.int (58)], vm := .none },
  { cls := 9, slots := #[.int (59)], vm := .none },
  { cls := 9, slots := #[.int (60)], vm := .none },
  { cls := 9, slots := #[.int (61)], vm := .none },
  { cls := 9, slots := #[.int (62)], vm := .none },
  { cls := 9, slots := #[.int (63)], vm := .none },
  { cls := 9, slots := #[.int (64)], vm := .none },
  { cls := 9, slots := #[.int (65)], vm := .none },
  { cls := 9, slots := #[.int (66)], vm := .none },
  { cls := 9, slots := #[.int (67)], vm := .none },
  { cls := 9, slots := #[.int (68)], vm := .none },
  { cls := 9, slots := #[.int (69)], vm := .none },
  { cls := 9, slots := #[.int (70)], vm := .none },
  { cls := 9, slots := #[.int (71)], vm := .none },
  { cls := 9, slots := #[.int (72)], vm := .none },
  { cls := 9, slots := #[.int (73)], vm := .none },
  { cls := 9, slots := #[.int (74)], vm := .none },
  { cls := 9, slots := #[.int (75)], vm := .none },
  { cls := 9, slots := #[.int (76)], vm := .none },
  { cls := 9, slots := #[.int (77)], vm := .none },
  { cls := 9, slots := #[.int (78)], vm := .none },
  { cls := 9, slots := #[.int (79)], vm := .none },
  { cls := 9, slots := #[.int (80)], vm := .none },
  { cls := 9, slots := #[.int (81)], vm := .none },
  { cls := 9, slots := #[.int (82)], vm := .none },
  { cls := 9, slots := #[.int (83)], vm := .none },
  { cls := 9, slots := #[.int (84)], vm := .none },
  { cls := 9, slots := #[.int (85)], vm := .none },
  { cls := 9, slots := #[.int (86)], vm := .none },
  { cls := 9, slots := #[.int (87)], vm := .none },
  { cls := 9, slots := #[.int (88)], vm := .none },
  { cls := 9, slots := #[.int (89)], vm := .none },
  { cls := 9, slots := #[.int (90)], vm := .none },
  { cls := 9, slots := #[.int (91)], vm := .none },
  { cls := 9, slots := #[.int (92)], vm := .none },
  { cls := 9, slots := #[.int (93)], vm := .none },
  { cls := 9, slots := #[.int (94)], vm := .none },
  { cls := 9, slots := #[.int (95)], vm := .none },
  { cls := 9, slots := #[.int (96)], vm := .none },
  { cls := 9, slots := #[.int (97)], vm := .none },
  { cls := 9, slots := #[.int (98)], vm := .none },
  { cls := 9, slots := #[.int (99)], vm := .none },
  { cls := 9, slots := #[.int (100)], vm := .none },
  { cls := 9, slots := #[.int (101)], vm := .none },
  { cls := 9, slots := #[.int (102)], vm := .none },
  { cls := 9, slots := #[.int (103)], vm := .none },
  { cls := 9, slots := #[.int (104)], vm := .none },
  { cls := 9, slots := #[.int (105)], vm := .none },
  { cls := 9, slots := #[.int (106)], vm := .none },
  { cls := 9, slots := #[.int (107)], vm := .none },
  { cls := 9, slots := #[.int (108)], vm := .none },
  { cls := 9, slots := #[.int (109)], vm := .none },
  { cls := 9, slots := #[.int (110)], vm := .none },
  { cls := 9, slots := #[.int (111)], vm := .none },
  { cls := 9, slots := #[.int (112)], vm := .none },
  { cls := 9, slots := #[.int (113)], vm := .none },
  { cls := 9, slots := #[.int (114)], vm := .none },
  { cls := 9, slots := #[.int (115)], vm := .none },
  { cls := 9, slots := #[.int (116)], vm := .none },
  { cls := 9, slots := #[.int (117)], vm := .none },
  { cls := 9, slots := #[.int (118)], vm := .none },
  { cls := 9, slots := #[.int (119)], vm := .none },
  { cls := 9, slots := #[.int (120)], vm := .none },
  { cls := 9, slots := #[.int (121)], vm := .none },
  { cls := 9, slots := #[.int (122)], vm := .none },
  { cls := 9, slots := #[.int (123)], vm := .none },
  { cls := 9, slots := #[.int (124)], vm := .none },
  { cls := 9, slots := #[.int (125)], vm := .none },
  { cls := 9, slots := #[.int (126)], vm := .none },
  { cls := 9, slots := #[.int (127)], vm := .none }]
def classes : Array Class := #[k0, k1, k2, k3, k4, k5, k6, k7, k8, k9, k10, k11, k12, k13, k14, k15, k16]
def interned : List (Array UInt16 × Addr) := []
def slotsUsed : Nat := 517
def theMethod : MethodId := ⟨1, 1⟩
def args0 : Array Value := #[.int 3, .int 2, .int 5, .int 3, .int 2]
def aboutOver (below : List Frame) : State where
  vm := { classes := classes, interned := interned.toArray }
  heap := heap
  slotsUsed := slotsUsed
  threads := #[{ frames := .invoking theMethod args0 :: below }]
def below0 : List Frame := [.native { method := ⟨0, 0⟩, args := #[] }]
def about1 : State := aboutOver below0
def p0 : Program := .bare "" "" ""
def e0 : Env := launch0.env 0 0 0
theorem w_frames : about1.frames = Frame.invoking theMethod args0 :: below0 := rfl
set_option maxRecDepth 65536 in
theorem w_args : argsFit about1.vm theMethod args0 = true := by decide +kernel
set_option maxRecDepth 65536 in
theorem w_heap : heapFits about1 = true := by decide +kernel
set_option maxRecDepth 65536 in
theorem w_runnable : about1.curStatus? = some .runnable := by decide +kernel
set_option maxRecDepth 65536 in
theorem w_alone : about1.alone = true := by decide +kernel
set_option maxRecDepth 65536 in
theorem w_named : about1.methodNamed? x = some theMethod := by decide +kernel
set_option maxRecDepth 65536 in
theorem w_hears : about1.hears theMethod below0 = true := by decide +kernel
set_option maxRecDepth 65536 in
theorem w_ripe : about1.ripe theMethod args0 below0 = true := by decide +kernel
theorem w_running : about1.status = .running := rfl
set_option maxRecDepth 65536 in
theorem w_room : about1.hasRoom e0.platform room_1 = true :=
  launch0.hasRoom_least _ room_1 (by decide +kernel) (by decide +kernel) (by decide +kernel) (by decide +kernel) (by decide +kernel) (by decide +kernel)
theorem allAtoms_all (ts : List Jvm.Cond) (a : Array Jvm.Value) (st : Jvm.State) : (allAtoms ts).before a st = ts.all (fun c => c.before a st) := by
  induction ts with
  | nil => rfl
  | cons c t ih =>
    show (Jvm.Cond.and c (allAtoms t)).before a st = _
    rw [Jvm.Cond.before_and, ih, List.all_cons]
def words1 : List Jvm.Cond := Jvm.Cond.code x code maxLocals ret :: tables_1
/-- a 'code' word, met by the world's own term for the bytes: nothing is compared byte by byte -/
theorem code_word {y : MethodName} {bytes : ByteArray} {mx : Nat} {rt : Option FieldType} {a : Array Value} {s : State} {m : MethodId} {meth : Method} {c : Code} (h1 : s.methodNamed? y = some m) (h2 : s.vm.method? m = some meth) (h3 : meth.code = some c) (h4 : c.code = bytes)
    (h5 : (c.maxLocals == mx && c.exceptionTable.isEmpty && decide (c.maxStack ≤ mostOperands) && decide (meth.sig.returnType = rt) && !meth.locks && decide (parseMethodDescriptor y.desc = some meth.sig)) = true) : (Jvm.Cond.code y bytes mx rt).before a s = true := by
  simp only [Bool.and_eq_true, beq_iff_eq, Bool.not_eq_true', decide_eq_true_eq] at h5
  obtain ⟨⟨⟨⟨⟨g1, g2⟩, g3⟩, g4⟩, g5⟩, g6⟩ := h5
  simp [Cond.before, Cond.holds, Cond.value, h1, h2, h3, h4, g1, g2, g3, g4, g5, g6]
def isCode : Jvm.Cond → Bool
  | .code _ _ _ _ => true
  | _ => false
theorem all_split {L : List Jvm.Cond} {P : Jvm.Cond → Bool} (h1 : L.all (fun c => isCode c || P c) = true) (h2 : ∀ c ∈ L.filter isCode, P c = true) : L.all P = true := by
  refine List.all_eq_true.mpr fun c hc => ?_
  have h := List.all_eq_true.mp h1 c hc
  rcases Bool.eq_false_or_eq_true (isCode c) with hi | hi
  · exact h2 c (List.mem_filter.mpr ⟨hc, hi⟩)
  · simpa [hi] using h
set_option maxRecDepth 65536 in
theorem w_c0 : (Jvm.Cond.code x code maxLocals ret).before args0 about1 = true := code_word (m := ⟨1, 1⟩) (meth := k1m1) (c := k1c1) (by decide +kernel) rfl rfl rfl (by decide +kernel)
set_option maxRecDepth 65536 in
theorem w_c1 : (Jvm.Cond.code ({ cls := "murmuration/Contact", name := "<init>", desc := "(II)V" } : Jvm.MethodName) prog_7_method_1_code (3 : Nat) (Option.none : Option Jvm.ClassFile.FieldType)).before args0 about1 = true := code_word (m := ⟨4, 0⟩) (meth := k4m0) (c := k4c0) (by decide +kernel) rfl rfl rfl (by decide +kernel)
set_option maxRecDepth 65536 in
theorem w_c2 : (Jvm.Cond.code ({ cls := "java/lang/Record", name := "<init>", desc := "()V" } : Jvm.MethodName) jdk_30_method_1_code (1 : Nat) (Option.none : Option Jvm.ClassFile.FieldType)).before args0 about1 = true := code_word (m := ⟨2, 0⟩) (meth := k2m0) (c := k2c0) (by decide +kernel) rfl rfl rfl (by decide +kernel)
set_option maxRecDepth 65536 in
theorem w_c3 : (Jvm.Cond.code ({ cls := "java/lang/Object", name := "<init>", desc := "()V" } : Jvm.MethodName) object_method_1_code (1 : Nat) (Option.none : Option Jvm.ClassFile.FieldType)).before args0 about1 = true := code_word (m := ⟨0, 0⟩) (meth := k0m0) (c := k0c0) (by decide +kernel) rfl rfl rfl (by decide +kernel)
set_option maxRecDepth 65536 in
theorem w_c4 : (Jvm.Cond.code ({ cls := "murmuration/Contact", name := "equals", desc := "(Ljava/lang/Object;)Z" } : Jvm.MethodName) prog_7_method_9_code (3 : Nat) (Option.some Jvm.ClassFile.FieldType.boolean)).before args0 about1 = true := code_word (m := ⟨4, 1⟩) (meth := k4m1) (c := k4c1) (by decide +kernel) rfl rfl rfl (by decide +kernel)
set_option maxRecDepth 65536 in
theorem w_c5 : (Jvm.Cond.code ({ cls := "java/lang/Integer", name := "valueOf", desc := "(I)Ljava/lang/Integer;" } : Jvm.MethodName) jdk_33_method_22_code (1 : Nat) (Option.some (Jvm.ClassFile.FieldType.object "java/lang/Integer"))).before args0 about1 = true := code_word (m := ⟨9, 0⟩) (meth := k9m0) (c := k9c0) (by decide +kernel) rfl rfl rfl (by decide +kernel)
set_option maxRecDepth 65536 in
theorem w_c6 : (Jvm.Cond.code ({ cls := "java/lang/Integer", name := "<init>", desc := "(I)V" } : Jvm.MethodName) jdk_33_method_23_code (2 : Nat) (Option.none : Option Jvm.ClassFile.FieldType)).before args0 about1 = true := code_word (m := ⟨9, 1⟩) (meth := k9m1) (c := k9c1) (by decide +kernel) rfl rfl rfl (by decide +kernel)
set_option maxRecDepth 65536 in
theorem w_c7 : (Jvm.Cond.code ({ cls := "java/lang/Number", name := "<init>", desc := "()V" } : Jvm.MethodName) jdk_18_method_1_code (1 : Nat) (Option.none : Option Jvm.ClassFile.FieldType)).before args0 about1 = true := code_word (m := ⟨6, 0⟩) (meth := k6m0) (c := k6c0) (by decide +kernel) rfl rfl rfl (by decide +kernel)
def codes1 : List Jvm.Cond := [Jvm.Cond.code x code maxLocals ret, Jvm.Cond.code ({ cls := "murmuration/Contact", name := "<init>", desc := "(II)V" } : Jvm.MethodName) prog_7_method_1_code (3 : Nat) (Option.none : Option Jvm.ClassFile.FieldType), Jvm.Cond.code ({ cls := "java/lang/Record", name := "<init>", desc := "()V" } : Jvm.MethodName) jdk_30_method_1_code (1 : Nat) (Option.none : Option Jvm.ClassFile.FieldType), Jvm.Cond.code ({ cls := "java/lang/Object", name := "<init>", desc := "()V" } : Jvm.MethodName) object_method_1_code (1 : Nat) (Option.none : Option Jvm.ClassFile.FieldType), Jvm.Cond.code ({ cls := "murmuration/Contact", name := "equals", desc := "(Ljava/lang/Object;)Z" } : Jvm.MethodName) prog_7_method_9_code (3 : Nat) (Option.some Jvm.ClassFile.FieldType.boolean), Jvm.Cond.code ({ cls := "java/lang/Integer", name := "valueOf", desc := "(I)Ljava/lang/Integer;" } : Jvm.MethodName) jdk_33_method_22_code (1 : Nat) (Option.some (Jvm.ClassFile.FieldType.object "java/lang/Integer")), Jvm.Cond.code ({ cls := "java/lang/Integer", name := "<init>", desc := "(I)V" } : Jvm.MethodName) jdk_33_method_23_code (2 : Nat) (Option.none : Option Jvm.ClassFile.FieldType), Jvm.Cond.code ({ cls := "java/lang/Number", name := "<init>", desc := "()V" } : Jvm.MethodName) jdk_18_method_1_code (1 : Nat) (Option.none : Option Jvm.ClassFile.FieldType)]
set_option maxRecDepth 65536 in
theorem codes_eq : words1.filter isCode = codes1 := rfl
theorem w_codes : ∀ c ∈ words1.filter isCode, c.before args0 about1 = true := by
  rw [codes_eq]
  intro c hc
  simp only [codes1, List.mem_cons, List.not_mem_nil, or_false] at hc
  rcases hc with rfl | rfl | rfl | rfl | rfl | rfl | rfl | rfl
  · exact w_c0
  · exact w_c1
  · exact w_c2
  · exact w_c3
  · exact w_c4
  · exact w_c5
  · exact w_c6
  · exact w_c7
set_option maxRecDepth 65536 in
theorem w_t1 : (words1.take 24).all (fun c => isCode c || c.before args0 about1) = true := by decide +kernel
set_option maxRecDepth 65536 in
theorem w_t2 : ((words1.drop 24).take 24).all (fun c => isCode c || c.before args0 about1) = true := by decide +kernel
set_option maxRecDepth 65536 in
theorem w_t3 : ((words1.drop 24).drop 24).all (fun c => isCode c || c.before args0 about1) = true := by decide +kernel
theorem w_tables : (allAtoms (Jvm.Cond.code x code maxLocals ret :: tables_1)).before args0 about1 = true := by
  rw [allAtoms_all]
  show words1.all (fun c => c.before args0 about1) = true
  refine all_split ?_ w_codes
  rw [← List.take_append_drop 24 words1, List.all_append, w_t1, ← List.take_append_drop 24 (words1.drop 24), List.all_append, w_t2, w_t3]
  rfl
set_option maxRecDepth 65536 in
theorem w_rest : rest_1_c.before args0 about1 = true := by decide +kernel
set_option maxRecDepth 65536 in
theorem w_case : (Jvm.Cond.and given_1 narrow_1).before args0 about1 = true := by decide +kernel
theorem w_applies : (headSpec (Jvm.Cond.code x code maxLocals ret :: tables_1) room_1).applies x e0.platform about1 = true :=
  (Spec.applies_iff w_frames).mpr ⟨w_running, w_runnable, w_alone, w_named, w_hears, w_ripe, w_room, w_tables⟩
theorem atStart : AtStart classFile x code maxLocals ret World_1 tables_1 room_1 Calls_1 rest_1 Pre_1 launch0 p0 e0 about1 theMethod args0 below0 :=
  ⟨lists_1, trivial, launch0.admits_env _ _ _, launch0.least_env, fairChoices_fair.cas, fairChoices_fair.clock, w_frames, w_args, w_heap, w_applies, trivial, w_rest, w_case⟩
end start1
theorem witness_1 : WitnessClaimed_1 := ⟨start1.p0, start1.e0, start1.about1, start1.theMethod, start1.args0, start1.below0, start1.atStart⟩
end Jvm.Pilot.@@N@@
