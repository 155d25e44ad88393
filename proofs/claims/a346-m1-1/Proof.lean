import JvmDerived
import JvmDerived.Pilot.@@N@@Statement
import JvmDerived.Pilot.@@N@@Code
set_option linter.unusedVariables false
set_option linter.unusedSimpArgs false
namespace Jvm.Pilot.@@N@@
open Jvm Jvm.ClassFile Sem Op Lib Jvm.Free Jvm.Stand Jvm.LawKit Jvm.RoadKit Bundle Jvm.Pilot.@@N@@.Jvm.D
section Own
variable {p : Program} {l : Launch} {e : Env} {R : Room} {s : State} {m : MethodId} {args : Array Value} {below : List Frame} {meth : Method} {c : Code} {T : State} {locs : List Loc} {cells slots : Nat} {Z : State} {h h' : Heap}
def Run (p : Program) (e : Env) (below : List Frame) (s : State) (C N : Nat) (Q : Option Value → Heap → List Loc → Prop) (S : State) : Prop :=
  ∃ s₂ o, Steps p.tables e below S s₂ ∧ s₂.status = .running ∧ Ended s₂ below o ∧ ∃ v L, o = .returned v ∧ Q v s₂.heap L ∧ FrameEnd s o s₂ L C N
variable {C N : Nat} {Q : Option Value → Heap → List Loc → Prop} {S S' : State}
theorem Run.go (k : ∀ t, Steps p.tables e below S' t → Steps p.tables e below S t) (r : Run p e below s C N Q S') : Run p e below s C N Q S := by
  obtain ⟨s₂, o, h1, r⟩ := r
  exact ⟨s₂, o, k _ h1, r⟩
theorem Run.tr (k : Steps p.tables e below S S') (r : Run p e below s C N Q S') : Run p e below s C N Q S := by
  obtain ⟨s₂, o, h1, r⟩ := r
  exact ⟨s₂, o, k.trans h1, r⟩
theorem Run.retI (X : Stand p l e R s m args below meth c T locs cells slots) (hx : p.tables.exec = Jvm.exec) {pc : Nat} {Ls : Array Slot} {z : Int32} {rest : List Value} (hret : meth.sig.returnType = some .int) (hlk : meth.locks = false) (hd : decode c.code pc = .ok (.ireturn, 1)) (hc : cells ≤ C) (hn : slots ≤ N)
    (hQ : Q (some (.int z)) T.heap locs) : Run p e below s C N Q (T.setTop (mkF m pc Ls (.int z :: rest))) := by
  obtain ⟨fs, hr, hrun, hended, hW, hsame⟩ := X.leave (v := some (.int z)) (fun q => by rw [hret] at q; cases q)
  refine ⟨_, _, ?_, hrun, hended, _, _, rfl, hQ, ⟨_, rfl⟩, hW, hsame.mono hc hn⟩
  have hm' : T.vm.method? m = some meth := X.method'
  have hn : narrow .int (.int z) = .int z := rfl
  show Steps p.tables e below (T.setTop { method := m, pc := pc, locals := Ls, stack := _ :: rest, locked := none }) _
  jvm_step X.here [X.here.top, hx, hd, hm', hret, hn]
  first | (intro acts; rw [hr _ acts rfl rfl rfl]) | rw [hr _ _ rfl rfl rfl]
  exact Steps.refl _
theorem Run.retN (X : Stand p l e R s m args below meth c T locs cells slots) (hx : p.tables.exec = Jvm.exec) {pc : Nat} {Ls : Array Slot} {z y : Int32} {t : FieldType} {rest : List Value} (hret : meth.sig.returnType = some t) (ht : t = .boolean ∨ t = .byte ∨ t = .char ∨ t = .short) (hy : nar t z = y) (hlk : meth.locks = false) (hd : decode c.code pc = .ok (.ireturn, 1)) (hc : cells ≤ C) (hn : slots ≤ N)
    (hQ : Q (some (.int y)) T.heap locs) : Run p e below s C N Q (T.setTop (mkF m pc Ls (.int z :: rest))) := by
  subst hy
  obtain ⟨fs, hr, hrun, hended, hW, hsame⟩ := X.leave (v := some (.int (nar t z))) (fun q => by rw [hret] at q; cases q)
  exact ⟨_, _, Jvm.RoadKit.retN X hx hret ht hd hr, hrun, hended, _, _, rfl, hQ, ⟨_, rfl⟩, hW, hsame.mono hc hn⟩
theorem Run.retJ (X : Stand p l e R s m args below meth c T locs cells slots) (hx : p.tables.exec = Jvm.exec) {pc : Nat} {Ls : Array Slot} {z : Int64} {rest : List Value} (hret : meth.sig.returnType = some .long) (hlk : meth.locks = false) (hd : decode c.code pc = .ok (.lreturn, 1)) (hc : cells ≤ C) (hn : slots ≤ N)
    (hQ : Q (some (.long z)) T.heap locs) : Run p e below s C N Q (T.setTop (mkF m pc Ls (.long z :: rest))) := by
  obtain ⟨fs, hr, hrun, hended, hW, hsame⟩ := X.leave (v := some (.long z)) (fun q => by rw [hret] at q; cases q)
  refine ⟨_, _, ?_, hrun, hended, _, _, rfl, hQ, ⟨_, rfl⟩, hW, hsame.mono hc hn⟩
  have hm' : T.vm.method? m = some meth := X.method'
  show Steps p.tables e below (T.setTop { method := m, pc := pc, locals := Ls, stack := _ :: rest, locked := none }) _
  jvm_step X.here [X.here.top, hx, hd, hm', hret, narrow]
  first | (intro acts; rw [hr _ acts rfl rfl rfl]) | rw [hr _ _ rfl rfl rfl]
  exact Steps.refl _
theorem Run.retA (X : Stand p l e R s m args below meth c T locs cells slots) (hx : p.tables.exec = Jvm.exec) {pc : Nat} {Ls : Array Slot} {w : Value} {t : FieldType} {rest : List Value} (hw : w.isRef = true) (hret : meth.sig.returnType = some t) (ht : t.isReference = true) (hlk : meth.locks = false) (hd : decode c.code pc = .ok (.areturn, 1)) (hc : cells ≤ C) (hn : slots ≤ N)
    (hQ : Q (some w) T.heap locs) : Run p e below s C N Q (T.setTop (mkF m pc Ls (w :: rest))) := by
  obtain ⟨fs, hr, hrun, hended, hW, hsame⟩ := X.leave (v := some w) (fun q => by rw [hret] at q; cases q)
  refine ⟨_, _, ?_, hrun, hended, _, _, rfl, hQ, ⟨_, rfl⟩, hW, hsame.mono hc hn⟩
  have hm' : T.vm.method? m = some meth := X.method'
  show Steps p.tables e below (T.setTop { method := m, pc := pc, locals := Ls, stack := _ :: rest, locked := none }) _
  rcases ref_cases hw with rfl | ⟨a, rfl⟩
  all_goals
    jvm_step X.here [X.here.top, hx, hd, hm', hret, Value.isRef, ht]
    first | (intro acts; rw [hr _ acts rfl rfl rfl]) | rw [hr _ _ rfl rfl rfl]
    exact Steps.refl _
theorem Run.ret0 (X : Stand p l e R s m args below meth c T locs cells slots) (hx : p.tables.exec = Jvm.exec) {pc : Nat} {Ls : Array Slot} (hret : meth.sig.returnType = none) (hlk : meth.locks = false) (hd : decode c.code pc = .ok (.return_, 1)) (hc : cells ≤ C) (hn : slots ≤ N)
    (hQ : Q none T.heap locs) : Run p e below s C N Q (T.setTop (mkF m pc Ls [])) := by
  obtain ⟨fs, hr, hrun, hended, hW, hsame⟩ := X.leave (v := none) (fun _ => rfl)
  exact ⟨_, _, X.returnOut hx hret hd hr, hrun, hended, _, _, rfl, hQ, ⟨_, rfl⟩, hW, hsame.mono hc hn⟩
theorem Stand_gen {k : Nat} (X : Stand p l e R s m args below meth c T locs cells slots) (F : Fr k locs) : ∃ L, Stand p l e R s m args below meth c T L cells slots ∧ Fr k L := ⟨_, X, F⟩
theorem Sta.keep {C n d : String} {w : Value} {ws : List Addr} (F : Sta Z h C n d w) (K : Keep h h' ws) (q : ∀ x ∈ ws, ∀ c : Cell, h[x]? = some c → c.vm.isStatics = false) : Sta Z h' C n d w := by
  obtain ⟨cf, i, k, f, st, cell, h1, h2, h3, h4, h5, h6, h7⟩ := F
  refine ⟨cf, i, k, f, st, cell, h1, h2, h3, h4, K.2.1 st cell h5 (fun hm => ?_), h6, h7⟩
  rw [q st hm cell h5] at h6; cases h6
theorem Exa.nst {a : Addr} {C : String} (F : Exa Z h a C) : ∀ c : Cell, h[a]? = some c → c.vm.isStatics = false := fun c q => by
  obtain ⟨cell, k, h1, -, -, h4, -⟩ := F
  cases h1.symm.trans q; exact h4
/-- an array of n elements, the i-th is f i -/
def Ary (Z : State) (h : Heap) (a : Addr) (ty : FieldType) (n : Nat) (f : Nat → Value) : Prop := ∃ c : Cell, Arr Z h a c ty ∧ c.slots.size = n ∧ ∀ i, i < n → c.slots[i]? = some (f i)
variable {a b : Addr} {ty : FieldType} {n sl : Nat} {f : Nat → Value} {v : Value} {ws : List Addr}
theorem Ary.lt (F : Ary Z h a ty n f) : a < h.size := by obtain ⟨c, A, -⟩ := F; exact A.lt
theorem Ary.ext (F : Ary Z h a ty n f) (E : Ext h h') : Ary Z h' a ty n f := by obtain ⟨c, A, r⟩ := F; exact ⟨c, A.ext E, r⟩
theorem Ary.other (F : Ary Z h b ty n f) (W : Wr h h' a sl v) (q : b ≠ a) : Ary Z h' b ty n f := by obtain ⟨c, A, r⟩ := F; exact ⟨c, A.other W q, r⟩
theorem Ary.keep (F : Ary Z h a ty n f) (K : Keep h h' ws) (q : a ∉ ws) : Ary Z h' a ty n f := by obtain ⟨c, A, r⟩ := F; exact ⟨c, ⟨K.2.1 a c A.1 q, A.2⟩, r⟩
theorem Ary.ne {C : String} {a0 : Array Value} {k : Nat} (F : Ary Z h a ty n f) (G : Exa Z h b C) (wi : (Jvm.Cond.instantiable C k).before a0 Z = true) : a ≠ b := by
  obtain ⟨c, A, r⟩ := F; exact (ne_arr G wi A).symm
theorem Ary.same (F : Ary Z h a ty n f) (W : Wr h h' a sl v) : Ary Z h' a ty n (fun i => if i = sl then v else f i) := by
  obtain ⟨c, A, hs, hf⟩ := F
  obtain ⟨c1, q1, q2, q3, q4⟩ := W
  obtain rfl := Option.some.inj (q1.symm.trans A.1)
  refine ⟨c1.setSlot sl v, A.same ⟨c1, q1, q2, q3, q4⟩, by simp [Cell.setSlot, hs], fun i hi => ?_⟩
  by_cases e : i = sl
  · subst e; simp [Cell.setSlot, q3]
  · simp only [if_neg e]; rw [← hf i hi]; exact Array.getElem?_setIfInBounds_ne (Ne.symm e)
theorem Ary.nst (F : Ary Z h a ty n f) : ∀ c : Cell, h[a]? = some c → c.vm.isStatics = false := fun c q => by
  obtain ⟨cl, A, -⟩ := F
  cases A.1.symm.trans q; exact A.plain
theorem Ary.congr {g : Nat → Value} (F : Ary Z h a ty n f) (q : ∀ i, i < n → f i = g i) : Ary Z h a ty n g := by
  obtain ⟨c, A, hs, hf⟩ := F; exact ⟨c, A, hs, fun i hi => by rw [hf i hi, q i hi]⟩
theorem Ary.new {k : ClassId} {z : Int32} (A : Arr Z h a (newA k ty z) ty) (q : z.toNatClampNeg = n) : Ary Z h a ty n (fun _ => defaultValue ty) := by
  subst q
  exact ⟨_, A, sz_new _ _ _, fun i hi => by simp [newA, hi]⟩
theorem out_of {j : Int32} {c : Cell} (hs : c.slots.size = n) (h0 : ¬ j < 0) (hj : j.toNatClampNeg < n) : ¬ (j < 0 ∨ c.slots.size ≤ j.toNatClampNeg) := by
  rw [hs]; exact fun q => q.elim h0 (fun q => absurd hj (Nat.not_lt.mpr q))
/-- an array of references: besides, its class is that of arrays over C -/
def ArR (Z : State) (h : Heap) (a : Addr) (C : String) (n : Nat) (f : Nat → Value) : Prop := ∃ c : Cell, Arr Z h a c (.object C) ∧ Ovr Z c.cls C ∧ c.slots.size = n ∧ ∀ i, i < n → c.slots[i]? = some (f i)
variable {K : String}
theorem ArR.lt (F : ArR Z h a K n f) : a < h.size := by obtain ⟨c, A, -⟩ := F; exact A.lt
theorem ArR.ext (F : ArR Z h a K n f) (E : Ext h h') : ArR Z h' a K n f := by obtain ⟨c, A, r⟩ := F; exact ⟨c, A.ext E, r⟩
theorem ArR.other (F : ArR Z h b K n f) (W : Wr h h' a sl v) (q : b ≠ a) : ArR Z h' b K n f := by obtain ⟨c, A, r⟩ := F; exact ⟨c, A.other W q, r⟩
theorem ArR.keep (F : ArR Z h a K n f) (k : Keep h h' ws) (q : a ∉ ws) : ArR Z h' a K n f := by obtain ⟨c, A, r⟩ := F; exact ⟨c, ⟨k.2.1 a c A.1 q, A.2⟩, r⟩
theorem ArR.ary (F : ArR Z h a K n f) : Ary Z h a (.object K) n f := by obtain ⟨c, A, -, r⟩ := F; exact ⟨c, A, r⟩
theorem ArR.same (F : ArR Z h a K n f) (W : Wr h h' a sl v) : ArR Z h' a K n (fun i => if i = sl then v else f i) := by
  obtain ⟨c, A, o, hs, hf⟩ := F
  obtain ⟨c1, q1, q2, q3, q4⟩ := W
  obtain rfl := Option.some.inj (q1.symm.trans A.1)
  refine ⟨c1.setSlot sl v, A.same ⟨c1, q1, q2, q3, q4⟩, o, by simp [Cell.setSlot, hs], fun i hi => ?_⟩
  by_cases e : i = sl
  · subst e; simp [Cell.setSlot, q3]
  · simp only [if_neg e]; rw [← hf i hi]; exact Array.getElem?_setIfInBounds_ne (Ne.symm e)
theorem ArR.new {k : ClassId} {z : Int32} (A : Arr Z h a (newA k (.object K) z) (.object K)) (O : Ovr Z k K) (q : z.toNatClampNeg = n) : ArR Z h a K n (fun _ => .null) := by
  subst q
  exact ⟨_, A, O, sz_new _ _ _, fun i hi => by simp [newA, hi]; rfl⟩
section Arrays
theorem ary_iget (X : Stand p l e R s m args below meth c T locs cells slots) (hx : p.tables.exec = Jvm.exec) (hZ : Z.Warmed39 s.vm) (eT : T.heap = h) (A : Ary Z h a .int n f) {j : Int32} (h0 : ¬ j < 0) (hj : j.toNatClampNeg < n) {g : JFrame} (hg : g.method = m) {rest : List Value} (hs : g.stack = .int j :: .ref a :: rest) (hd : decode c.code g.pc = .ok (.iaload, 1)) {v : Value} (hv : f j.toNatClampNeg = v) (target : State)
    (k : Steps p.tables e below (T.setTop { g with pc := g.pc + 1, stack := v :: rest }) target) : Steps p.tables e below (T.setTop g) target := by
  subst hv; obtain ⟨cl, A, q, F⟩ := A
  exact X.iaload hx (by rw [eT]; exact A.1) (State.isArrayOf_alike hZ.alike A.2.1) A.2.2 (out_of q h0 hj) (F _ hj) hg hs hd target k
theorem ary_lget (X : Stand p l e R s m args below meth c T locs cells slots) (hx : p.tables.exec = Jvm.exec) (hZ : Z.Warmed39 s.vm) (eT : T.heap = h) (A : Ary Z h a .long n f) {j : Int32} (h0 : ¬ j < 0) (hj : j.toNatClampNeg < n) {g : JFrame} (hg : g.method = m) {rest : List Value} (hs : g.stack = .int j :: .ref a :: rest) (hd : decode c.code g.pc = .ok (.laload, 1)) {v : Value} (hv : f j.toNatClampNeg = v) (target : State)
    (k : Steps p.tables e below (T.setTop { g with pc := g.pc + 1, stack := v :: rest }) target) : Steps p.tables e below (T.setTop g) target := by
  subst hv; obtain ⟨cl, A, q, F⟩ := A
  exact X.laload hx (by rw [eT]; exact A.1) (State.isArrayOf_alike hZ.alike A.2.1) A.2.2 (out_of q h0 hj) (F _ hj) hg hs hd target k
theorem ary_bget (X : Stand p l e R s m args below meth c T locs cells slots) (hx : p.tables.exec = Jvm.exec) (hZ : Z.Warmed39 s.vm) (eT : T.heap = h) (A : Ary Z h a .byte n f) {j : Int32} (h0 : ¬ j < 0) (hj : j.toNatClampNeg < n) {g : JFrame} (hg : g.method = m) {rest : List Value} (hs : g.stack = .int j :: .ref a :: rest) (hd : decode c.code g.pc = .ok (.baload, 1)) {v : Value} (hv : f j.toNatClampNeg = v) (target : State)
    (k : Steps p.tables e below (T.setTop { g with pc := g.pc + 1, stack := v :: rest }) target) : Steps p.tables e below (T.setTop g) target := by
  subst hv; obtain ⟨cl, A, q, F⟩ := A
  exact X.baloadBytes hx (by rw [eT]; exact A.1) (State.isArrayOf_alike hZ.alike A.2.1) A.2.2 (out_of q h0 hj) (F _ hj) hg hs hd target k
theorem ary_cget (X : Stand p l e R s m args below meth c T locs cells slots) (hx : p.tables.exec = Jvm.exec) (hZ : Z.Warmed39 s.vm) (eT : T.heap = h) (A : Ary Z h a .char n f) {j : Int32} (h0 : ¬ j < 0) (hj : j.toNatClampNeg < n) {g : JFrame} (hg : g.method = m) {rest : List Value} (hs : g.stack = .int j :: .ref a :: rest) (hd : decode c.code g.pc = .ok (.caload, 1)) {v : Value} (hv : f j.toNatClampNeg = v) (target : State)
    (k : Steps p.tables e below (T.setTop { g with pc := g.pc + 1, stack := v :: rest }) target) : Steps p.tables e below (T.setTop g) target := by
  subst hv; obtain ⟨cl, A, q, F⟩ := A
  exact X.caload hx (by rw [eT]; exact A.1) (State.isArrayOf_alike hZ.alike A.2.1) A.2.2 (out_of q h0 hj) (F _ hj) hg hs hd target k
theorem ary_aget (X : Stand p l e R s m args below meth c T locs cells slots) (hx : p.tables.exec = Jvm.exec) (hZ : Z.Warmed39 s.vm) (eT : T.heap = h) (A : Ary Z h a ty n f) (hr : ty.isReference = true) {j : Int32} (h0 : ¬ j < 0) (hj : j.toNatClampNeg < n) {g : JFrame} (hg : g.method = m) {rest : List Value} (hs : g.stack = .int j :: .ref a :: rest) (hd : decode c.code g.pc = .ok (.aaload, 1)) {v : Value} (hv : f j.toNatClampNeg = v) (target : State)
    (k : Steps p.tables e below (T.setTop { g with pc := g.pc + 1, stack := v :: rest }) target) : Steps p.tables e below (T.setTop g) target := by
  subst hv; obtain ⟨cl, A, q, F⟩ := A
  exact X.aaload hx (by rw [eT]; exact A.1) (State.isArrayOf_alike hZ.alike A.2.1) hr A.2.2 (out_of q h0 hj) (F _ hj) hg hs hd target k
theorem ary_len (X : Stand p l e R s m args below meth c T locs cells slots) (hx : p.tables.exec = Jvm.exec) (hZ : Z.Warmed39 s.vm) (eT : T.heap = h) (A : Ary Z h a ty n f) {g : JFrame} (hg : g.method = m) {rest : List Value} (hs : g.stack = .ref a :: rest) (hd : decode c.code g.pc = .ok (.arraylength, 1)) {z : Int32} (hv : n.toInt32 = z) (target : State)
    (k : Steps p.tables e below (T.setTop { g with pc := g.pc + 1, stack := .int z :: rest }) target) : Steps p.tables e below (T.setTop g) target := by
  subst hv; obtain ⟨cl, A, q, F⟩ := A
  subst q
  exact X.arraylength hx (by rw [eT]; exact A.1) (State.isArrayOf_alike hZ.alike A.2.1) hg hs hd target k
theorem ary_iset (X : Stand p l e R s m args below meth c T locs cells slots) (hx : p.tables.exec = Jvm.exec) (hZ : Z.Warmed39 s.vm) (eT : T.heap = h) (A : Ary Z h a .int n f) {j x : Int32} (h0 : ¬ j < 0) (hj : j.toNatClampNeg < n) {g : JFrame} (hg : g.method = m) {rest : List Value} (hs : g.stack = .int x :: .int j :: .ref a :: rest) (hd : decode c.code g.pc = .ok (.iastore, 1)) :
    ∃ T' h', Stand p l e R s m args below meth c T' (locs ++ [⟨a, j.toNatClampNeg⟩]) cells slots ∧ T'.heap = h' ∧ Wr h h' a j.toNatClampNeg (.int x) ∧ ∀ target, Steps p.tables e below (T'.setTop { g with pc := g.pc + 1, stack := rest }) target → Steps p.tables e below (T.setTop g) target := by
  obtain ⟨cl, A, q, F⟩ := A
  exact stI X hx hZ eT A (out_of q h0 hj) hg hs hd
theorem ary_lset (X : Stand p l e R s m args below meth c T locs cells slots) (hx : p.tables.exec = Jvm.exec) (hZ : Z.Warmed39 s.vm) (eT : T.heap = h) (A : Ary Z h a .long n f) {j : Int32} {x : Int64} (h0 : ¬ j < 0) (hj : j.toNatClampNeg < n) {g : JFrame} (hg : g.method = m) {rest : List Value} (hs : g.stack = .long x :: .int j :: .ref a :: rest) (hd : decode c.code g.pc = .ok (.lastore, 1)) :
    ∃ T' h', Stand p l e R s m args below meth c T' (locs ++ [⟨a, j.toNatClampNeg⟩]) cells slots ∧ T'.heap = h' ∧ Wr h h' a j.toNatClampNeg (.long x) ∧ ∀ target, Steps p.tables e below (T'.setTop { g with pc := g.pc + 1, stack := rest }) target → Steps p.tables e below (T.setTop g) target := by
  obtain ⟨cl, A, q, F⟩ := A
  exact stJ X hx hZ eT A (out_of q h0 hj) hg hs hd
theorem ary_bset (X : Stand p l e R s m args below meth c T locs cells slots) (hx : p.tables.exec = Jvm.exec) (hZ : Z.Warmed39 s.vm) (eT : T.heap = h) (A : Ary Z h a .byte n f) {j x y : Int32} (h0 : ¬ j < 0) (hj : j.toNatClampNeg < n) {g : JFrame} (hg : g.method = m) {rest : List Value} (hs : g.stack = .int x :: .int j :: .ref a :: rest) (hd : decode c.code g.pc = .ok (.bastore, 1)) (hy : x.toInt8.toInt32 = y) :
    ∃ T' h', Stand p l e R s m args below meth c T' (locs ++ [⟨a, j.toNatClampNeg⟩]) cells slots ∧ T'.heap = h' ∧ Wr h h' a j.toNatClampNeg (.int y) ∧ ∀ target, Steps p.tables e below (T'.setTop { g with pc := g.pc + 1, stack := rest }) target → Steps p.tables e below (T.setTop g) target := by
  subst hy; obtain ⟨cl, A, q, F⟩ := A
  exact stB X hx hZ eT A (out_of q h0 hj) hg hs hd
theorem ary_cset (X : Stand p l e R s m args below meth c T locs cells slots) (hx : p.tables.exec = Jvm.exec) (hZ : Z.Warmed39 s.vm) (eT : T.heap = h) (A : Ary Z h a .char n f) {j x y : Int32} (h0 : ¬ j < 0) (hj : j.toNatClampNeg < n) {g : JFrame} (hg : g.method = m) {rest : List Value} (hs : g.stack = .int x :: .int j :: .ref a :: rest) (hd : decode c.code g.pc = .ok (.castore, 1)) (hy : nar .char x = y) :
    ∃ T' h', Stand p l e R s m args below meth c T' (locs ++ [⟨a, j.toNatClampNeg⟩]) cells slots ∧ T'.heap = h' ∧ Wr h h' a j.toNatClampNeg (.int y) ∧ ∀ target, Steps p.tables e below (T'.setTop { g with pc := g.pc + 1, stack := rest }) target → Steps p.tables e below (T.setTop g) target := by
  subst hy; obtain ⟨cl, A, q, F⟩ := A
  exact stC X hx hZ eT A (out_of q h0 hj) hg hs hd
theorem arr_set (X : Stand p l e R s m args below meth c T locs cells slots) (hx : p.tables.exec = Jvm.exec) (hZ : Z.Warmed39 s.vm) (eT : T.heap = h) (A : ArR Z h a K n f) {j : Int32} {y : Addr} (I : Ins Z h y K true) (h0 : ¬ j < 0) (hj : j.toNatClampNeg < n) {g : JFrame} (hg : g.method = m) {rest : List Value} (hs : g.stack = .ref y :: .int j :: .ref a :: rest) (hd : decode c.code g.pc = .ok (.aastore, 1)) :
    ∃ T' h', Stand p l e R s m args below meth c T' (locs ++ [⟨a, j.toNatClampNeg⟩]) cells slots ∧ T'.heap = h' ∧ Wr h h' a j.toNatClampNeg (.ref y) ∧ ∀ target, Steps p.tables e below (T'.setTop { g with pc := g.pc + 1, stack := rest }) target → Steps p.tables e below (T.setTop g) target := by
  obtain ⟨cl, A, O, q, F⟩ := A
  exact stR X hx hZ eT A (out_of q h0 hj) rfl (Sto.of A O I) hg hs hd
end Arrays
theorem nar_ite (P : Prop) [Decidable P] : nar .boolean (if P then (1 : Int32) else 0) = if P then 1 else 0 := by by_cases q : P <;> simp [q] <;> rfl
theorem b_idem (x : Int32) : x.toInt8.toInt32.toInt8.toInt32 = x.toInt8.toInt32 := by rw [Int8.toInt8_toInt32]
theorem isI_c (x : Int32) : ∀ n : Nat, ∃ y, (fun _ => Value.int x) n = Value.int y := fun _ => ⟨x, rfl⟩
theorem isI_s {f : Nat → Value} (q : ∀ n, ∃ y, f n = Value.int y) (k : Nat) (x : Int32) : ∀ n, ∃ y, (fun i => if i = k then Value.int x else f i) n = Value.int y := fun n => by
  by_cases e : n = k
  · exact ⟨x, if_pos e⟩
  · obtain ⟨y, hy⟩ := q n
    exact ⟨y, (if_neg e).trans hy⟩
end Own
theorem d1_0 : decode prog_6_method_4_code 0 = .ok (.iload_n 0, 1) := by decide +kernel
theorem d1_1 : decode prog_6_method_4_code 1 = .ok (.ifCond .eq 14, 3) := by decide +kernel
theorem d1_15 : decode prog_6_method_4_code 15 = .ok (.iload_n 0, 1) := by decide +kernel
theorem d1_16 : decode prog_6_method_4_code 16 = .ok (.ifCond .eq 10, 3) := by decide +kernel
theorem d1_26 : decode prog_6_method_4_code 26 = .ok (.iload_n 1, 1) := by decide +kernel
theorem d1_27 : decode prog_6_method_4_code 27 = .ok (.ifCond .eq 10, 3) := by decide +kernel
theorem d1_37 : decode prog_6_method_4_code 37 = .ok (.getstatic 10, 3) := by decide +kernel
theorem d1_40 : decode prog_6_method_4_code 40 = .ok (.astore_n 2, 1) := by decide +kernel
theorem d1_41 : decode prog_6_method_4_code 41 = .ok (.aload_n 2, 1) := by decide +kernel
theorem d1_42 : decode prog_6_method_4_code 42 = .ok (.areturn, 1) := by decide +kernel
def Q_rm1_00 (Z : State) (vFALSE : Addr) (vUNDEFINED : Addr) (vINCONSISTENT : Addr) (vTRUE : Addr) (h0 : Heap) (n0 : Nat) (v : Option Value) (h : Heap) (L : List Loc) : Prop := v = some (.ref vFALSE) ∧ Fr n0 L ∧ h = h0
theorem ef_rm1_00 (m : MethodId)  : entryFrame m #[(.int (0 : Int32)), (.int (0 : Int32))] 3 = mkF m 0 #[.val (.int (0 : Int32)), .val (.int (0 : Int32)), .unset] [] := by first | (simp [entryFrame, mkF, argsToLocals, Value.category]; done) | rfl
theorem pn_0 : plainName "com/example/nestor/nestor/TruthValue" = true := by first | (simp [plainName, overriddenIn]; done) | decide +kernel
set_option maxRecDepth 65536 in
set_option maxHeartbeats 40000000 in
theorem rm1_00 (l : Launch) (Z : State) (a0 : Array Value) (hw : ∀ d ∈ tables_1, d.before a0 Z = true) (ws : List Jvm.Cond) (vFALSE : Addr) (vUNDEFINED : Addr) (vINCONSISTENT : Addr) (vTRUE : Addr) (h0 : Heap) (n0 : Nat) (Z0 : n0 ≤ h0.size) (S_TruthValue_FALSE : Sta Z h0 "com/example/nestor/nestor/TruthValue" "FALSE" "Lcom/example/nestor/nestor/TruthValue;" (.ref vFALSE)) (S_TruthValue_UNDEFINED : Sta Z h0 "com/example/nestor/nestor/TruthValue" "UNDEFINED" "Lcom/example/nestor/nestor/TruthValue;" (.ref vUNDEFINED)) (S_TruthValue_INCONSISTENT : Sta Z h0 "com/example/nestor/nestor/TruthValue" "INCONSISTENT" "Lcom/example/nestor/nestor/TruthValue;" (.ref vINCONSISTENT)) (S_TruthValue_TRUE : Sta Z h0 "com/example/nestor/nestor/TruthValue" "TRUE" "Lcom/example/nestor/nestor/TruthValue;" (.ref vTRUE)) :
    MetFree l (⟨"com/example/nestor/nestor/TruthValue", "of", "(ZZ)Lcom/example/nestor/nestor/TruthValue;"⟩ : MethodName) (head1 (Jvm.Cond.code (⟨"com/example/nestor/nestor/TruthValue", "of", "(ZZ)Lcom/example/nestor/nestor/TruthValue;"⟩ : MethodName) prog_6_method_4_code 3 (some (.object "com/example/nestor/nestor/TruthValue")) :: ws) ({ frames := 0, cells := 0, slots := 0, locals := 0 } : Room)) (fun a U => a = #[(.int (0 : Int32)), (.int (0 : Int32))] ∧ Z.Warmed39 U.vm ∧ U.heap = h0) (fun _ _ _ _ _ => True) (fun _ U o U' => ∃ v L, o = .returned v ∧ Q_rm1_00 Z vFALSE vUNDEFINED vINCONSISTENT vTRUE h0 n0 v U'.heap L ∧ FrameEnd U o U' L ({ frames := 0, cells := 0, slots := 0, locals := 0 } : Room).cells ({ frames := 0, cells := 0, slots := 0, locals := 0 } : Room).slots) := by
  refine MetFree.of_bodySF (plainFor_of_name pn_0) hisR ?_
  intro p e s m args below meth c s₁ Bd hml0 hP hK
  obtain ⟨rfl, hZ, hh⟩ := hP
  have hx := Bd.exec
  have hby := Bd.bytes
  have hml : c.maxLocals = 3 := hml0
  have hown : s.vm.findClass "com/example/nestor/nestor/TruthValue" = some m.cls := findClass_of_methodNamed Bd.named
  have hnm := (name_of_methodNamed Bd.named Bd.method).1
  have X0 : Stand p l e ({ frames := 0, cells := 0, slots := 0, locals := 0 } : Room) s m #[(.int (0 : Int32)), (.int (0 : Int32))] below meth c s₁ [] 0 0 := Stand.of_body Bd
  have e0 : s₁.heap = h0 := by rw [← hh, Bd.state]; rfl
  have N0 := Fr.nil n0
  show Run p e below s 0 0 (Q_rm1_00 Z vFALSE vUNDEFINED vINCONSISTENT vTRUE h0 n0) (s₁.setTop (entryFrame m #[(.int (0 : Int32)), (.int (0 : Int32))] 3))
  refine Run.go (fun _ k => castTop (ef_rm1_00 m ) k) ?_
  show Run p e below s 0 0 (Q_rm1_00 Z vFALSE vUNDEFINED vINCONSISTENT vTRUE h0 n0) (s₁.setTop (mkF m 0 #[.val (.int (0 : Int32)), .val (.int (0 : Int32)), .unset] []))
  refine Run.go (fun _ k => XS.iloadN X0.here hx rfl (hb hby d1_0) rfl  k) ?_
  show Run p e below s 0 0 (Q_rm1_00 Z vFALSE vUNDEFINED vINCONSISTENT vTRUE h0 n0) (s₁.setTop (mkF m 1 #[.val (.int (0 : Int32)), .val (.int (0 : Int32)), .unset] [(.int (0 : Int32))]))
  refine Run.go (fun _ k => XS.ifYes X0.here hx rfl (pc0 := 1) (pc' := 15) rfl (hb hby d1_1) rfl ((if0 _ _).trans (teq (rfl : (0 : Int32) = (0 : Int32))).1) (by decide) (by decide) k) ?_
  show Run p e below s 0 0 (Q_rm1_00 Z vFALSE vUNDEFINED vINCONSISTENT vTRUE h0 n0) (s₁.setTop (mkF m 15 #[.val (.int (0 : Int32)), .val (.int (0 : Int32)), .unset] []))
  refine Run.go (fun _ k => XS.iloadN X0.here hx rfl (hb hby d1_15) rfl  k) ?_
  show Run p e below s 0 0 (Q_rm1_00 Z vFALSE vUNDEFINED vINCONSISTENT vTRUE h0 n0) (s₁.setTop (mkF m 16 #[.val (.int (0 : Int32)), .val (.int (0 : Int32)), .unset] [(.int (0 : Int32))]))
  refine Run.go (fun _ k => XS.ifYes X0.here hx rfl (pc0 := 16) (pc' := 26) rfl (hb hby d1_16) rfl ((if0 _ _).trans (teq (rfl : (0 : Int32) = (0 : Int32))).1) (by decide) (by decide) k) ?_
  show Run p e below s 0 0 (Q_rm1_00 Z vFALSE vUNDEFINED vINCONSISTENT vTRUE h0 n0) (s₁.setTop (mkF m 26 #[.val (.int (0 : Int32)), .val (.int (0 : Int32)), .unset] []))
  refine Run.go (fun _ k => XS.iloadN X0.here hx rfl (hb hby d1_26) rfl  k) ?_
  show Run p e below s 0 0 (Q_rm1_00 Z vFALSE vUNDEFINED vINCONSISTENT vTRUE h0 n0) (s₁.setTop (mkF m 27 #[.val (.int (0 : Int32)), .val (.int (0 : Int32)), .unset] [(.int (0 : Int32))]))
  refine Run.go (fun _ k => XS.ifYes X0.here hx rfl (pc0 := 27) (pc' := 37) rfl (hb hby d1_27) rfl ((if0 _ _).trans (teq (rfl : (0 : Int32) = (0 : Int32))).1) (by decide) (by decide) k) ?_
  show Run p e below s 0 0 (Q_rm1_00 Z vFALSE vUNDEFINED vINCONSISTENT vTRUE h0 n0) (s₁.setTop (mkF m 37 #[.val (.int (0 : Int32)), .val (.int (0 : Int32)), .unset] []))
  obtain ⟨T1, X1, e1, st1⟩ := getS2 X0 hx hZ hown (host := "") (Or.inl (hw _ (List.mem_of_getElem? (i := 15) rfl))) Via.refl e0 S_TruthValue_FALSE (g := (mkF m 37 #[.val (.int (0 : Int32)), .val (.int (0 : Int32)), .unset] [])) rfl (hb hby d1_37)
  refine Run.go st1 ?_
  show Run p e below s 0 0 (Q_rm1_00 Z vFALSE vUNDEFINED vINCONSISTENT vTRUE h0 n0) (T1.setTop (mkF m 40 #[.val (.int (0 : Int32)), .val (.int (0 : Int32)), .unset] [(.ref vFALSE)]))
  refine Run.go (fun _ k => XS.astoreN X1.here hx rfl (hb hby d1_40) rfl rfl (l' := #[.val (.int (0 : Int32)), .val (.int (0 : Int32)), .val (.ref vFALSE)]) rfl k) ?_
  show Run p e below s 0 0 (Q_rm1_00 Z vFALSE vUNDEFINED vINCONSISTENT vTRUE h0 n0) (T1.setTop (mkF m 41 #[.val (.int (0 : Int32)), .val (.int (0 : Int32)), .val (.ref vFALSE)] []))
  refine Run.go (fun _ k => XS.aloadN X1.here hx rfl (hb hby d1_41) rfl rfl k) ?_
  show Run p e below s 0 0 (Q_rm1_00 Z vFALSE vUNDEFINED vINCONSISTENT vTRUE h0 n0) (T1.setTop (mkF m 42 #[.val (.int (0 : Int32)), .val (.int (0 : Int32)), .val (.ref vFALSE)] [(.ref vFALSE)]))
  refine Run.retA X1 hx rfl Bd.returns rfl Bd.notSynchronized (hb hby d1_42) (by decide) (by decide) ?_
  show Q_rm1_00 Z vFALSE vUNDEFINED vINCONSISTENT vTRUE h0 n0 _ T1.heap _
  exact ⟨rfl, N0, e1⟩
theorem d1_30 : decode prog_6_method_4_code 30 = .ok (.getstatic 7, 3) := by decide +kernel
theorem d1_33 : decode prog_6_method_4_code 33 = .ok (.astore_n 2, 1) := by decide +kernel
theorem d1_34 : decode prog_6_method_4_code 34 = .ok (.goto 7, 3) := by decide +kernel
def Q_rm1_01 (Z : State) (vFALSE : Addr) (vUNDEFINED : Addr) (vINCONSISTENT : Addr) (vTRUE : Addr) (h0 : Heap) (n0 : Nat) (v : Option Value) (h : Heap) (L : List Loc) : Prop := v = some (.ref vUNDEFINED) ∧ Fr n0 L ∧ h = h0
theorem ef_rm1_01 (m : MethodId)  : entryFrame m #[(.int (0 : Int32)), (.int (1 : Int32))] 3 = mkF m 0 #[.val (.int (0 : Int32)), .val (.int (1 : Int32)), .unset] [] := by first | (simp [entryFrame, mkF, argsToLocals, Value.category]; done) | rfl
set_option maxRecDepth 65536 in
set_option maxHeartbeats 40000000 in
theorem rm1_01 (l : Launch) (Z : State) (a0 : Array Value) (hw : ∀ d ∈ tables_1, d.before a0 Z = true) (ws : List Jvm.Cond) (vFALSE : Addr) (vUNDEFINED : Addr) (vINCONSISTENT : Addr) (vTRUE : Addr) (h0 : Heap) (n0 : Nat) (Z0 : n0 ≤ h0.size) (S_TruthValue_FALSE : Sta Z h0 "com/example/nestor/nestor/TruthValue" "FALSE" "Lcom/example/nestor/nestor/TruthValue;" (.ref vFALSE)) (S_TruthValue_UNDEFINED : Sta Z h0 "com/example/nestor/nestor/TruthValue" "UNDEFINED" "Lcom/example/nestor/nestor/TruthValue;" (.ref vUNDEFINED)) (S_TruthValue_INCONSISTENT : Sta Z h0 "com/example/nestor/nestor/TruthValue" "INCONSISTENT" "Lcom/example/nestor/nestor/TruthValue;" (.ref vINCONSISTENT)) (S_TruthValue_TRUE : Sta Z h0 "com/example/nestor/nestor/TruthValue" "TRUE" "Lcom/example/nestor/nestor/TruthValue;" (.ref vTRUE)) :
    MetFree l (⟨"com/example/nestor/nestor/TruthValue", "of", "(ZZ)Lcom/example/nestor/nestor/TruthValue;"⟩ : MethodName) (head1 (Jvm.Cond.code (⟨"com/example/nestor/nestor/TruthValue", "of", "(ZZ)Lcom/example/nestor/nestor/TruthValue;"⟩ : MethodName) prog_6_method_4_code 3 (some (.object "com/example/nestor/nestor/TruthValue")) :: ws) ({ frames := 0, cells := 0, slots := 0, locals := 0 } : Room)) (fun a U => a = #[(.int (0 : Int32)), (.int (1 : Int32))] ∧ Z.Warmed39 U.vm ∧ U.heap = h0) (fun _ _ _ _ _ => True) (fun _ U o U' => ∃ v L, o = .returned v ∧ Q_rm1_01 Z vFALSE vUNDEFINED vINCONSISTENT vTRUE h0 n0 v U'.heap L ∧ FrameEnd U o U' L ({ frames := 0, cells := 0, slots := 0, locals := 0 } : Room).cells ({ frames := 0, cells := 0, slots := 0, locals := 0 } : Room).slots) := by
  refine MetFree.of_bodySF (plainFor_of_name pn_0) hisR ?_
  intro p e s m args below meth c s₁ Bd hml0 hP hK
  obtain ⟨rfl, hZ, hh⟩ := hP
  have hx := Bd.exec
  have hby := Bd.bytes
  have hml : c.maxLocals = 3 := hml0
  have hown : s.vm.findClass "com/example/nestor/nestor/TruthValue" = some m.cls := findClass_of_methodNamed Bd.named
  have hnm := (name_of_methodNamed Bd.named Bd.method).1
  have X0 : Stand p l e ({ frames := 0, cells := 0, slots := 0, locals := 0 } : Room) s m #[(.int (0 : Int32)), (.int (1 : Int32))] below meth c s₁ [] 0 0 := Stand.of_body Bd
  have e0 : s₁.heap = h0 := by rw [← hh, Bd.state]; rfl
  have N0 := Fr.nil n0
  show Run p e below s 0 0 (Q_rm1_01 Z vFALSE vUNDEFINED vINCONSISTENT vTRUE h0 n0) (s₁.setTop (entryFrame m #[(.int (0 : Int32)), (.int (1 : Int32))] 3))
  refine Run.go (fun _ k => castTop (ef_rm1_01 m ) k) ?_
  show Run p e below s 0 0 (Q_rm1_01 Z vFALSE vUNDEFINED vINCONSISTENT vTRUE h0 n0) (s₁.setTop (mkF m 0 #[.val (.int (0 : Int32)), .val (.int (1 : Int32)), .unset] []))
  refine Run.go (fun _ k => XS.iloadN X0.here hx rfl (hb hby d1_0) rfl  k) ?_
  show Run p e below s 0 0 (Q_rm1_01 Z vFALSE vUNDEFINED vINCONSISTENT vTRUE h0 n0) (s₁.setTop (mkF m 1 #[.val (.int (0 : Int32)), .val (.int (1 : Int32)), .unset] [(.int (0 : Int32))]))
  refine Run.go (fun _ k => XS.ifYes X0.here hx rfl (pc0 := 1) (pc' := 15) rfl (hb hby d1_1) rfl ((if0 _ _).trans (teq (rfl : (0 : Int32) = (0 : Int32))).1) (by decide) (by decide) k) ?_
  show Run p e below s 0 0 (Q_rm1_01 Z vFALSE vUNDEFINED vINCONSISTENT vTRUE h0 n0) (s₁.setTop (mkF m 15 #[.val (.int (0 : Int32)), .val (.int (1 : Int32)), .unset] []))
  refine Run.go (fun _ k => XS.iloadN X0.here hx rfl (hb hby d1_15) rfl  k) ?_
  show Run p e below s 0 0 (Q_rm1_01 Z vFALSE vUNDEFINED vINCONSISTENT vTRUE h0 n0) (s₁.setTop (mkF m 16 #[.val (.int (0 : Int32)), .val (.int (1 : Int32)), .unset] [(.int (0 : Int32))]))
  refine Run.go (fun _ k => XS.ifYes X0.here hx rfl (pc0 := 16) (pc' := 26) rfl (hb hby d1_16) rfl ((if0 _ _).trans (teq (rfl : (0 : Int32) = (0 : Int32))).1) (by decide) (by decide) k) ?_
  show Run p e below s 0 0 (Q_rm1_01 Z vFALSE vUNDEFINED vINCONSISTENT vTRUE h0 n0) (s₁.setTop (mkF m 26 #[.val (.int (0 : Int32)), .val (.int (1 : Int32)), .unset] []))
  refine Run.go (fun _ k => XS.iloadN X0.here hx rfl (hb hby d1_26) rfl  k) ?_
  show Run p e below s 0 0 (Q_rm1_01 Z vFALSE vUNDEFINED vINCONSISTENT vTRUE h0 n0) (s₁.setTop (mkF m 27 #[.val (.int (0 : Int32)), .val (.int (1 : Int32)), .unset] [(.int (1 : Int32))]))
  refine Run.go (fun _ k => XS.ifNo X0.here hx rfl (hb hby d1_27) rfl ((if0 _ _).trans (feq (by decide)).1) k) ?_
  show Run p e below s 0 0 (Q_rm1_01 Z vFALSE vUNDEFINED vINCONSISTENT vTRUE h0 n0) (s₁.setTop (mkF m 30 #[.val (.int (0 : Int32)), .val (.int (1 : Int32)), .unset] []))
  obtain ⟨T1, X1, e1, st1⟩ := getS2 X0 hx hZ hown (host := "") (Or.inl (hw _ (List.mem_of_getElem? (i := 18) rfl))) Via.refl e0 S_TruthValue_UNDEFINED (g := (mkF m 30 #[.val (.int (0 : Int32)), .val (.int (1 : Int32)), .unset] [])) rfl (hb hby d1_30)
  refine Run.go st1 ?_
  show Run p e below s 0 0 (Q_rm1_01 Z vFALSE vUNDEFINED vINCONSISTENT vTRUE h0 n0) (T1.setTop (mkF m 33 #[.val (.int (0 : Int32)), .val (.int (1 : Int32)), .unset] [(.ref vUNDEFINED)]))
  refine Run.go (fun _ k => XS.astoreN X1.here hx rfl (hb hby d1_33) rfl rfl (l' := #[.val (.int (0 : Int32)), .val (.int (1 : Int32)), .val (.ref vUNDEFINED)]) rfl k) ?_
  show Run p e below s 0 0 (Q_rm1_01 Z vFALSE vUNDEFINED vINCONSISTENT vTRUE h0 n0) (T1.setTop (mkF m 34 #[.val (.int (0 : Int32)), .val (.int (1 : Int32)), .val (.ref vUNDEFINED)] []))
  refine Run.go (fun _ k => XS.goto X1.here hx rfl (pc0 := 34) (pc' := 41) rfl (hb hby d1_34) (by decide) (by decide) k) ?_
  show Run p e below s 0 0 (Q_rm1_01 Z vFALSE vUNDEFINED vINCONSISTENT vTRUE h0 n0) (T1.setTop (mkF m 41 #[.val (.int (0 : Int32)), .val (.int (1 : Int32)), .val (.ref vUNDEFINED)] []))
  refine Run.go (fun _ k => XS.aloadN X1.here hx rfl (hb hby d1_41) rfl rfl k) ?_
  show Run p e below s 0 0 (Q_rm1_01 Z vFALSE vUNDEFINED vINCONSISTENT vTRUE h0 n0) (T1.setTop (mkF m 42 #[.val (.int (0 : Int32)), .val (.int (1 : Int32)), .val (.ref vUNDEFINED)] [(.ref vUNDEFINED)]))
  refine Run.retA X1 hx rfl Bd.returns rfl Bd.notSynchronized (hb hby d1_42) (by decide) (by decide) ?_
  show Q_rm1_01 Z vFALSE vUNDEFINED vINCONSISTENT vTRUE h0 n0 _ T1.heap _
  exact ⟨rfl, N0, e1⟩
theorem d1_4 : decode prog_6_method_4_code 4 = .ok (.iload_n 1, 1) := by decide +kernel
theorem d1_5 : decode prog_6_method_4_code 5 = .ok (.ifCond .eq 10, 3) := by decide +kernel
theorem d1_19 : decode prog_6_method_4_code 19 = .ok (.getstatic 13, 3) := by decide +kernel
theorem d1_22 : decode prog_6_method_4_code 22 = .ok (.astore_n 2, 1) := by decide +kernel
theorem d1_23 : decode prog_6_method_4_code 23 = .ok (.goto 18, 3) := by decide +kernel
def Q_rm1_10 (Z : State) (vFALSE : Addr) (vUNDEFINED : Addr) (vINCONSISTENT : Addr) (vTRUE : Addr) (h0 : Heap) (n0 : Nat) (v : Option Value) (h : Heap) (L : List Loc) : Prop := v = some (.ref vINCONSISTENT) ∧ Fr n0 L ∧ h = h0
theorem ef_rm1_10 (m : MethodId)  : entryFrame m #[(.int (1 : Int32)), (.int (0 : Int32))] 3 = mkF m 0 #[.val (.int (1 : Int32)), .val (.int (0 : Int32)), .unset] [] := by first | (simp [entryFrame, mkF, argsToLocals, Value.category]; done) | rfl
set_option maxRecDepth 65536 in
set_option maxHeartbeats 40000000 in
theorem rm1_10 (l : Launch) (Z : State) (a0 : Array Value) (hw : ∀ d ∈ tables_1, d.before a0 Z = true) (ws : List Jvm.Cond) (vFALSE : Addr) (vUNDEFINED : Addr) (vINCONSISTENT : Addr) (vTRUE : Addr) (h0 : Heap) (n0 : Nat) (Z0 : n0 ≤ h0.size) (S_TruthValue_FALSE : Sta Z h0 "com/example/nestor/nestor/TruthValue" "FALSE" "Lcom/example/nestor/nestor/TruthValue;" (.ref vFALSE)) (S_TruthValue_UNDEFINED : Sta Z h0 "com/example/nestor/nestor/TruthValue" "UNDEFINED" "Lcom/example/nestor/nestor/TruthValue;" (.ref vUNDEFINED)) (S_TruthValue_INCONSISTENT : Sta Z h0 "com/example/nestor/nestor/TruthValue" "INCONSISTENT" "Lcom/example/nestor/nestor/TruthValue;" (.ref vINCONSISTENT)) (S_TruthValue_TRUE : Sta Z h0 "com/example/nestor/nestor/TruthValue" "TRUE" "Lcom/example/nestor/nestor/TruthValue;" (.ref vTRUE)) :
    MetFree l (⟨"com/example/nestor/nestor/TruthValue", "of", "(ZZ)Lcom/example/nestor/nestor/TruthValue;"⟩ : MethodName) (head1 (Jvm.Cond.code (⟨"com/example/nestor/nestor/TruthValue", "of", "(ZZ)Lcom/example/nestor/nestor/TruthValue;"⟩ : MethodName) prog_6_method_4_code 3 (some (.object "com/example/nestor/nestor/TruthValue")) :: ws) ({ frames := 0, cells := 0, slots := 0, locals := 0 } : Room)) (fun a U => a = #[(.int (1 : Int32)), (.int (0 : Int32))] ∧ Z.Warmed39 U.vm ∧ U.heap = h0) (fun _ _ _ _ _ => True) (fun _ U o U' => ∃ v L, o = .returned v ∧ Q_rm1_10 Z vFALSE vUNDEFINED vINCONSISTENT vTRUE h0 n0 v U'.heap L ∧ FrameEnd U o U' L ({ frames := 0, cells := 0, slots := 0, locals := 0 } : Room).cells ({ frames := 0, cells := 0, slots := 0, locals := 0 } : Room).slots) := by
  refine MetFree.of_bodySF (plainFor_of_name pn_0) hisR ?_
  intro p e s m args below meth c s₁ Bd hml0 hP hK
  obtain ⟨rfl, hZ, hh⟩ := hP
  have hx := Bd.exec
  have hby := Bd.bytes
  have hml : c.maxLocals = 3 := hml0
  have hown : s.vm.findClass "com/example/nestor/nestor/TruthValue" = some m.cls := findClass_of_methodNamed Bd.named
  have hnm := (name_of_methodNamed Bd.named Bd.method).1
  have X0 : Stand p l e ({ frames := 0, cells := 0, slots := 0, locals := 0 } : Room) s m #[(.int (1 : Int32)), (.int (0 : Int32))] below meth c s₁ [] 0 0 := Stand.of_body Bd
  have e0 : s₁.heap = h0 := by rw [← hh, Bd.state]; rfl
  have N0 := Fr.nil n0
  show Run p e below s 0 0 (Q_rm1_10 Z vFALSE vUNDEFINED vINCONSISTENT vTRUE h0 n0) (s₁.setTop (entryFrame m #[(.int (1 : Int32)), (.int (0 : Int32))] 3))
  refine Run.go (fun _ k => castTop (ef_rm1_10 m ) k) ?_
  show Run p e below s 0 0 (Q_rm1_10 Z vFALSE vUNDEFINED vINCONSISTENT vTRUE h0 n0) (s₁.setTop (mkF m 0 #[.val (.int (1 : Int32)), .val (.int (0 : Int32)), .unset] []))
  refine Run.go (fun _ k => XS.iloadN X0.here hx rfl (hb hby d1_0) rfl  k) ?_
  show Run p e below s 0 0 (Q_rm1_10 Z vFALSE vUNDEFINED vINCONSISTENT vTRUE h0 n0) (s₁.setTop (mkF m 1 #[.val (.int (1 : Int32)), .val (.int (0 : Int32)), .unset] [(.int (1 : Int32))]))
  refine Run.go (fun _ k => XS.ifNo X0.here hx rfl (hb hby d1_1) rfl ((if0 _ _).trans (feq (by decide)).1) k) ?_
  show Run p e below s 0 0 (Q_rm1_10 Z vFALSE vUNDEFINED vINCONSISTENT vTRUE h0 n0) (s₁.setTop (mkF m 4 #[.val (.int (1 : Int32)), .val (.int (0 : Int32)), .unset] []))
  refine Run.go (fun _ k => XS.iloadN X0.here hx rfl (hb hby d1_4) rfl  k) ?_
  show Run p e below s 0 0 (Q_rm1_10 Z vFALSE vUNDEFINED vINCONSISTENT vTRUE h0 n0) (s₁.setTop (mkF m 5 #[.val (.int (1 : Int32)), .val (.int (0 : Int32)), .unset] [(.int (0 : Int32))]))
  refine Run.go (fun _ k => XS.ifYes X0.here hx rfl (pc0 := 5) (pc' := 15) rfl (hb hby d1_5) rfl ((if0 _ _).trans (teq (rfl : (0 : Int32) = (0 : Int32))).1) (by decide) (by decide) k) ?_
  show Run p e below s 0 0 (Q_rm1_10 Z vFALSE vUNDEFINED vINCONSISTENT vTRUE h0 n0) (s₁.setTop (mkF m 15 #[.val (.int (1 : Int32)), .val (.int (0 : Int32)), .unset] []))
  refine Run.go (fun _ k => XS.iloadN X0.here hx rfl (hb hby d1_15) rfl  k) ?_
  show Run p e below s 0 0 (Q_rm1_10 Z vFALSE vUNDEFINED vINCONSISTENT vTRUE h0 n0) (s₁.setTop (mkF m 16 #[.val (.int (1 : Int32)), .val (.int (0 : Int32)), .unset] [(.int (1 : Int32))]))
  refine Run.go (fun _ k => XS.ifNo X0.here hx rfl (hb hby d1_16) rfl ((if0 _ _).trans (feq (by decide)).1) k) ?_
  show Run p e below s 0 0 (Q_rm1_10 Z vFALSE vUNDEFINED vINCONSISTENT vTRUE h0 n0) (s₁.setTop (mkF m 19 #[.val (.int (1 : Int32)), .val (.int (0 : Int32)), .unset] []))
  obtain ⟨T1, X1, e1, st1⟩ := getS2 X0 hx hZ hown (host := "") (Or.inl (hw _ (List.mem_of_getElem? (i := 17) rfl))) Via.refl e0 S_TruthValue_INCONSISTENT (g := (mkF m 19 #[.val (.int (1 : Int32)), .val (.int (0 : Int32)), .unset] [])) rfl (hb hby d1_19)
  refine Run.go st1 ?_
  show Run p e below s 0 0 (Q_rm1_10 Z vFALSE vUNDEFINED vINCONSISTENT vTRUE h0 n0) (T1.setTop (mkF m 22 #[.val (.int (1 : Int32)), .val (.int (0 : Int32)), .unset] [(.ref vINCONSISTENT)]))
  refine Run.go (fun _ k => XS.astoreN X1.here hx rfl (hb hby d1_22) rfl rfl (l' := #[.val (.int (1 : Int32)), .val (.int (0 : Int32)), .val (.ref vINCONSISTENT)]) rfl k) ?_
  show Run p e below s 0 0 (Q_rm1_10 Z vFALSE vUNDEFINED vINCONSISTENT vTRUE h0 n0) (T1.setTop (mkF m 23 #[.val (.int (1 : Int32)), .val (.int (0 : Int32)), .val (.ref vINCONSISTENT)] []))
  refine Run.go (fun _ k => XS.goto X1.here hx rfl (pc0 := 23) (pc' := 41) rfl (hb hby d1_23) (by decide) (by decide) k) ?_
  show Run p e below s 0 0 (Q_rm1_10 Z vFALSE vUNDEFINED vINCONSISTENT vTRUE h0 n0) (T1.setTop (mkF m 41 #[.val (.int (1 : Int32)), .val (.int (0 : Int32)), .val (.ref vINCONSISTENT)] []))
  refine Run.go (fun _ k => XS.aloadN X1.here hx rfl (hb hby d1_41) rfl rfl k) ?_
  show Run p e below s 0 0 (Q_rm1_10 Z vFALSE vUNDEFINED vINCONSISTENT vTRUE h0 n0) (T1.setTop (mkF m 42 #[.val (.int (1 : Int32)), .val (.int (0 : Int32)), .val (.ref vINCONSISTENT)] [(.ref vINCONSISTENT)]))
  refine Run.retA X1 hx rfl Bd.returns rfl Bd.notSynchronized (hb hby d1_42) (by decide) (by decide) ?_
  show Q_rm1_10 Z vFALSE vUNDEFINED vINCONSISTENT vTRUE h0 n0 _ T1.heap _
  exact ⟨rfl, N0, e1⟩
theorem d1_8 : decode prog_6_method_4_code 8 = .ok (.getstatic 3, 3) := by decide +kernel
theorem d1_11 : decode prog_6_method_4_code 11 = .ok (.astore_n 2, 1) := by decide +kernel
theorem d1_12 : decode prog_6_method_4_code 12 = .ok (.goto 29, 3) := by decide +kernel
def Q_rm1_11 (Z : State) (vFALSE : Addr) (vUNDEFINED : Addr) (vINCONSISTENT : Addr) (vTRUE : Addr) (h0 : Heap) (n0 : Nat) (v : Option Value) (h : Heap) (L : List Loc) : Prop := v = some (.ref vTRUE) ∧ Fr n0 L ∧ h = h0
theorem ef_rm1_11 (m : MethodId)  : entryFrame m #[(.int (1 : Int32)), (.int (1 : Int32))] 3 = mkF m 0 #[.val (.int (1 : Int32)), .val (.int (1 : Int32)), .unset] [] := by first | (simp [entryFrame, mkF, argsToLocals, Value.category]; done) | rfl
set_option maxRecDepth 65536 in
set_option maxHeartbeats 40000000 in
theorem rm1_11 (l : Launch) (Z : State) (a0 : Array Value) (hw : ∀ d ∈ tables_1, d.before a0 Z = true) (ws : List Jvm.Cond) (vFALSE : Addr) (vUNDEFINED : Addr) (vINCONSISTENT : Addr) (vTRUE : Addr) (h0 : Heap) (n0 : Nat) (Z0 : n0 ≤ h0.size) (S_TruthValue_FALSE : Sta Z h0 "com/example/nestor/nestor/TruthValue" "FALSE" "Lcom/example/nestor/nestor/TruthValue;" (.ref vFALSE)) (S_TruthValue_UNDEFINED : Sta Z h0 "com/example/nestor/nestor/TruthValue" "UNDEFINED" "Lcom/example/nestor/nestor/TruthValue;" (.ref vUNDEFINED)) (S_TruthValue_INCONSISTENT : Sta Z h0 "com/example/nestor/nestor/TruthValue" "INCONSISTENT" "Lcom/example/nestor/nestor/TruthValue;" (.ref vINCONSISTENT)) (S_TruthValue_TRUE : Sta Z h0 "com/example/nestor/nestor/TruthValue" "TRUE" "Lcom/example/nestor/nestor/TruthValue;" (.ref vTRUE)) :
    MetFree l (⟨"com/example/nestor/nestor/TruthValue", "of", "(ZZ)Lcom/example/nestor/nestor/TruthValue;"⟩ : MethodName) (head1 (Jvm.Cond.code (⟨"com/example/nestor/nestor/TruthValue", "of", "(ZZ)Lcom/example/nestor/nestor/TruthValue;"⟩ : MethodName) prog_6_method_4_code 3 (some (.object "com/example/nestor/nestor/TruthValue")) :: ws) ({ frames := 0, cells := 0, slots := 0, locals := 0 } : Room)) (fun a U => a = #[(.int (1 : Int32)), (.int (1 : Int32))] ∧ Z.Warmed39 U.vm ∧ U.heap = h0) (fun _ _ _ _ _ => True) (fun _ U o U' => ∃ v L, o = .returned v ∧ Q_rm1_11 Z vFALSE vUNDEFINED vINCONSISTENT vTRUE h0 n0 v U'.heap L ∧ FrameEnd U o U' L ({ frames := 0, cells := 0, slots := 0, locals := 0 } : Room).cells ({ frames := 0, cells := 0, slots := 0, locals := 0 } : Room).slots) := by
  refine MetFree.of_bodySF (plainFor_of_name pn_0) hisR ?_
  intro p e s m args below meth c s₁ Bd hml0 hP hK
  obtain ⟨rfl, hZ, hh⟩ := hP
  have hx := Bd.exec
  have hby := Bd.bytes
  have hml : c.maxLocals = 3 := hml0
  have hown : s.vm.findClass "com/example/nestor/nestor/TruthValue" = some m.cls := findClass_of_methodNamed Bd.named
  have hnm := (name_of_methodNamed Bd.named Bd.method).1
  have X0 : Stand p l e ({ frames := 0, cells := 0, slots := 0, locals := 0 } : Room) s m #[(.int (1 : Int32)), (.int (1 : Int32))] below meth c s₁ [] 0 0 := Stand.of_body Bd
  have e0 : s₁.heap = h0 := by rw [← hh, Bd.state]; rfl
  have N0 := Fr.nil n0
  show Run p e below s 0 0 (Q_rm1_11 Z vFALSE vUNDEFINED vINCONSISTENT vTRUE h0 n0) (s₁.setTop (entryFrame m #[(.int (1 : Int32)), (.int (1 : Int32))] 3))
  refine Run.go (fun _ k => castTop (ef_rm1_11 m ) k) ?_
  show Run p e below s 0 0 (Q_rm1_11 Z vFALSE vUNDEFINED vINCONSISTENT vTRUE h0 n0) (s₁.setTop (mkF m 0 #[.val (.int (1 : Int32)), .val (.int (1 : Int32)), .unset] []))
  refine Run.go (fun _ k => XS.iloadN X0.here hx rfl (hb hby d1_0) rfl  k) ?_
  show Run p e below s 0 0 (Q_rm1_11 Z vFALSE vUNDEFINED vINCONSISTENT vTRUE h0 n0) (s₁.setTop (mkF m 1 #[.val (.int (1 : Int32)), .val (.int (1 : Int32)), .unset] [(.int (1 : Int32))]))
  refine Run.go (fun _ k => XS.ifNo X0.here hx rfl (hb hby d1_1) rfl ((if0 _ _).trans (feq (by decide)).1) k) ?_
  show Run p e below s 0 0 (Q_rm1_11 Z vFALSE vUNDEFINED vINCONSISTENT vTRUE h0 n0) (s₁.setTop (mkF m 4 #[.val (.int (1 : Int32)), .val (.int (1 : Int32)), .unset] []))
  refine Run.go (fun _ k => XS.iloadN X0.here hx rfl (hb hby d1_4) rfl  k) ?_
  show Run p e below s 0 0 (Q_rm1_11 Z vFALSE vUNDEFINED vINCONSISTENT vTRUE h0 n0) (s₁.setTop (mkF m 5 #[.val (.int (1 : Int32)), .val (.int (1 : Int32)), .unset] [(.int (1 : Int32))]))
  refine Run.go (fun _ k => XS.ifNo X0.here hx rfl (hb hby d1_5) rfl ((if0 _ _).trans (feq (by decide)).1) k) ?_
  show Run p e below s 0 0 (Q_rm1_11 Z vFALSE vUNDEFINED vINCONSISTENT vTRUE h0 n0) (s₁.setTop (mkF m 8 #[.val (.int (1 : Int32)), .val (.int (1 : Int32)), .unset] []))
  obtain ⟨T1, X1, e1, st1⟩ := getS2 X0 hx hZ hown (host := "") (Or.inl (hw _ (List.mem_of_getElem? (i := 16) rfl))) Via.refl e0 S_TruthValue_TRUE (g := (mkF m 8 #[.val (.int (1 : Int32)), .val (.int (1 : Int32)), .unset] [])) rfl (hb hby d1_8)
  refine Run.go st1 ?_
  show Run p e below s 0 0 (Q_rm1_11 Z vFALSE vUNDEFINED vINCONSISTENT vTRUE h0 n0) (T1.setTop (mkF m 11 #[.val (.int (1 : Int32)), .val (.int (1 : Int32)), .unset] [(.ref vTRUE)]))
  refine Run.go (fun _ k => XS.astoreN X1.here hx rfl (hb hby d1_11) rfl rfl (l' := #[.val (.int (1 : Int32)), .val (.int (1 : Int32)), .val (.ref vTRUE)]) rfl k) ?_
  show Run p e below s 0 0 (Q_rm1_11 Z vFALSE vUNDEFINED vINCONSISTENT vTRUE h0 n0) (T1.setTop (mkF m 12 #[.val (.int (1 : Int32)), .val (.int (1 : Int32)), .val (.ref vTRUE)] []))
  refine Run.go (fun _ k => XS.goto X1.here hx rfl (pc0 := 12) (pc' := 41) rfl (hb hby d1_12) (by decide) (by decide) k) ?_
  show Run p e below s 0 0 (Q_rm1_11 Z vFALSE vUNDEFINED vINCONSISTENT vTRUE h0 n0) (T1.setTop (mkF m 41 #[.val (.int (1 : Int32)), .val (.int (1 : Int32)), .val (.ref vTRUE)] []))
  refine Run.go (fun _ k => XS.aloadN X1.here hx rfl (hb hby d1_41) rfl rfl k) ?_
  show Run p e below s 0 0 (Q_rm1_11 Z vFALSE vUNDEFINED vINCONSISTENT vTRUE h0 n0) (T1.setTop (mkF m 42 #[.val (.int (1 : Int32)), .val (.int (1 : Int32)), .val (.ref vTRUE)] [(.ref vTRUE)]))
  refine Run.retA X1 hx rfl Bd.returns rfl Bd.notSynchronized (hb hby d1_42) (by decide) (by decide) ?_
  show Q_rm1_11 Z vFALSE vUNDEFINED vINCONSISTENT vTRUE h0 n0 _ T1.heap _
  exact ⟨rfl, N0, e1⟩
theorem own_c (k : Int32) : (k &&& (3 : Int32)) = 0 ∨ (k &&& (3 : Int32)) = 1 ∨ (k &&& (3 : Int32)) = 2 ∨ (k &&& (3 : Int32)) = 3 := by
  have h := c_and k 3 (by decide)
  have e : (3 : Int32).toInt = 3 := rfl
  simp only [← Int32.toInt_inj, show (0 : Int32).toInt = 0 from rfl, show (1 : Int32).toInt = 1 from rfl, show (2 : Int32).toInt = 2 from rfl, show (3 : Int32).toInt = 3 from rfl]
  omega
theorem pd_0 : parseMethodDescriptor "(ZZ)Lcom/example/nestor/nestor/TruthValue;" = some ⟨[.boolean, .boolean], some (.object "com/example/nestor/nestor/TruthValue")⟩ := by decide +kernel
def Q_rm0 (Z : State) (p1 : Int32) (vFALSE : Addr) (vUNDEFINED : Addr) (vINCONSISTENT : Addr) (vTRUE : Addr) (h0 : Heap) (n0 : Nat) (v : Option Value) (h : Heap) (L : List Loc) : Prop := v = some (.int 1) ∧ Fr n0 L
theorem ef_rm0 (m : MethodId) (x0 : Int32) : entryFrame m #[(.int x0)] maxLocals = mkF m 0 #[.val (.int x0), .unset, .unset, .unset, .unset, .unset] [] := by first | (simp [entryFrame, mkF, argsToLocals, Value.category, maxLocals]; done) | rfl
theorem pn_1 : plainName "com/example/nestor/nestor/TruthValueOfPinLaw" = true := by first | (simp [plainName, overriddenIn]; done) | decide +kernel
set_option maxRecDepth 65536 in
set_option maxHeartbeats 40000000 in
theorem rm0 (l : Launch) (Z : State) (a0 : Array Value) (hw : ∀ d ∈ tables_1, d.before a0 Z = true) (ws : List Jvm.Cond) (p1 : Int32) (vFALSE : Addr) (vUNDEFINED : Addr) (vINCONSISTENT : Addr) (vTRUE : Addr) (h0 : Heap) (n0 : Nat) (Z0 : n0 ≤ h0.size) (S_TruthValue_FALSE : Sta Z h0 "com/example/nestor/nestor/TruthValue" "FALSE" "Lcom/example/nestor/nestor/TruthValue;" (.ref vFALSE)) (S_TruthValue_UNDEFINED : Sta Z h0 "com/example/nestor/nestor/TruthValue" "UNDEFINED" "Lcom/example/nestor/nestor/TruthValue;" (.ref vUNDEFINED)) (S_TruthValue_INCONSISTENT : Sta Z h0 "com/example/nestor/nestor/TruthValue" "INCONSISTENT" "Lcom/example/nestor/nestor/TruthValue;" (.ref vINCONSISTENT)) (S_TruthValue_TRUE : Sta Z h0 "com/example/nestor/nestor/TruthValue" "TRUE" "Lcom/example/nestor/nestor/TruthValue;" (.ref vTRUE)) (E_vFALSE : Exa Z h0 vFALSE "com/example/nestor/nestor/TruthValue") (E_vUNDEFINED : Exa Z h0 vUNDEFINED "com/example/nestor/nestor/TruthValue") (E_vINCONSISTENT : Exa Z h0 vINCONSISTENT "com/example/nestor/nestor/TruthValue") (E_vTRUE : Exa Z h0 vTRUE "com/example/nestor/nestor/TruthValue") :
    MetFree l x (head1 (Jvm.Cond.code x code maxLocals ret :: ws) room_1) (fun a U => a = #[(.int p1)] ∧ Z.Warmed39 U.vm ∧ U.heap = h0) (fun _ _ _ _ _ => True) (fun _ U o U' => ∃ v L, o = .returned v ∧ Q_rm0 Z p1 vFALSE vUNDEFINED vINCONSISTENT vTRUE h0 n0 v U'.heap L ∧ FrameEnd U o U' L 1 4) := by
  refine MetFree.of_bodySF (plainFor_of_name pn_1) hisR ?_
  intro p e s m args below meth c s₁ Bd hml0 hP hK
  obtain ⟨rfl, hZ, hh⟩ := hP
  have hx := Bd.exec
  have hby := Bd.bytes
  have hml : c.maxLocals = 6 := hml0
  have hown : s.vm.findClass "com/example/nestor/nestor/TruthValueOfPinLaw" = some m.cls := findClass_of_methodNamed Bd.named
  have hnm := (name_of_methodNamed Bd.named Bd.method).1
  have X0 : Stand p l e room_1 s m #[(.int p1)] below meth c s₁ [] 0 0 := Stand.of_body Bd
  have e0 : s₁.heap = h0 := by rw [← hh, Bd.state]; rfl
  have N0 := Fr.nil n0
  show Run p e below s 1 4 (Q_rm0 Z p1 vFALSE vUNDEFINED vINCONSISTENT vTRUE h0 n0) (s₁.setTop (entryFrame m #[(.int p1)] maxLocals))
  refine Run.go (fun _ k => castTop (ef_rm0 m p1) k) ?_
  show Run p e below s 1 4 (Q_rm0 Z p1 vFALSE vUNDEFINED vINCONSISTENT vTRUE h0 n0) (s₁.setTop (mkF m 0 #[.val (.int p1), .unset, .unset, .unset, .unset, .unset] []))
  refine Run.go (fun _ k => XS.iloadN X0.here hx rfl (hb hby at_0) rfl  k) ?_
  show Run p e below s 1 4 (Q_rm0 Z p1 vFALSE vUNDEFINED vINCONSISTENT vTRUE h0 n0) (s₁.setTop (mkF m 1 #[.val (.int p1), .unset, .unset, .unset, .unset, .unset] [(.int p1)]))
  refine Run.go (fun _ k => XS.iconst X0.here hx rfl (hb hby at_1) k) ?_
  show Run p e below s 1 4 (Q_rm0 Z p1 vFALSE vUNDEFINED vINCONSISTENT vTRUE h0 n0) (s₁.setTop (mkF m 2 #[.val (.int p1), .unset, .unset, .unset, .unset, .unset] [(.int (3 : Int32)), (.int p1)]))
  refine Run.go (fun _ k => XS.iand X0.here hx rfl (hb hby at_2) rfl k) ?_
  show Run p e below s 1 4 (Q_rm0 Z p1 vFALSE vUNDEFINED vINCONSISTENT vTRUE h0 n0) (s₁.setTop (mkF m 3 #[.val (.int p1), .unset, .unset, .unset, .unset, .unset] [(.int (p1 &&& (3 : Int32)))]))
  refine Run.go (fun _ k => XS.istoreN X0.here hx rfl (hb hby at_3) rfl (l' := #[.val (.int p1), .val (.int (p1 &&& (3 : Int32))), .unset, .unset, .unset, .unset]) rfl k) ?_
  show Run p e below s 1 4 (Q_rm0 Z p1 vFALSE vUNDEFINED vINCONSISTENT vTRUE h0 n0) (s₁.setTop (mkF m 4 #[.val (.int p1), .val (.int (p1 &&& (3 : Int32))), .unset, .unset, .unset, .unset] []))
  obtain hk2 | hk2 | hk2 | hk2 := own_c p1
  · rw [hk2]
    show Run p e below s 1 4 (Q_rm0 Z p1 vFALSE vUNDEFINED vINCONSISTENT vTRUE h0 n0) (s₁.setTop (mkF m 4 #[.val (.int p1), .val (.int (0 : Int32)), .unset, .unset, .unset, .unset] []))
    refine Run.go (fun _ k => XS.iloadN X0.here hx rfl (hb hby at_4) rfl  k) ?_
    show Run p e below s 1 4 (Q_rm0 Z p1 vFALSE vUNDEFINED vINCONSISTENT vTRUE h0 n0) (s₁.setTop (mkF m 5 #[.val (.int p1), .val (.int (0 : Int32)), .unset, .unset, .unset, .unset] [(.int (0 : Int32))]))
    refine Run.go (fun _ k => XS.iconst X0.here hx rfl (hb hby at_5) k) ?_
    show Run p e below s 1 4 (Q_rm0 Z p1 vFALSE vUNDEFINED vINCONSISTENT vTRUE h0 n0) (s₁.setTop (mkF m 6 #[.val (.int p1), .val (.int (0 : Int32)), .unset, .unset, .unset, .unset] [(.int (2 : Int32)), (.int (0 : Int32))]))
    refine Run.go (fun _ k => XS.iand X0.here hx rfl (hb hby at_6) rfl k) ?_
    show Run p e below s 1 4 (Q_rm0 Z p1 vFALSE vUNDEFINED vINCONSISTENT vTRUE h0 n0) (s₁.setTop (mkF m 7 #[.val (.int p1), .val (.int (0 : Int32)), .unset, .unset, .unset, .unset] [(.int (0 : Int32))]))
    refine Run.go (fun _ k => XS.ifYes X0.here hx rfl (pc0 := 7) (pc' := 14) rfl (hb hby at_7) rfl ((if0 _ _).trans (teq (rfl : (0 : Int32) = (0 : Int32))).1) (by decide) (by decide) k) ?_
    show Run p e below s 1 4 (Q_rm0 Z p1 vFALSE vUNDEFINED vINCONSISTENT vTRUE h0 n0) (s₁.setTop (mkF m 14 #[.val (.int p1), .val (.int (0 : Int32)), .unset, .unset, .unset, .unset] []))
    refine Run.go (fun _ k => XS.iconst X0.here hx rfl (hb hby at_14) k) ?_
    show Run p e below s 1 4 (Q_rm0 Z p1 vFALSE vUNDEFINED vINCONSISTENT vTRUE h0 n0) (s₁.setTop (mkF m 15 #[.val (.int p1), .val (.int (0 : Int32)), .unset, .unset, .unset, .unset] [(.int (0 : Int32))]))
    refine Run.go (fun _ k => XS.istoreN X0.here hx rfl (hb hby at_15) rfl (l' := #[.val (.int p1), .val (.int (0 : Int32)), .val (.int (0 : Int32)), .unset, .unset, .unset]) rfl k) ?_
    show Run p e below s 1 4 (Q_rm0 Z p1 vFALSE vUNDEFINED vINCONSISTENT vTRUE h0 n0) (s₁.setTop (mkF m 16 #[.val (.int p1), .val (.int (0 : Int32)), .val (.int (0 : Int32)), .unset, .unset, .unset] []))
    refine Run.go (fun _ k => XS.iloadN X0.here hx rfl (hb hby at_16) rfl  k) ?_
    show Run p e below s 1 4 (Q_rm0 Z p1 vFALSE vUNDEFINED vINCONSISTENT vTRUE h0 n0) (s₁.setTop (mkF m 17 #[.val (.int p1), .val (.int (0 : Int32)), .val (.int (0 : Int32)), .unset, .unset, .unset] [(.int (0 : Int32))]))
    refine Run.go (fun _ k => XS.iconst X0.here hx rfl (hb hby at_17) k) ?_
    show Run p e below s 1 4 (Q_rm0 Z p1 vFALSE vUNDEFINED vINCONSISTENT vTRUE h0 n0) (s₁.setTop (mkF m 18 #[.val (.int p1), .val (.int (0 : Int32)), .val (.int (0 : Int32)), .unset, .unset, .unset] [(.int (1 : Int32)), (.int (0 : Int32))]))
    refine Run.go (fun _ k => XS.iand X0.here hx rfl (hb hby at_18) rfl k) ?_
    show Run p e below s 1 4 (Q_rm0 Z p1 vFALSE vUNDEFINED vINCONSISTENT vTRUE h0 n0) (s₁.setTop (mkF m 19 #[.val (.int p1), .val (.int (0 : Int32)), .val (.int (0 : Int32)), .unset, .unset, .unset] [(.int (0 : Int32))]))
    refine Run.go (fun _ k => XS.ifYes X0.here hx rfl (pc0 := 19) (pc' := 26) rfl (hb hby at_19) rfl ((if0 _ _).trans (teq (rfl : (0 : Int32) = (0 : Int32))).1) (by decide) (by decide) k) ?_
    show Run p e below s 1 4 (Q_rm0 Z p1 vFALSE vUNDEFINED vINCONSISTENT vTRUE h0 n0) (s₁.setTop (mkF m 26 #[.val (.int p1), .val (.int (0 : Int32)), .val (.int (0 : Int32)), .unset, .unset, .unset] []))
    refine Run.go (fun _ k => XS.iconst X0.here hx rfl (hb hby at_26) k) ?_
    show Run p e below s 1 4 (Q_rm0 Z p1 vFALSE vUNDEFINED vINCONSISTENT vTRUE h0 n0) (s₁.setTop (mkF m 27 #[.val (.int p1), .val (.int (0 : Int32)), .val (.int (0 : Int32)), .unset, .unset, .unset] [(.int (0 : Int32))]))
    refine Run.go (fun _ k => XS.istoreN X0.here hx rfl (hb hby at_27) rfl (l' := #[.val (.int p1), .val (.int (0 : Int32)), .val (.int (0 : Int32)), .val (.int (0 : Int32)), .unset, .unset]) rfl k) ?_
    show Run p e below s 1 4 (Q_rm0 Z p1 vFALSE vUNDEFINED vINCONSISTENT vTRUE h0 n0) (s₁.setTop (mkF m 28 #[.val (.int p1), .val (.int (0 : Int32)), .val (.int (0 : Int32)), .val (.int (0 : Int32)), .unset, .unset] []))
    refine Run.go (fun _ k => XS.iconst X0.here hx rfl (hb hby at_28) k) ?_
    show Run p e below s 1 4 (Q_rm0 Z p1 vFALSE vUNDEFINED vINCONSISTENT vTRUE h0 n0) (s₁.setTop (mkF m 29 #[.val (.int p1), .val (.int (0 : Int32)), .val (.int (0 : Int32)), .val (.int (0 : Int32)), .unset, .unset] [(.int (4 : Int32))]))
    obtain ⟨T3, h3, k3, X3, e3, E3, A3, O3, st3⟩ := newR X0 hx hZ hown (hw _ (List.mem_of_getElem? (i := 0) rfl)) (hw _ (List.mem_of_getElem? (i := 1) rfl)) e0 (g := (mkF m 29 #[.val (.int p1), .val (.int (0 : Int32)), .val (.int (0 : Int32)), .val (.int (0 : Int32)), .unset, .unset] [(.int (4 : Int32))])) rfl (hb hby at_29) rfl (by decide) (cap := 4) (by decide) (by decide) (by decide) (by decide)
    obtain ⟨b3, g3⟩ : ∃ z, z = h0.size := ⟨_, rfl⟩
    rw [← g3] at A3 st3
    have g_b3 : n0 ≤ b3 := Nat.le_trans Z0 (Nat.le_of_eq g3.symm)
    have Z3 : n0 ≤ h3.size := Nat.le_trans Z0 E3.1
    have ne_vFALSE_b3 : vFALSE ≠ b3 := Nat.ne_of_lt (Nat.lt_of_lt_of_le E_vFALSE.lt (Nat.le_of_eq g3.symm))
    have ne_vUNDEFINED_b3 : vUNDEFINED ≠ b3 := Nat.ne_of_lt (Nat.lt_of_lt_of_le E_vUNDEFINED.lt (Nat.le_of_eq g3.symm))
    have ne_vINCONSISTENT_b3 : vINCONSISTENT ≠ b3 := Nat.ne_of_lt (Nat.lt_of_lt_of_le E_vINCONSISTENT.lt (Nat.le_of_eq g3.symm))
    have ne_vTRUE_b3 : vTRUE ≠ b3 := Nat.ne_of_lt (Nat.lt_of_lt_of_le E_vTRUE.lt (Nat.le_of_eq g3.symm))
    have fx4 : ArR Z h3 b3 "com/example/nestor/nestor/TruthValue" 4 (fun _ => .null) := ArR.new A3 O3 (by decide)
    refine Run.go st3 ?_
    show Run p e below s 1 4 (Q_rm0 Z p1 vFALSE vUNDEFINED vINCONSISTENT vTRUE h0 n0) (T3.setTop (mkF m 32 #[.val (.int p1), .val (.int (0 : Int32)), .val (.int (0 : Int32)), .val (.int (0 : Int32)), .unset, .unset] [(.ref b3)]))
    refine Run.go (fun _ k => XS.astore X3.here hx rfl (hb hby at_32) rfl rfl (l' := #[.val (.int p1), .val (.int (0 : Int32)), .val (.int (0 : Int32)), .val (.int (0 : Int32)), .val (.ref b3), .unset]) rfl k) ?_
    show Run p e below s 1 4 (Q_rm0 Z p1 vFALSE vUNDEFINED vINCONSISTENT vTRUE h0 n0) (T3.setTop (mkF m 34 #[.val (.int p1), .val (.int (0 : Int32)), .val (.int (0 : Int32)), .val (.int (0 : Int32)), .val (.ref b3), .unset] []))
    refine Run.go (fun _ k => XS.aload X3.here hx rfl (hb hby at_34) rfl rfl k) ?_
    show Run p e below s 1 4 (Q_rm0 Z p1 vFALSE vUNDEFINED vINCONSISTENT vTRUE h0 n0) (T3.setTop (mkF m 36 #[.val (.int p1), .val (.int (0 : Int32)), .val (.int (0 : Int32)), .val (.int (0 : Int32)), .val (.ref b3), .unset] [(.ref b3)]))
    refine Run.go (fun _ k => XS.iconst X3.here hx rfl (hb hby at_36) k) ?_
    show Run p e below s 1 4 (Q_rm0 Z p1 vFALSE vUNDEFINED vINCONSISTENT vTRUE h0 n0) (T3.setTop (mkF m 37 #[.val (.int p1), .val (.int (0 : Int32)), .val (.int (0 : Int32)), .val (.int (0 : Int32)), .val (.ref b3), .unset] [(.int (0 : Int32)), (.ref b3)]))
    have fx5 := (S_TruthValue_FALSE.ext E3)
    obtain ⟨T6, X6, e6, st6⟩ := getS2 X3 hx hZ hown (host := "") (Or.inl (hw _ (List.mem_of_getElem? (i := 2) rfl))) Via.refl e3 fx5 (g := (mkF m 37 #[.val (.int p1), .val (.int (0 : Int32)), .val (.int (0 : Int32)), .val (.int (0 : Int32)), .val (.ref b3), .unset] [(.int (0 : Int32)), (.ref b3)])) rfl (hb hby at_37)
    refine Run.go st6 ?_
    show Run p e below s 1 4 (Q_rm0 Z p1 vFALSE vUNDEFINED vINCONSISTENT vTRUE h0 n0) (T6.setTop (mkF m 40 #[.val (.int p1), .val (.int (0 : Int32)), .val (.int (0 : Int32)), .val (.int (0 : Int32)), .val (.ref b3), .unset] [(.ref vFALSE), (.int (0 : Int32)), (.ref b3)]))
    have fx7 := (E_vFALSE.ext E3)
    obtain ⟨T8, h8, X8, e8, W8, st8⟩ := arr_set X6 hx hZ e6 fx4 (Ins.self fx7) (by decide) (by decide) (g := (mkF m 40 #[.val (.int p1), .val (.int (0 : Int32)), .val (.int (0 : Int32)), .val (.int (0 : Int32)), .val (.ref b3), .unset] [(.ref vFALSE), (.int (0 : Int32)), (.ref b3)])) rfl rfl (hb hby at_40)
    have N8 := Fr.snoc X8 N0 g_b3
    have Z8 : n0 ≤ h8.size := Nat.le_trans Z3 (Keep.of_wr W8).1
    obtain ⟨Lg8, Xg8, Ng8⟩ := Stand_gen X8 N8
    have fx9 : ArR Z h8 b3 "com/example/nestor/nestor/TruthValue" 4 (fun i => if i = 0 then (.ref vFALSE) else (fun _ => .null) i) := fx4.same W8
    refine Run.go st8 ?_
    show Run p e below s 1 4 (Q_rm0 Z p1 vFALSE vUNDEFINED vINCONSISTENT vTRUE h0 n0) (T8.setTop (mkF m 41 #[.val (.int p1), .val (.int (0 : Int32)), .val (.int (0 : Int32)), .val (.int (0 : Int32)), .val (.ref b3), .unset] []))
    refine Run.go (fun _ k => XS.aload Xg8.here hx rfl (hb hby at_41) rfl rfl k) ?_
    show Run p e below s 1 4 (Q_rm0 Z p1 vFALSE vUNDEFINED vINCONSISTENT vTRUE h0 n0) (T8.setTop (mkF m 43 #[.val (.int p1), .val (.int (0 : Int32)), .val (.int (0 : Int32)), .val (.int (0 : Int32)), .val (.ref b3), .unset] [(.ref b3)]))
    refine Run.go (fun _ k => XS.iconst Xg8.here hx rfl (hb hby at_43) k) ?_
    show Run p e below s 1 4 (Q_rm0 Z p1 vFALSE vUNDEFINED vINCONSISTENT vTRUE h0 n0) (T8.setTop (mkF m 44 #[.val (.int p1), .val (.int (0 : Int32)), .val (.int (0 : Int32)), .val (.int (0 : Int32)), .val (.ref b3), .unset] [(.int (1 : Int32)), (.ref b3)]))
    have fx10 := ((S_TruthValue_UNDEFINED.ext E3).wr W8)
    obtain ⟨T11, X11, e11, st11⟩ := getS2 Xg8 hx hZ hown (host := "") (Or.inl (hw _ (List.mem_of_getElem? (i := 6) rfl))) Via.refl e8 fx10 (g := (mkF m 44 #[.val (.int p1), .val (.int (0 : Int32)), .val (.int (0 : Int32)), .val (.int (0 : Int32)), .val (.ref b3), .unset] [(.int (1 : Int32)), (.ref b3)])) rfl (hb hby at_44)
    refine Run.go st11 ?_
    show Run p e below s 1 4 (Q_rm0 Z p1 vFALSE vUNDEFINED vINCONSISTENT vTRUE h0 n0) (T11.setTop (mkF m 47 #[.val (.int p1), .val (.int (0 : Int32)), .val (.int (0 : Int32)), .val (.int (0 : Int32)), .val (.ref b3), .unset] [(.ref vUNDEFINED), (.int (1 : Int32)), (.ref b3)]))
    have fx12 := ((E_vUNDEFINED.ext E3).wr W8)
    obtain ⟨T13, h13, X13, e13, W13, st13⟩ := arr_set X11 hx hZ e11 fx9 (Ins.self fx12) (by decide) (by decide) (g := (mkF m 47 #[.val (.int p1), .val (.int (0 : Int32)), .val (.int (0 : Int32)), .val (.int (0 : Int32)), .val (.ref b3), .unset] [(.ref vUNDEFINED), (.int (1 : Int32)), (.ref b3)])) rfl rfl (hb hby at_47)
    have N13 := Fr.snoc X13 Ng8 g_b3
    have Z13 : n0 ≤ h13.size := Nat.le_trans Z8 (Keep.of_wr W13).1
    obtain ⟨Lg13, Xg13, Ng13⟩ := Stand_gen X13 N13
    have fx14 : ArR Z h13 b3 "com/example/nestor/nestor/TruthValue" 4 (fun i => if i = 1 then (.ref vUNDEFINED) else (fun i => if i = 0 then (.ref vFALSE) else (fun _ => .null) i) i) := fx9.same W13
    refine Run.go st13 ?_
    show Run p e below s 1 4 (Q_rm0 Z p1 vFALSE vUNDEFINED vINCONSISTENT vTRUE h0 n0) (T13.setTop (mkF m 48 #[.val (.int p1), .val (.int (0 : Int32)), .val (.int (0 : Int32)), .val (.int (0 : Int32)), .val (.ref b3), .unset] []))
    refine Run.go (fun _ k => XS.aload Xg13.here hx rfl (hb hby at_48) rfl rfl k) ?_
    show Run p e below s 1 4 (Q_rm0 Z p1 vFALSE vUNDEFINED vINCONSISTENT vTRUE h0 n0) (T13.setTop (mkF m 50 #[.val (.int p1), .val (.int (0 : Int32)), .val (.int (0 : Int32)), .val (.int (0 : Int32)), .val (.ref b3), .unset] [(.ref b3)]))
    refine Run.go (fun _ k => XS.iconst Xg13.here hx rfl (hb hby at_50) k) ?_
    show Run p e below s 1 4 (Q_rm0 Z p1 vFALSE vUNDEFINED vINCONSISTENT vTRUE h0 n0) (T13.setTop (mkF m 51 #[.val (.int p1), .val (.int (0 : Int32)), .val (.int (0 : Int32)), .val (.int (0 : Int32)), .val (.ref b3), .unset] [(.int (2 : Int32)), (.ref b3)]))
    have fx15 := (((S_TruthValue_INCONSISTENT.ext E3).wr W8).wr W13)
    obtain ⟨T16, X16, e16, st16⟩ := getS2 Xg13 hx hZ hown (host := "") (Or.inl (hw _ (List.mem_of_getElem? (i := 8) rfl))) Via.refl e13 fx15 (g := (mkF m 51 #[.val (.int p1), .val (.int (0 : Int32)), .val (.int (0 : Int32)), .val (.int (0 : Int32)), .val (.ref b3), .unset] [(.int (2 : Int32)), (.ref b3)])) rfl (hb hby at_51)
    refine Run.go st16 ?_
    show Run p e below s 1 4 (Q_rm0 Z p1 vFALSE vUNDEFINED vINCONSISTENT vTRUE h0 n0) (T16.setTop (mkF m 54 #[.val (.int p1), .val (.int (0 : Int32)), .val (.int (0 : Int32)), .val (.int (0 : Int32)), .val (.ref b3), .unset] [(.ref vINCONSISTENT), (.int (2 : Int32)), (.ref b3)]))
    have fx17 := (((E_vINCONSISTENT.ext E3).wr W8).wr W13)
    obtain ⟨T18, h18, X18, e18, W18, st18⟩ := arr_set X16 hx hZ e16 fx14 (Ins.self fx17) (by decide) (by decide) (g := (mkF m 54 #[.val (.int p1), .val (.int (0 : Int32)), .val (.int (0 : Int32)), .val (.int (0 : Int32)), .val (.ref b3), .unset] [(.ref vINCONSISTENT), (.int (2 : Int32)), (.ref b3)])) rfl rfl (hb hby at_54)
    have N18 := Fr.snoc X18 Ng13 g_b3
    have Z18 : n0 ≤ h18.size := Nat.le_trans Z13 (Keep.of_wr W18).1
    obtain ⟨Lg18, Xg18, Ng18⟩ := Stand_gen X18 N18
    have fx19 : ArR Z h18 b3 "com/example/nestor/nestor/TruthValue" 4 (fun i => if i = 2 then (.ref vINCONSISTENT) else (fun i => if i = 1 then (.ref vUNDEFINED) else (fun i => if i = 0 then (.ref vFALSE) else (fun _ => .null) i) i) i) := fx14.same W18
    refine Run.go st18 ?_
    show Run p e below s 1 4 (Q_rm0 Z p1 vFALSE vUNDEFINED vINCONSISTENT vTRUE h0 n0) (T18.setTop (mkF m 55 #[.val (.int p1), .val (.int (0 : Int32)), .val (.int (0 : Int32)), .val (.int (0 : Int32)), .val (.ref b3), .unset] []))
    refine Run.go (fun _ k => XS.aload Xg18.here hx rfl (hb hby at_55) rfl rfl k) ?_
    show Run p e below s 1 4 (Q_rm0 Z p1 vFALSE vUNDEFINED vINCONSISTENT vTRUE h0 n0) (T18.setTop (mkF m 57 #[.val (.int p1), .val (.int (0 : Int32)), .val (.int (0 : Int32)), .val (.int (0 : Int32)), .val (.ref b3), .unset] [(.ref b3)]))
    refine Run.go (fun _ k => XS.iconst Xg18.here hx rfl (hb hby at_57) k) ?_
    show Run p e below s 1 4 (Q_rm0 Z p1 vFALSE vUNDEFINED vINCONSISTENT vTRUE h0 n0) (T18.setTop (mkF m 58 #[.val (.int p1), .val (.int (0 : Int32)), .val (.int (0 : Int32)), .val (.int (0 : Int32)), .val (.ref b3), .unset] [(.int (3 : Int32)), (.ref b3)]))
    have fx20 := ((((S_TruthValue_TRUE.ext E3).wr W8).wr W13).wr W18)
    obtain ⟨T21, X21, e21, st21⟩ := getS2 Xg18 hx hZ hown (host := "") (Or.inl (hw _ (List.mem_of_getElem? (i := 10) rfl))) Via.refl e18 fx20 (g := (mkF m 58 #[.val (.int p1), .val (.int (0 : Int32)), .val (.int (0 : Int32)), .val (.int (0 : Int32)), .val (.ref b3), .unset] [(.int (3 : Int32)), (.ref b3)])) rfl (hb hby at_58)
    refine Run.go st21 ?_
    show Run p e below s 1 4 (Q_rm0 Z p1 vFALSE vUNDEFINED vINCONSISTENT vTRUE h0 n0) (T21.setTop (mkF m 61 #[.val (.int p1), .val (.int (0 : Int32)), .val (.int (0 : Int32)), .val (.int (0 : Int32)), .val (.ref b3), .unset] [(.ref vTRUE), (.int (3 : Int32)), (.ref b3)]))
    have fx22 := ((((E_vTRUE.ext E3).wr W8).wr W13).wr W18)
    obtain ⟨T23, h23, X23, e23, W23, st23⟩ := arr_set X21 hx hZ e21 fx19 (Ins.self fx22) (by decide) (by decide) (g := (mkF m 61 #[.val (.int p1), .val (.int (0 : Int32)), .val (.int (0 : Int32)), .val (.int (0 : Int32)), .val (.ref b3), .unset] [(.ref vTRUE), (.int (3 : Int32)), (.ref b3)])) rfl rfl (hb hby at_61)
    have N23 := Fr.snoc X23 Ng18 g_b3
    have Z23 : n0 ≤ h23.size := Nat.le_trans Z18 (Keep.of_wr W23).1
    obtain ⟨Lg23, Xg23, Ng23⟩ := Stand_gen X23 N23
    have fx24 : ArR Z h23 b3 "com/example/nestor/nestor/TruthValue" 4 (fun i => if i = 3 then (.ref vTRUE) else (fun i => if i = 2 then (.ref vINCONSISTENT) else (fun i => if i = 1 then (.ref vUNDEFINED) else (fun i => if i = 0 then (.ref vFALSE) else (fun _ => .null) i) i) i) i) := fx19.same W23
    refine Run.go st23 ?_
    show Run p e below s 1 4 (Q_rm0 Z p1 vFALSE vUNDEFINED vINCONSISTENT vTRUE h0 n0) (T23.setTop (mkF m 62 #[.val (.int p1), .val (.int (0 : Int32)), .val (.int (0 : Int32)), .val (.int (0 : Int32)), .val (.ref b3), .unset] []))
    refine Run.go (fun _ k => XS.iloadN Xg23.here hx rfl (hb hby at_62) rfl  k) ?_
    show Run p e below s 1 4 (Q_rm0 Z p1 vFALSE vUNDEFINED vINCONSISTENT vTRUE h0 n0) (T23.setTop (mkF m 63 #[.val (.int p1), .val (.int (0 : Int32)), .val (.int (0 : Int32)), .val (.int (0 : Int32)), .val (.ref b3), .unset] [(.int (0 : Int32))]))
    refine Run.go (fun _ k => XS.iloadN Xg23.here hx rfl (hb hby at_63) rfl  k) ?_
    show Run p e below s 1 4 (Q_rm0 Z p1 vFALSE vUNDEFINED vINCONSISTENT vTRUE h0 n0) (T23.setTop (mkF m 64 #[.val (.int p1), .val (.int (0 : Int32)), .val (.int (0 : Int32)), .val (.int (0 : Int32)), .val (.ref b3), .unset] [(.int (0 : Int32)), (.int (0 : Int32))]))
    have fx26 := ((((fx5.wr W8).wr W13).wr W18).wr W23)
    have fx27 := (((fx10.wr W13).wr W18).wr W23)
    have fx28 := ((fx15.wr W18).wr W23)
    have fx29 := (fx20.wr W23)
    obtain ⟨_, _, ⟨T25, L25, k25, n25⟩, -, X25, ⟨Lc25, hQ25, l25, y25, z25⟩, st25⟩ := Jvm.LawKit.callS Xg23 hx (y := (⟨"com/example/nestor/nestor/TruthValue", "of", "(ZZ)Lcom/example/nestor/nestor/TruthValue;"⟩ : MethodName)) hown (mvT hZ (hw _ (List.mem_of_getElem? (i := 12) rfl))) (mvT hZ (hw _ (List.mem_of_getElem? (i := 13) rfl))) (mvT hZ (hw _ (List.mem_of_getElem? (i := 3) rfl))) (mvT hZ (hw _ (List.mem_of_getElem? (i := 14) rfl))) (by decide) (backOf (W := 0) (rm1_00 l Z a0 hw [] vFALSE vUNDEFINED vINCONSISTENT vTRUE h23 n0 Z23 fx26 fx27 fx28 fx29) hZ (hw _ (List.mem_of_getElem? (i := 14) rfl)) (hw _ (List.mem_of_getElem? (i := 3) rfl)) (by decide) (by decide)) (g := (mkF m 64 #[.val (.int p1), .val (.int (0 : Int32)), .val (.int (0 : Int32)), .val (.int (0 : Int32)), .val (.ref b3), .unset] [(.int (0 : Int32)), (.int (0 : Int32))])) rfl (by rw [hml]; rfl) (argsL := [(.int (0 : Int32)), (.int (0 : Int32))]) (rest := []) (lenOf pd_0 rfl) rfl (by show 2 * 0 + _ ≤ _; exact Nat.le_of_eq rfl) (hb hby at_64) (fun _ _ => ⟨rfl, e23, (by decide : 1 + 0 ≤ _), (by decide : 4 + 0 ≤ _)⟩)
    dsimp only [Pt.U, Pt.locs, Pt.cells, Pt.slots] at X25 l25 y25 z25 st25 hQ25
    subst l25 y25 z25
    obtain ⟨rfl, N25q, e25q⟩ := hQ25
    have N25 := Fr.app Ng23 N25q
    obtain ⟨Lg25, Xg25, Ng25⟩ := Stand_gen X25 N25
    refine Run.go st25 ?_
    show Run p e below s 1 4 (Q_rm0 Z p1 vFALSE vUNDEFINED vINCONSISTENT vTRUE h0 n0) (T25.setTop (mkF m 67 #[.val (.int p1), .val (.int (0 : Int32)), .val (.int (0 : Int32)), .val (.int (0 : Int32)), .val (.ref b3), .unset] [(.ref vFALSE)]))
    refine Run.go (fun _ k => XS.astore Xg25.here hx rfl (hb hby at_67) rfl rfl (l' := #[.val (.int p1), .val (.int (0 : Int32)), .val (.int (0 : Int32)), .val (.int (0 : Int32)), .val (.ref b3), .val (.ref vFALSE)]) rfl k) ?_
    show Run p e below s 1 4 (Q_rm0 Z p1 vFALSE vUNDEFINED vINCONSISTENT vTRUE h0 n0) (T25.setTop (mkF m 69 #[.val (.int p1), .val (.int (0 : Int32)), .val (.int (0 : Int32)), .val (.int (0 : Int32)), .val (.ref b3), .val (.ref vFALSE)] []))
    refine Run.go (fun _ k => XS.aload Xg25.here hx rfl (hb hby at_69) rfl rfl k) ?_
    show Run p e below s 1 4 (Q_rm0 Z p1 vFALSE vUNDEFINED vINCONSISTENT vTRUE h0 n0) (T25.setTop (mkF m 71 #[.val (.int p1), .val (.int (0 : Int32)), .val (.int (0 : Int32)), .val (.int (0 : Int32)), .val (.ref b3), .val (.ref vFALSE)] [(.ref vFALSE)]))
    refine Run.go (fun _ k => XS.aload Xg25.here hx rfl (hb hby at_71) rfl rfl k) ?_
    show Run p e below s 1 4 (Q_rm0 Z p1 vFALSE vUNDEFINED vINCONSISTENT vTRUE h0 n0) (T25.setTop (mkF m 73 #[.val (.int p1), .val (.int (0 : Int32)), .val (.int (0 : Int32)), .val (.int (0 : Int32)), .val (.ref b3), .val (.ref vFALSE)] [(.ref b3), (.ref vFALSE)]))
    refine Run.go (fun _ k => XS.iloadN Xg25.here hx rfl (hb hby at_73) rfl  k) ?_
    show Run p e below s 1 4 (Q_rm0 Z p1 vFALSE vUNDEFINED vINCONSISTENT vTRUE h0 n0) (T25.setTop (mkF m 74 #[.val (.int p1), .val (.int (0 : Int32)), .val (.int (0 : Int32)), .val (.int (0 : Int32)), .val (.ref b3), .val (.ref vFALSE)] [(.int (0 : Int32)), (.ref b3), (.ref vFALSE)]))
    refine Run.go (fun _ k => ary_aget Xg25 hx hZ e25q fx24.ary rfl (by decide) (by decide) (g := (mkF m 74 #[.val (.int p1), .val (.int (0 : Int32)), .val (.int (0 : Int32)), .val (.int (0 : Int32)), .val (.ref b3), .val (.ref vFALSE)] [(.int (0 : Int32)), (.ref b3), (.ref vFALSE)])) rfl rfl (hb hby at_74) rfl _ k) ?_
    show Run p e below s 1 4 (Q_rm0 Z p1 vFALSE vUNDEFINED vINCONSISTENT vTRUE h0 n0) (T25.setTop (mkF m 75 #[.val (.int p1), .val (.int (0 : Int32)), .val (.int (0 : Int32)), .val (.int (0 : Int32)), .val (.ref b3), .val (.ref vFALSE)] [(.ref vFALSE), (.ref vFALSE)]))
    refine Run.go (fun _ k => Jvm.RoadKit.acmp (g := (mkF m 75 #[.val (.int p1), .val (.int (0 : Int32)), .val (.int (0 : Int32)), .val (.int (0 : Int32)), .val (.ref b3), .val (.ref vFALSE)] [(.ref vFALSE), (.ref vFALSE)])) Xg25 hx rfl rfl rfl (pc0 := 75) (pc' := 78) (same := true) rfl (hb hby at_75) rfl (decide_eq_true rfl) (by decide) (by decide) k) ?_
    show Run p e below s 1 4 (Q_rm0 Z p1 vFALSE vUNDEFINED vINCONSISTENT vTRUE h0 n0) (T25.setTop (mkF m 78 #[.val (.int p1), .val (.int (0 : Int32)), .val (.int (0 : Int32)), .val (.int (0 : Int32)), .val (.ref b3), .val (.ref vFALSE)] []))
    refine Run.go (fun _ k => XS.iconst Xg25.here hx rfl (hb hby at_78) k) ?_
    show Run p e below s 1 4 (Q_rm0 Z p1 vFALSE vUNDEFINED vINCONSISTENT vTRUE h0 n0) (T25.setTop (mkF m 79 #[.val (.int p1), .val (.int (0 : Int32)), .val (.int (0 : Int32)), .val (.int (0 : Int32)), .val (.ref b3), .val (.ref vFALSE)] [(.int (1 : Int32))]))
    refine Run.go (fun _ k => XS.goto Xg25.here hx rfl (pc0 := 79) (pc' := 83) rfl (hb hby at_79) (by decide) (by decide) k) ?_
    show Run p e below s 1 4 (Q_rm0 Z p1 vFALSE vUNDEFINED vINCONSISTENT vTRUE h0 n0) (T25.setTop (mkF m 83 #[.val (.int p1), .val (.int (0 : Int32)), .val (.int (0 : Int32)), .val (.int (0 : Int32)), .val (.ref b3), .val (.ref vFALSE)] [(.int (1 : Int32))]))
    exact Run.retN (y := 1) Xg25 hx (t := .boolean) Bd.returns (by simp) rfl Bd.notSynchronized (hb hby at_83) (by decide) (by decide) ⟨rfl, Ng25⟩
  · rw [hk2]
    show Run p e below s 1 4 (Q_rm0 Z p1 vFALSE vUNDEFINED vINCONSISTENT vTRUE h0 n0) (s₁.setTop (mkF m 4 #[.val (.int p1), .val (.int (1 : Int32)), .unset, .unset, .unset, .unset] []))
    refine Run.go (fun _ k => XS.iloadN X0.here hx rfl (hb hby at_4) rfl  k) ?_
    show Run p e below s 1 4 (Q_rm0 Z p1 vFALSE vUNDEFINED vINCONSISTENT vTRUE h0 n0) (s₁.setTop (mkF m 5 #[.val (.int p1), .val (.int (1 : Int32)), .unset, .unset, .unset, .unset] [(.int (1 : Int32))]))
    refine Run.go (fun _ k => XS.iconst X0.here hx rfl (hb hby at_5) k) ?_
    show Run p e below s 1 4 (Q_rm0 Z p1 vFALSE vUNDEFINED vINCONSISTENT vTRUE h0 n0) (s₁.setTop (mkF m 6 #[.val (.int p1), .val (.int (1 : Int32)), .unset, .unset, .unset, .unset] [(.int (2 : Int32)), (.int (1 : Int32))]))
    refine Run.go (fun _ k => XS.iand X0.here hx rfl (hb hby at_6) rfl k) ?_
    show Run p e below s 1 4 (Q_rm0 Z p1 vFALSE vUNDEFINED vINCONSISTENT vTRUE h0 n0) (s₁.setTop (mkF m 7 #[.val (.int p1), .val (.int (1 : Int32)), .unset, .unset, .unset, .unset] [(.int (0 : Int32))]))
    refine Run.go (fun _ k => XS.ifYes X0.here hx rfl (pc0 := 7) (pc' := 14) rfl (hb hby at_7) rfl ((if0 _ _).trans (teq (rfl : (0 : Int32) = (0 : Int32))).1) (by decide) (by decide) k) ?_
    show Run p e below s 1 4 (Q_rm0 Z p1 vFALSE vUNDEFINED vINCONSISTENT vTRUE h0 n0) (s₁.setTop (mkF m 14 #[.val (.int p1), .val (.int (1 : Int32)), .unset, .unset, .unset, .unset] []))
    refine Run.go (fun _ k => XS.iconst X0.here hx rfl (hb hby at_14) k) ?_
    show Run p e below s 1 4 (Q_rm0 Z p1 vFALSE vUNDEFINED vINCONSISTENT vTRUE h0 n0) (s₁.setTop (mkF m 15 #[.val (.int p1), .val (.int (1 : Int32)), .unset, .unset, .unset, .unset] [(.int (0 : Int32))]))
    refine Run.go (fun _ k => XS.istoreN X0.here hx rfl (hb hby at_15) rfl (l' := #[.val (.int p1), .val (.int (1 : Int32)), .val (.int (0 : Int32)), .unset, .unset, .unset]) rfl k) ?_
    show Run p e below s 1 4 (Q_rm0 Z p1 vFALSE vUNDEFINED vINCONSISTENT vTRUE h0 n0) (s₁.setTop (mkF m 16 #[.val (.int p1), .val (.int (1 : Int32)), .val (.int (0 : Int32)), .unset, .unset, .unset] []))
    refine Run.go (fun _ k => XS.iloadN X0.here hx rfl (hb hby at_16) rfl  k) ?_
    show Run p e below s 1 4 (Q_rm0 Z p1 vFALSE vUNDEFINED vINCONSISTENT vTRUE h0 n0) (s₁.setTop (mkF m 17 #[.val (.int p1), .val (.int (1 : Int32)), .val (.int (0 : Int32)), .unset, .unset, .unset] [(.int (1 : Int32))]))
    refine Run.go (fun _ k => XS.iconst X0.here hx rfl (hb hby at_17) k) ?_
    show Run p e below s 1 4 (Q_rm0 Z p1 vFALSE vUNDEFINED vINCONSISTENT vTRUE h0 n0) (s₁.setTop (mkF m 18 #[.val (.int p1), .val (.int (1 : Int32)), .val (.int (0 : Int32)), .unset, .unset, .unset] [(.int (1 : Int32)), (.int (1 : Int32))]))
    refine Run.go (fun _ k => XS.iand X0.here hx rfl (hb hby at_18) rfl k) ?_
    show Run p e below s 1 4 (Q_rm0 Z p1 vFALSE vUNDEFINED vINCONSISTENT vTRUE h0 n0) (s₁.setTop (mkF m 19 #[.val (.int p1), .val (.int (1 : Int32)), .val (.int (0 : Int32)), .unset, .unset, .unset] [(.int (1 : Int32))]))
    refine Run.go (fun _ k => XS.ifNo X0.here hx rfl (hb hby at_19) rfl ((if0 _ _).trans (feq (by decide)).1) k) ?_
    show Run p e below s 1 4 (Q_rm0 Z p1 vFALSE vUNDEFINED vINCONSISTENT vTRUE h0 n0) (s₁.setTop (mkF m 22 #[.val (.int p1), .val (.int (1 : Int32)), .val (.int (0 : Int32)), .unset, .unset, .unset] []))
    refine Run.go (fun _ k => XS.iconst X0.here hx rfl (hb hby at_22) k) ?_
    show Run p e below s 1 4 (Q_rm0 Z p1 vFALSE vUNDEFINED vINCONSISTENT vTRUE h0 n0) (s₁.setTop (mkF m 23 #[.val (.int p1), .val (.int (1 : Int32)), .val (.int (0 : Int32)), .unset, .unset, .unset] [(.int (1 : Int32))]))
    refine Run.go (fun _ k => XS.goto X0.here hx rfl (pc0 := 23) (pc' := 27) rfl (hb hby at_23) (by decide) (by decide) k) ?_
    show Run p e below s 1 4 (Q_rm0 Z p1 vFALSE vUNDEFINED vINCONSISTENT vTRUE h0 n0) (s₁.setTop (mkF m 27 #[.val (.int p1), .val (.int (1 : Int32)), .val (.int (0 : Int32)), .unset, .unset, .unset] [(.int (1 : Int32))]))
    refine Run.go (fun _ k => XS.istoreN X0.here hx rfl (hb hby at_27) rfl (l' := #[.val (.int p1), .val (.int (1 : Int32)), .val (.int (0 : Int32)), .val (.int (1 : Int32)), .unset, .unset]) rfl k) ?_
    show Run p e below s 1 4 (Q_rm0 Z p1 vFALSE vUNDEFINED vINCONSISTENT vTRUE h0 n0) (s₁.setTop (mkF m 28 #[.val (.int p1), .val (.int (1 : Int32)), .val (.int (0 : Int32)), .val (.int (1 : Int32)), .unset, .unset] []))
    refine Run.go (fun _ k => XS.iconst X0.here hx rfl (hb hby at_28) k) ?_
    show Run p e below s 1 4 (Q_rm0 Z p1 vFALSE vUNDEFINED vINCONSISTENT vTRUE h0 n0) (s₁.setTop (mkF m 29 #[.val (.int p1), .val (.int (1 : Int32)), .val (.int (0 : Int32)), .val (.int (1 : Int32)), .unset, .unset] [(.int (4 : Int32))]))
    obtain ⟨T30, h30, k30, X30, e30, E30, A30, O30, st30⟩ := newR X0 hx hZ hown (hw _ (List.mem_of_getElem? (i := 0) rfl)) (hw _ (List.mem_of_getElem? (i := 1) rfl)) e0 (g := (mkF m 29 #[.val (.int p1), .val (.int (1 : Int32)), .val (.int (0 : Int32)), .val (.int (1 : Int32)), .unset, .unset] [(.int (4 : Int32))])) rfl (hb hby at_29) rfl (by decide) (cap := 4) (by decide) (by decide) (by decide) (by decide)
    obtain ⟨b30, g30⟩ : ∃ z, z = h0.size := ⟨_, rfl⟩
    rw [← g30] at A30 st30
    have g_b30 : n0 ≤ b30 := Nat.le_trans Z0 (Nat.le_of_eq g30.symm)
    have Z30 : n0 ≤ h30.size := Nat.le_trans Z0 E30.1
    have ne_vFALSE_b30 : vFALSE ≠ b30 := Nat.ne_of_lt (Nat.lt_of_lt_of_le E_vFALSE.lt (Nat.le_of_eq g30.symm))
    have ne_vUNDEFINED_b30 : vUNDEFINED ≠ b30 := Nat.ne_of_lt (Nat.lt_of_lt_of_le E_vUNDEFINED.lt (Nat.le_of_eq g30.symm))
    have ne_vINCONSISTENT_b30 : vINCONSISTENT ≠ b30 := Nat.ne_of_lt (Nat.lt_of_lt_of_le E_vINCONSISTENT.lt (Nat.le_of_eq g30.symm))
    have ne_vTRUE_b30 : vTRUE ≠ b30 := Nat.ne_of_lt (Nat.lt_of_lt_of_le E_vTRUE.lt (Nat.le_of_eq g30.symm))
    have fx31 : ArR Z h30 b30 "com/example/nestor/nestor/TruthValue" 4 (fun _ => .null) := ArR.new A30 O30 (by decide)
    refine Run.go st30 ?_
    show Run p e below s 1 4 (Q_rm0 Z p1 vFALSE vUNDEFINED vINCONSISTENT vTRUE h0 n0) (T30.setTop (mkF m 32 #[.val (.int p1), .val (.int (1 : Int32)), .val (.int (0 : Int32)), .val (.int (1 : Int32)), .unset, .unset] [(.ref b30)]))
    refine Run.go (fun _ k => XS.astore X30.here hx rfl (hb hby at_32) rfl rfl (l' := #[.val (.int p1), .val (.int (1 : Int32)), .val (.int (0 : Int32)), .val (.int (1 : Int32)), .val (.ref b30), .unset]) rfl k) ?_
    show Run p e below s 1 4 (Q_rm0 Z p1 vFALSE vUNDEFINED vINCONSISTENT vTRUE h0 n0) (T30.setTop (mkF m 34 #[.val (.int p1), .val (.int (1 : Int32)), .val (.int (0 : Int32)), .val (.int (1 : Int32)), .val (.ref b30), .unset] []))
    refine Run.go (fun _ k => XS.aload X30.here hx rfl (hb hby at_34) rfl rfl k) ?_
    show Run p e below s 1 4 (Q_rm0 Z p1 vFALSE vUNDEFINED vINCONSISTENT vTRUE h0 n0) (T30.setTop (mkF m 36 #[.val (.int p1), .val (.int (1 : Int32)), .val (.int (0 : Int32)), .val (.int (1 : Int32)), .val (.ref b30), .unset] [(.ref b30)]))
    refine Run.go (fun _ k => XS.iconst X30.here hx rfl (hb hby at_36) k) ?_
    show Run p e below s 1 4 (Q_rm0 Z p1 vFALSE vUNDEFINED vINCONSISTENT vTRUE h0 n0) (T30.setTop (mkF m 37 #[.val (.int p1), .val (.int (1 : Int32)), .val (.int (0 : Int32)), .val (.int (1 : Int32)), .val (.ref b30), .unset] [(.int (0 : Int32)), (.ref b30)]))
    have fx32 := (S_TruthValue_FALSE.ext E30)
    obtain ⟨T33, X33, e33, st33⟩ := getS2 X30 hx hZ hown (host := "") (Or.inl (hw _ (List.mem_of_getElem? (i := 2) rfl))) Via.refl e30 fx32 (g := (mkF m 37 #[.val (.int p1), .val (.int (1 : Int32)), .val (.int (0 : Int32)), .val (.int (1 : Int32)), .val (.ref b30), .unset] [(.int (0 : Int32)), (.ref b30)])) rfl (hb hby at_37)
    refine Run.go st33 ?_
    show Run p e below s 1 4 (Q_rm0 Z p1 vFALSE vUNDEFINED vINCONSISTENT vTRUE h0 n0) (T33.setTop (mkF m 40 #[.val (.int p1), .val (.int (1 : Int32)), .val (.int (0 : Int32)), .val (.int (1 : Int32)), .val (.ref b30), .unset] [(.ref vFALSE), (.int (0 : Int32)), (.ref b30)]))
    have fx34 := (E_vFALSE.ext E30)
    obtain ⟨T35, h35, X35, e35, W35, st35⟩ := arr_set X33 hx hZ e33 fx31 (Ins.self fx34) (by decide) (by decide) (g := (mkF m 40 #[.val (.int p1), .val (.int (1 : Int32)), .val (.int (0 : Int32)), .val (.int (1 : Int32)), .val (.ref b30), .unset] [(.ref vFALSE), (.int (0 : Int32)), (.ref b30)])) rfl rfl (hb hby at_40)
    have N35 := Fr.snoc X35 N0 g_b30
    have Z35 : n0 ≤ h35.size := Nat.le_trans Z30 (Keep.of_wr W35).1
    obtain ⟨Lg35, Xg35, Ng35⟩ := Stand_gen X35 N35
    have fx36 : ArR Z h35 b30 "com/example/nestor/nestor/TruthValue" 4 (fun i => if i = 0 then (.ref vFALSE) else (fun _ => .null) i) := fx31.same W35
    refine Run.go st35 ?_
    show Run p e below s 1 4 (Q_rm0 Z p1 vFALSE vUNDEFINED vINCONSISTENT vTRUE h0 n0) (T35.setTop (mkF m 41 #[.val (.int p1), .val (.int (1 : Int32)), .val (.int (0 : Int32)), .val (.int (1 : Int32)), .val (.ref b30), .unset] []))
    refine Run.go (fun _ k => XS.aload Xg35.here hx rfl (hb hby at_41) rfl rfl k) ?_
    show Run p e below s 1 4 (Q_rm0 Z p1 vFALSE vUNDEFINED vINCONSISTENT vTRUE h0 n0) (T35.setTop (mkF m 43 #[.val (.int p1), .val (.int (1 : Int32)), .val (.int (0 : Int32)), .val (.int (1 : Int32)), .val (.ref b30), .unset] [(.ref b30)]))
    refine Run.go (fun _ k => XS.iconst Xg35.here hx rfl (hb hby at_43) k) ?_
    show Run p e below s 1 4 (Q_rm0 Z p1 vFALSE vUNDEFINED vINCONSISTENT vTRUE h0 n0) (T35.setTop (mkF m 44 #[.val (.int p1), .val (.int (1 : Int32)), .val (.int (0 : Int32)), .val (.int (1 : Int32)), .val (.ref b30), .unset] [(.int (1 : Int32)), (.ref b30)]))
    have fx37 := ((S_TruthValue_UNDEFINED.ext E30).wr W35)
    obtain ⟨T38, X38, e38, st38⟩ := getS2 Xg35 hx hZ hown (host := "") (Or.inl (hw _ (List.mem_of_getElem? (i := 6) rfl))) Via.refl e35 fx37 (g := (mkF m 44 #[.val (.int p1), .val (.int (1 : Int32)), .val (.int (0 : Int32)), .val (.int (1 : Int32)), .val (.ref b30), .unset] [(.int (1 : Int32)), (.ref b30)])) rfl (hb hby at_44)
    refine Run.go st38 ?_
    show Run p e below s 1 4 (Q_rm0 Z p1 vFALSE vUNDEFINED vINCONSISTENT vTRUE h0 n0) (T38.setTop (mkF m 47 #[.val (.int p1), .val (.int (1 : Int32)), .val (.int (0 : Int32)), .val (.int (1 : Int32)), .val (.ref b30), .unset] [(.ref vUNDEFINED), (.int (1 : Int32)), (.ref b30)]))
    have fx39 := ((E_vUNDEFINED.ext E30).wr W35)
    obtain ⟨T40, h40, X40, e40, W40, st40⟩ := arr_set X38 hx hZ e38 fx36 (Ins.self fx39) (by decide) (by decide) (g := (mkF m 47 #[.val (.int p1), .val (.int (1 : Int32)), .val (.int (0 : Int32)), .val (.int (1 : Int32)), .val (.ref b30), .unset] [(.ref vUNDEFINED), (.int (1 : Int32)), (.ref b30)])) rfl rfl (hb hby at_47)
    have N40 := Fr.snoc X40 Ng35 g_b30
    have Z40 : n0 ≤ h40.size := Nat.le_trans Z35 (Keep.of_wr W40).1
    obtain ⟨Lg40, Xg40, Ng40⟩ := Stand_gen X40 N40
    have fx41 : ArR Z h40 b30 "com/example/nestor/nestor/TruthValue" 4 (fun i => if i = 1 then (.ref vUNDEFINED) else (fun i => if i = 0 then (.ref vFALSE) else (fun _ => .null) i) i) := fx36.same W40
    refine Run.go st40 ?_
    show Run p e below s 1 4 (Q_rm0 Z p1 vFALSE vUNDEFINED vINCONSISTENT vTRUE h0 n0) (T40.setTop (mkF m 48 #[.val (.int p1), .val (.int (1 : Int32)), .val (.int (0 : Int32)), .val (.int (1 : Int32)), .val (.ref b30), .unset] []))
    refine Run.go (fun _ k => XS.aload Xg40.here hx rfl (hb hby at_48) rfl rfl k) ?_
    show Run p e below s 1 4 (Q_rm0 Z p1 vFALSE vUNDEFINED vINCONSISTENT vTRUE h0 n0) (T40.setTop (mkF m 50 #[.val (.int p1), .val (.int (1 : Int32)), .val (.int (0 : Int32)), .val (.int (1 : Int32)), .val (.ref b30), .unset] [(.ref b30)]))
    refine Run.go (fun _ k => XS.iconst Xg40.here hx rfl (hb hby at_50) k) ?_
    show Run p e below s 1 4 (Q_rm0 Z p1 vFALSE vUNDEFINED vINCONSISTENT vTRUE h0 n0) (T40.setTop (mkF m 51 #[.val (.int p1), .val (.int (1 : Int32)), .val (.int (0 : Int32)), .val (.int (1 : Int32)), .val (.ref b30), .unset] [(.int (2 : Int32)), (.ref b30)]))
    have fx42 := (((S_TruthValue_INCONSISTENT.ext E30).wr W35).wr W40)
    obtain ⟨T43, X43, e43, st43⟩ := getS2 Xg40 hx hZ hown (host := "") (Or.inl (hw _ (List.mem_of_getElem? (i := 8) rfl))) Via.refl e40 fx42 (g := (mkF m 51 #[.val (.int p1), .val (.int (1 : Int32)), .val (.int (0 : Int32)), .val (.int (1 : Int32)), .val (.ref b30), .unset] [(.int (2 : Int32)), (.ref b30)])) rfl (hb hby at_51)
    refine Run.go st43 ?_
    show Run p e below s 1 4 (Q_rm0 Z p1 vFALSE vUNDEFINED vINCONSISTENT vTRUE h0 n0) (T43.setTop (mkF m 54 #[.val (.int p1), .val (.int (1 : Int32)), .val (.int (0 : Int32)), .val (.int (1 : Int32)), .val (.ref b30), .unset] [(.ref vINCONSISTENT), (.int (2 : Int32)), (.ref b30)]))
    have fx44 := (((E_vINCONSISTENT.ext E30).wr W35).wr W40)
    obtain ⟨T45, h45, X45, e45, W45, st45⟩ := arr_set X43 hx hZ e43 fx41 (Ins.self fx44) (by decide) (by decide) (g := (mkF m 54 #[.val (.int p1), .val (.int (1 : Int32)), .val (.int (0 : Int32)), .val (.int (1 : Int32)), .val (.ref b30), .unset] [(.ref vINCONSISTENT), (.int (2 : Int32)), (.ref b30)])) rfl rfl (hb hby at_54)
    have N45 := Fr.snoc X45 Ng40 g_b30
    have Z45 : n0 ≤ h45.size := Nat.le_trans Z40 (Keep.of_wr W45).1
    obtain ⟨Lg45, Xg45, Ng45⟩ := Stand_gen X45 N45
    have fx46 : ArR Z h45 b30 "com/example/nestor/nestor/TruthValue" 4 (fun i => if i = 2 then (.ref vINCONSISTENT) else (fun i => if i = 1 then (.ref vUNDEFINED) else (fun i => if i = 0 then (.ref vFALSE) else (fun _ => .null) i) i) i) := fx41.same W45
    refine Run.go st45 ?_
    show Run p e below s 1 4 (Q_rm0 Z p1 vFALSE vUNDEFINED vINCONSISTENT vTRUE h0 n0) (T45.setTop (mkF m 55 #[.val (.int p1), .val (.int (1 : Int32)), .val (.int (0 : Int32)), .val (.int (1 : Int32)), .val (.ref b30), .unset] []))
    refine Run.go (fun _ k => XS.aload Xg45.here hx rfl (hb hby at_55) rfl rfl k) ?_
    show Run p e below s 1 4 (Q_rm0 Z p1 vFALSE vUNDEFINED vINCONSISTENT vTRUE h0 n0) (T45.setTop (mkF m 57 #[.val (.int p1), .val (.int (1 : Int32)), .val (.int (0 : Int32)), .val (.int (1 : Int32)), .val (.ref b30), .unset] [(.ref b30)]))
    refine Run.go (fun _ k => XS.iconst Xg45.here hx rfl (hb hby at_57) k) ?_
    show Run p e below s 1 4 (Q_rm0 Z p1 vFALSE vUNDEFINED vINCONSISTENT vTRUE h0 n0) (T45.setTop (mkF m 58 #[.val (.int p1), .val (.int (1 : Int32)), .val (.int (0 : Int32)), .val (.int (1 : Int32)), .val (.ref b30), .unset] [(.int (3 : Int32)), (.ref b30)]))
    have fx47 := ((((S_TruthValue_TRUE.ext E30).wr W35).wr W40).wr W45)
    obtain ⟨T48, X48, e48, st48⟩ := getS2 Xg45 hx hZ hown (host := "") (Or.inl (hw _ (List.mem_of_getElem? (i := 10) rfl))) Via.refl e45 fx47 (g := (mkF m 58 #[.val (.int p1), .val (.int (1 : Int32)), .val (.int (0 : Int32)), .val (.int (1 : Int32)), .val (.ref b30), .unset] [(.int (3 : Int32)), (.ref b30)])) rfl (hb hby at_58)
    refine Run.go st48 ?_
    show Run p e below s 1 4 (Q_rm0 Z p1 vFALSE vUNDEFINED vINCONSISTENT vTRUE h0 n0) (T48.setTop (mkF m 61 #[.val (.int p1), .val (.int (1 : Int32)), .val (.int (0 : Int32)), .val (.int (1 : Int32)), .val (.ref b30), .unset] [(.ref vTRUE), (.int (3 : Int32)), (.ref b30)]))
    have fx49 := ((((E_vTRUE.ext E30).wr W35).wr W40).wr W45)
    obtain ⟨T50, h50, X50, e50, W50, st50⟩ := arr_set X48 hx hZ e48 fx46 (Ins.self fx49) (by decide) (by decide) (g := (mkF m 61 #[.val (.int p1), .val (.int (1 : Int32)), .val (.int (0 : Int32)), .val (.int (1 : Int32)), .val (.ref b30), .unset] [(.ref vTRUE), (.int (3 : Int32)), (.ref b30)])) rfl rfl (hb hby at_61)
    have N50 := Fr.snoc X50 Ng45 g_b30
    have Z50 : n0 ≤ h50.size := Nat.le_trans Z45 (Keep.of_wr W50).1
    obtain ⟨Lg50, Xg50, Ng50⟩ := Stand_gen X50 N50
    have fx51 : ArR Z h50 b30 "com/example/nestor/nestor/TruthValue" 4 (fun i => if i = 3 then (.ref vTRUE) else (fun i => if i = 2 then (.ref vINCONSISTENT) else (fun i => if i = 1 then (.ref vUNDEFINED) else (fun i => if i = 0 then (.ref vFALSE) else (fun _ => .null) i) i) i) i) := fx46.same W50
    refine Run.go st50 ?_
    show Run p e below s 1 4 (Q_rm0 Z p1 vFALSE vUNDEFINED vINCONSISTENT vTRUE h0 n0) (T50.setTop (mkF m 62 #[.val (.int p1), .val (.int (1 : Int32)), .val (.int (0 : Int32)), .val (.int (1 : Int32)), .val (.ref b30), .unset] []))
    refine Run.go (fun _ k => XS.iloadN Xg50.here hx rfl (hb hby at_62) rfl  k) ?_
    show Run p e below s 1 4 (Q_rm0 Z p1 vFALSE vUNDEFINED vINCONSISTENT vTRUE h0 n0) (T50.setTop (mkF m 63 #[.val (.int p1), .val (.int (1 : Int32)), .val (.int (0 : Int32)), .val (.int (1 : Int32)), .val (.ref b30), .unset] [(.int (0 : Int32))]))
    refine Run.go (fun _ k => XS.iloadN Xg50.here hx rfl (hb hby at_63) rfl  k) ?_
    show Run p e below s 1 4 (Q_rm0 Z p1 vFALSE vUNDEFINED vINCONSISTENT vTRUE h0 n0) (T50.setTop (mkF m 64 #[.val (.int p1), .val (.int (1 : Int32)), .val (.int (0 : Int32)), .val (.int (1 : Int32)), .val (.ref b30), .unset] [(.int (1 : Int32)), (.int (0 : Int32))]))
    have fx53 := ((((fx32.wr W35).wr W40).wr W45).wr W50)
    have fx54 := (((fx37.wr W40).wr W45).wr W50)
    have fx55 := ((fx42.wr W45).wr W50)
    have fx56 := (fx47.wr W50)
    obtain ⟨_, _, ⟨T52, L52, k52, n52⟩, -, X52, ⟨Lc52, hQ52, l52, y52, z52⟩, st52⟩ := Jvm.LawKit.callS Xg50 hx (y := (⟨"com/example/nestor/nestor/TruthValue", "of", "(ZZ)Lcom/example/nestor/nestor/TruthValue;"⟩ : MethodName)) hown (mvT hZ (hw _ (List.mem_of_getElem? (i := 12) rfl))) (mvT hZ (hw _ (List.mem_of_getElem? (i := 13) rfl))) (mvT hZ (hw _ (List.mem_of_getElem? (i := 3) rfl))) (mvT hZ (hw _ (List.mem_of_getElem? (i := 14) rfl))) (by decide) (backOf (W := 0) (rm1_01 l Z a0 hw [] vFALSE vUNDEFINED vINCONSISTENT vTRUE h50 n0 Z50 fx53 fx54 fx55 fx56) hZ (hw _ (List.mem_of_getElem? (i := 14) rfl)) (hw _ (List.mem_of_getElem? (i := 3) rfl)) (by decide) (by decide)) (g := (mkF m 64 #[.val (.int p1), .val (.int (1 : Int32)), .val (.int (0 : Int32)), .val (.int (1 : Int32)), .val (.ref b30), .unset] [(.int (1 : Int32)), (.int (0 : Int32))])) rfl (by rw [hml]; rfl) (argsL := [(.int (0 : Int32)), (.int (1 : Int32))]) (rest := []) (lenOf pd_0 rfl) rfl (by show 2 * 0 + _ ≤ _; exact Nat.le_of_eq rfl) (hb hby at_64) (fun _ _ => ⟨rfl, e50, (by decide : 1 + 0 ≤ _), (by decide : 4 + 0 ≤ _)⟩)
    dsimp only [Pt.U, Pt.locs, Pt.cells, Pt.slots] at X52 l52 y52 z52 st52 hQ52
    subst l52 y52 z52
    obtain ⟨rfl, N52q, e52q⟩ := hQ52
    have N52 := Fr.app Ng50 N52q
    obtain ⟨Lg52, Xg52, Ng52⟩ := Stand_gen X52 N52
    refine Run.go st52 ?_
    show Run p e below s 1 4 (Q_rm0 Z p1 vFALSE vUNDEFINED vINCONSISTENT vTRUE h0 n0) (T52.setTop (mkF m 67 #[.val (.int p1), .val (.int (1 : Int32)), .val (.int (0 : Int32)), .val (.int (1 : Int32)), .val (.ref b30), .unset] [(.ref vUNDEFINED)]))
    refine Run.go (fun _ k => XS.astore Xg52.here hx rfl (hb hby at_67) rfl rfl (l' := #[.val (.int p1), .val (.int (1 : Int32)), .val (.int (0 : Int32)), .val (.int (1 : Int32)), .val (.ref b30), .val (.ref vUNDEFINED)]) rfl k) ?_
    show Run p e below s 1 4 (Q_rm0 Z p1 vFALSE vUNDEFINED vINCONSISTENT vTRUE h0 n0) (T52.setTop (mkF m 69 #[.val (.int p1), .val (.int (1 : Int32)), .val (.int (0 : Int32)), .val (.int (1 : Int32)), .val (.ref b30), .val (.ref vUNDEFINED)] []))
    refine Run.go (fun _ k => XS.aload Xg52.here hx rfl (hb hby at_69) rfl rfl k) ?_
    show Run p e below s 1 4 (Q_rm0 Z p1 vFALSE vUNDEFINED vINCONSISTENT vTRUE h0 n0) (T52.setTop (mkF m 71 #[.val (.int p1), .val (.int (1 : Int32)), .val (.int (0 : Int32)), .val (.int (1 : Int32)), .val (.ref b30), .val (.ref vUNDEFINED)] [(.ref vUNDEFINED)]))
    refine Run.go (fun _ k => XS.aload Xg52.here hx rfl (hb hby at_71) rfl rfl k) ?_
    show Run p e below s 1 4 (Q_rm0 Z p1 vFALSE vUNDEFINED vINCONSISTENT vTRUE h0 n0) (T52.setTop (mkF m 73 #[.val (.int p1), .val (.int (1 : Int32)), .val (.int (0 : Int32)), .val (.int (1 : Int32)), .val (.ref b30), .val (.ref vUNDEFINED)] [(.ref b30), (.ref vUNDEFINED)]))
    refine Run.go (fun _ k => XS.iloadN Xg52.here hx rfl (hb hby at_73) rfl  k) ?_
    show Run p e below s 1 4 (Q_rm0 Z p1 vFALSE vUNDEFINED vINCONSISTENT vTRUE h0 n0) (T52.setTop (mkF m 74 #[.val (.int p1), .val (.int (1 : Int32)), .val (.int (0 : Int32)), .val (.int (1 : Int32)), .val (.ref b30), .val (.ref vUNDEFINED)] [(.int (1 : Int32)), (.ref b30), (.ref vUNDEFINED)]))
    refine Run.go (fun _ k => ary_aget Xg52 hx hZ e52q fx51.ary rfl (by decide) (by decide) (g := (mkF m 74 #[.val (.int p1), .val (.int (1 : Int32)), .val (.int (0 : Int32)), .val (.int (1 : Int32)), .val (.ref b30), .val (.ref vUNDEFINED)] [(.int (1 : Int32)), (.ref b30), (.ref vUNDEFINED)])) rfl rfl (hb hby at_74) rfl _ k) ?_
    show Run p e below s 1 4 (Q_rm0 Z p1 vFALSE vUNDEFINED vINCONSISTENT vTRUE h0 n0) (T52.setTop (mkF m 75 #[.val (.int p1), .val (.int (1 : Int32)), .val (.int (0 : Int32)), .val (.int (1 : Int32)), .val (.ref b30), .val (.ref vUNDEFINED)] [(.ref vUNDEFINED), (.ref vUNDEFINED)]))
    refine Run.go (fun _ k => Jvm.RoadKit.acmp (g := (mkF m 75 #[.val (.int p1), .val (.int (1 : Int32)), .val (.int (0 : Int32)), .val (.int (1 : Int32)), .val (.ref b30), .val (.ref vUNDEFINED)] [(.ref vUNDEFINED), (.ref vUNDEFINED)])) Xg52 hx rfl rfl rfl (pc0 := 75) (pc' := 78) (same := true) rfl (hb hby at_75) rfl (decide_eq_true rfl) (by decide) (by decide) k) ?_
    show Run p e below s 1 4 (Q_rm0 Z p1 vFALSE vUNDEFINED vINCONSISTENT vTRUE h0 n0) (T52.setTop (mkF m 78 #[.val (.int p1), .val (.int (1 : Int32)), .val (.int (0 : Int32)), .val (.int (1 : Int32)), .val (.ref b30), .val (.ref vUNDEFINED)] []))
    refine Run.go (fun _ k => XS.iconst Xg52.here hx rfl (hb hby at_78) k) ?_
    show Run p e below s 1 4 (Q_rm0 Z p1 vFALSE vUNDEFINED vINCONSISTENT vTRUE h0 n0) (T52.setTop (mkF m 79 #[.val (.int p1), .val (.int (1 : Int32)), .val (.int (0 : Int32)), .val (.int (1 : Int32)), .val (.ref b30), .val (.ref vUNDEFINED)] [(.int (1 : Int32))]))
    refine Run.go (fun _ k => XS.goto Xg52.here hx rfl (pc0 := 79) (pc' := 83) rfl (hb hby at_79) (by decide) (by decide) k) ?_
    show Run p e below s 1 4 (Q_rm0 Z p1 vFALSE vUNDEFINED vINCONSISTENT vTRUE h0 n0) (T52.setTop (mkF m 83 #[.val (.int p1), .val (.int (1 : Int32)), .val (.int (0 : Int32)), .val (.int (1 : Int32)), .val (.ref b30), .val (.ref vUNDEFINED)] [(.int (1 : Int32))]))
    exact Run.retN (y := 1) Xg52 hx (t := .boolean) Bd.returns (by simp) rfl Bd.notSynchronized (hb hby at_83) (by decide) (by decide) ⟨rfl, Ng52⟩
  · rw [hk2]
    show Run p e below s 1 4 (Q_rm0 Z p1 vFALSE vUNDEFINED vINCONSISTENT vTRUE h0 n0) (s₁.setTop (mkF m 4 #[.val (.int p1), .val (.int (2 : Int32)), .unset, .unset, .unset, .unset] []))
    refine Run.go (fun _ k => XS.iloadN X0.here hx rfl (hb hby at_4) rfl  k) ?_
    show Run p e below s 1 4 (Q_rm0 Z p1 vFALSE vUNDEFINED vINCONSISTENT vTRUE h0 n0) (s₁.setTop (mkF m 5 #[.val (.int p1), .val (.int (2 : Int32)), .unset, .unset, .unset, .unset] [(.int (2 : Int32))]))
    refine Run.go (fun _ k => XS.iconst X0.here hx rfl (hb hby at_5) k) ?_
    show Run p e below s 1 4 (Q_rm0 Z p1 vFALSE vUNDEFINED vINCONSISTENT vTRUE h0 n0) (s₁.setTop (mkF m 6 #[.val (.int p1), .val (.int (2 : Int32)), .unset, .unset, .unset, .unset] [(.int (2 : Int32)), (.int (2 : Int32))]))
    refine Run.go (fun _ k => XS.iand X0.here hx rfl (hb hby at_6) rfl k) ?_
    show Run p e below s 1 4 (Q_rm0 Z p1 vFALSE vUNDEFINED vINCONSISTENT vTRUE h0 n0) (s₁.setTop (mkF m 7 #[.val (.int p1), .val (.int (2 : Int32)), .unset, .unset, .unset, .unset] [(.int (2 : Int32))]))
    refine Run.go (fun _ k => XS.ifNo X0.here hx rfl (hb hby at_7) rfl ((if0 _ _).trans (feq (by decide)).1) k) ?_
    show Run p e below s 1 4 (Q_rm0 Z p1 vFALSE vUNDEFINED vINCONSISTENT vTRUE h0 n0) (s₁.setTop (mkF m 10 #[.val (.int p1), .val (.int (2 : Int32)), .unset, .unset, .unset, .unset] []))
    refine Run.go (fun _ k => XS.iconst X0.here hx rfl (hb hby at_10) k) ?_
    show Run p e below s 1 4 (Q_rm0 Z p1 vFALSE vUNDEFINED vINCONSISTENT vTRUE h0 n0) (s₁.setTop (mkF m 11 #[.val (.int p1), .val (.int (2 : Int32)), .unset, .unset, .unset, .unset] [(.int (1 : Int32))]))
    refine Run.go (fun _ k => XS.goto X0.here hx rfl (pc0 := 11) (pc' := 15) rfl (hb hby at_11) (by decide) (by decide) k) ?_
    show Run p e below s 1 4 (Q_rm0 Z p1 vFALSE vUNDEFINED vINCONSISTENT vTRUE h0 n0) (s₁.setTop (mkF m 15 #[.val (.int p1), .val (.int (2 : Int32)), .unset, .unset, .unset, .unset] [(.int (1 : Int32))]))
    refine Run.go (fun _ k => XS.istoreN X0.here hx rfl (hb hby at_15) rfl (l' := #[.val (.int p1), .val (.int (2 : Int32)), .val (.int (1 : Int32)), .unset, .unset, .unset]) rfl k) ?_
    show Run p e below s 1 4 (Q_rm0 Z p1 vFALSE vUNDEFINED vINCONSISTENT vTRUE h0 n0) (s₁.setTop (mkF m 16 #[.val (.int p1), .val (.int (2 : Int32)), .val (.int (1 : Int32)), .unset, .unset, .unset] []))
    refine Run.go (fun _ k => XS.iloadN X0.here hx rfl (hb hby at_16) rfl  k) ?_
    show Run p e below s 1 4 (Q_rm0 Z p1 vFALSE vUNDEFINED vINCONSISTENT vTRUE h0 n0) (s₁.setTop (mkF m 17 #[.val (.int p1), .val (.int (2 : Int32)), .val (.int (1 : Int32)), .unset, .unset, .unset] [(.int (2 : Int32))]))
    refine Run.go (fun _ k => XS.iconst X0.here hx rfl (hb hby at_17) k) ?_
    show Run p e below s 1 4 (Q_rm0 Z p1 vFALSE vUNDEFINED vINCONSISTENT vTRUE h0 n0) (s₁.setTop (mkF m 18 #[.val (.int p1), .val (.int (2 : Int32)), .val (.int (1 : Int32)), .unset, .unset, .unset] [(.int (1 : Int32)), (.int (2 : Int32))]))
    refine Run.go (fun _ k => XS.iand X0.here hx rfl (hb hby at_18) rfl k) ?_
    show Run p e below s 1 4 (Q_rm0 Z p1 vFALSE vUNDEFINED vINCONSISTENT vTRUE h0 n0) (s₁.setTop (mkF m 19 #[.val (.int p1), .val (.int (2 : Int32)), .val (.int (1 : Int32)), .unset, .unset, .unset] [(.int (0 : Int32))]))
    refine Run.go (fun _ k => XS.ifYes X0.here hx rfl (pc0 := 19) (pc' := 26) rfl (hb hby at_19) rfl ((if0 _ _).trans (teq (rfl : (0 : Int32) = (0 : Int32))).1) (by decide) (by decide) k) ?_
    show Run p e below s 1 4 (Q_rm0 Z p1 vFALSE vUNDEFINED vINCONSISTENT vTRUE h0 n0) (s₁.setTop (mkF m 26 #[.val (.int p1), .val (.int (2 : Int32)), .val (.int (1 : Int32)), .unset, .unset, .unset] []))
    refine Run.go (fun _ k => XS.iconst X0.here hx rfl (hb hby at_26) k) ?_
    show Run p e below s 1 4 (Q_rm0 Z p1 vFALSE vUNDEFINED vINCONSISTENT vTRUE h0 n0) (s₁.setTop (mkF m 27 #[.val (.int p1), .val (.int (2 : Int32)), .val (.int (1 : Int32)), .unset, .unset, .unset] [(.int (0 : Int32))]))
    refine Run.go (fun _ k => XS.istoreN X0.here hx rfl (hb hby at_27) rfl (l' := #[.val (.int p1), .val (.int (2 : Int32)), .val (.int (1 : Int32)), .val (.int (0 : Int32)), .unset, .unset]) rfl k) ?_
    show Run p e below s 1 4 (Q_rm0 Z p1 vFALSE vUNDEFINED vINCONSISTENT vTRUE h0 n0) (s₁.setTop (mkF m 28 #[.val (.int p1), .val (.int (2 : Int32)), .val (.int (1 : Int32)), .val (.int (0 : Int32)), .unset, .unset] []))
    refine Run.go (fun _ k => XS.iconst X0.here hx rfl (hb hby at_28) k) ?_
    show Run p e below s 1 4 (Q_rm0 Z p1 vFALSE vUNDEFINED vINCONSISTENT vTRUE h0 n0) (s₁.setTop (mkF m 29 #[.val (.int p1), .val (.int (2 : Int32)), .val (.int (1 : Int32)), .val (.int (0 : Int32)), .unset, .unset] [(.int (4 : Int32))]))
    obtain ⟨T57, h57, k57, X57, e57, E57, A57, O57, st57⟩ := newR X0 hx hZ hown (hw _ (List.mem_of_getElem? (i := 0) rfl)) (hw _ (List.mem_of_getElem? (i := 1) rfl)) e0 (g := (mkF m 29 #[.val (.int p1), .val (.int (2 : Int32)), .val (.int (1 : Int32)), .val (.int (0 : Int32)), .unset, .unset] [(.int (4 : Int32))])) rfl (hb hby at_29) rfl (by decide) (cap := 4) (by decide) (by decide) (by decide) (by decide)
    obtain ⟨b57, g57⟩ : ∃ z, z = h0.size := ⟨_, rfl⟩
    rw [← g57] at A57 st57
    have g_b57 : n0 ≤ b57 := Nat.le_trans Z0 (Nat.le_of_eq g57.symm)
    have Z57 : n0 ≤ h57.size := Nat.le_trans Z0 E57.1
    have ne_vFALSE_b57 : vFALSE ≠ b57 := Nat.ne_of_lt (Nat.lt_of_lt_of_le E_vFALSE.lt (Nat.le_of_eq g57.symm))
    have ne_vUNDEFINED_b57 : vUNDEFINED ≠ b57 := Nat.ne_of_lt (Nat.lt_of_lt_of_le E_vUNDEFINED.lt (Nat.le_of_eq g57.symm))
    have ne_vINCONSISTENT_b57 : vINCONSISTENT ≠ b57 := Nat.ne_of_lt (Nat.lt_of_lt_of_le E_vINCONSISTENT.lt (Nat.le_of_eq g57.symm))
    have ne_vTRUE_b57 : vTRUE ≠ b57 := Nat.ne_of_lt (Nat.lt_of_lt_of_le E_vTRUE.lt (Nat.le_of_eq g57.symm))
    have fx58 : ArR Z h57 b57 "com/example/nestor/nestor/TruthValue" 4 (fun _ => .null) := ArR.new A57 O57 (by decide)
    refine Run.go st57 ?_
    show Run p e below s 1 4 (Q_rm0 Z p1 vFALSE vUNDEFINED vINCONSISTENT vTRUE h0 n0) (T57.setTop (mkF m 32 #[.val (.int p1), .val (.int (2 : Int32)), .val (.int (1 : Int32)), .val (.int (0 : Int32)), .unset, .unset] [(.ref b57)]))
    refine Run.go (fun _ k => XS.astore X57.here hx rfl (hb hby at_32) rfl rfl (l' := #[.val (.int p1), .val (.int (2 : Int32)), .val (.int (1 : Int32)), .val (.int (0 : Int32)), .val (.ref b57), .unset]) rfl k) ?_
    show Run p e below s 1 4 (Q_rm0 Z p1 vFALSE vUNDEFINED vINCONSISTENT vTRUE h0 n0) (T57.setTop (mkF m 34 #[.val (.int p1), .val (.int (2 : Int32)), .val (.int (1 : Int32)), .val (.int (0 : Int32)), .val (.ref b57), .unset] []))
    refine Run.go (fun _ k => XS.aload X57.here hx rfl (hb hby at_34) rfl rfl k) ?_
    show Run p e below s 1 4 (Q_rm0 Z p1 vFALSE vUNDEFINED vINCONSISTENT vTRUE h0 n0) (T57.setTop (mkF m 36 #[.val (.int p1), .val (.int (2 : Int32)), .val (.int (1 : Int32)), .val (.int (0 : Int32)), .val (.ref b57), .unset] [(.ref b57)]))
    refine Run.go (fun _ k => XS.iconst X57.here hx rfl (hb hby at_36) k) ?_
    show Run p e below s 1 4 (Q_rm0 Z p1 vFALSE vUNDEFINED vINCONSISTENT vTRUE h0 n0) (T57.setTop (mkF m 37 #[.val (.int p1), .val (.int (2 : Int32)), .val (.int (1 : Int32)), .val (.int (0 : Int32)), .val (.ref b57), .unset] [(.int (0 : Int32)), (.ref b57)]))
    have fx59 := (S_TruthValue_FALSE.ext E57)
    obtain ⟨T60, X60, e60, st60⟩ := getS2 X57 hx hZ hown (host := "") (Or.inl (hw _ (List.mem_of_getElem? (i := 2) rfl))) Via.refl e57 fx59 (g := (mkF m 37 #[.val (.int p1), .val (.int (2 : Int32)), .val (.int (1 : Int32)), .val (.int (0 : Int32)), .val (.ref b57), .unset] [(.int (0 : Int32)), (.ref b57)])) rfl (hb hby at_37)
    refine Run.go st60 ?_
    show Run p e below s 1 4 (Q_rm0 Z p1 vFALSE vUNDEFINED vINCONSISTENT vTRUE h0 n0) (T60.setTop (mkF m 40 #[.val (.int p1), .val (.int (2 : Int32)), .val (.int (1 : Int32)), .val (.int (0 : Int32)), .val (.ref b57), .unset] [(.ref vFALSE), (.int (0 : Int32)), (.ref b57)]))
    have fx61 := (E_vFALSE.ext E57)
    obtain ⟨T62, h62, X62, e62, W62, st62⟩ := arr_set X60 hx hZ e60 fx58 (Ins.self fx61) (by decide) (by decide) (g := (mkF m 40 #[.val (.int p1), .val (.int (2 : Int32)), .val (.int (1 : Int32)), .val (.int (0 : Int32)), .val (.ref b57), .unset] [(.ref vFALSE), (.int (0 : Int32)), (.ref b57)])) rfl rfl (hb hby at_40)
    have N62 := Fr.snoc X62 N0 g_b57
    have Z62 : n0 ≤ h62.size := Nat.le_trans Z57 (Keep.of_wr W62).1
    obtain ⟨Lg62, Xg62, Ng62⟩ := Stand_gen X62 N62
    have fx63 : ArR Z h62 b57 "com/example/nestor/nestor/TruthValue" 4 (fun i => if i = 0 then (.ref vFALSE) else (fun _ => .null) i) := fx58.same W62
    refine Run.go st62 ?_
    show Run p e below s 1 4 (Q_rm0 Z p1 vFALSE vUNDEFINED vINCONSISTENT vTRUE h0 n0) (T62.setTop (mkF m 41 #[.val (.int p1), .val (.int (2 : Int32)), .val (.int (1 : Int32)), .val (.int (0 : Int32)), .val (.ref b57), .unset] []))
    refine Run.go (fun _ k => XS.aload Xg62.here hx rfl (hb hby at_41) rfl rfl k) ?_
    show Run p e below s 1 4 (Q_rm0 Z p1 vFALSE vUNDEFINED vINCONSISTENT vTRUE h0 n0) (T62.setTop (mkF m 43 #[.val (.int p1), .val (.int (2 : Int32)), .val (.int (1 : Int32)), .val (.int (0 : Int32)), .val (.ref b57), .unset] [(.ref b57)]))
    refine Run.go (fun _ k => XS.iconst Xg62.here hx rfl (hb hby at_43) k) ?_
    show Run p e below s 1 4 (Q_rm0 Z p1 vFALSE vUNDEFINED vINCONSISTENT vTRUE h0 n0) (T62.setTop (mkF m 44 #[.val (.int p1), .val (.int (2 : Int32)), .val (.int (1 : Int32)), .val (.int (0 : Int32)), .val (.ref b57), .unset] [(.int (1 : Int32)), (.ref b57)]))
    have fx64 := ((S_TruthValue_UNDEFINED.ext E57).wr W62)
    obtain ⟨T65, X65, e65, st65⟩ := getS2 Xg62 hx hZ hown (host := "") (Or.inl (hw _ (List.mem_of_getElem? (i := 6) rfl))) Via.refl e62 fx64 (g := (mkF m 44 #[.val (.int p1), .val (.int (2 : Int32)), .val (.int (1 : Int32)), .val (.int (0 : Int32)), .val (.ref b57), .unset] [(.int (1 : Int32)), (.ref b57)])) rfl (hb hby at_44)
    refine Run.go st65 ?_
    show Run p e below s 1 4 (Q_rm0 Z p1 vFALSE vUNDEFINED vINCONSISTENT vTRUE h0 n0) (T65.setTop (mkF m 47 #[.val (.int p1), .val (.int (2 : Int32)), .val (.int (1 : Int32)), .val (.int (0 : Int32)), .val (.ref b57), .unset] [(.ref vUNDEFINED), (.int (1 : Int32)), (.ref b57)]))
    have fx66 := ((E_vUNDEFINED.ext E57).wr W62)
    obtain ⟨T67, h67, X67, e67, W67, st67⟩ := arr_set X65 hx hZ e65 fx63 (Ins.self fx66) (by decide) (by decide) (g := (mkF m 47 #[.val (.int p1), .val (.int (2 : Int32)), .val (.int (1 : Int32)), .val (.int (0 : Int32)), .val (.ref b57), .unset] [(.ref vUNDEFINED), (.int (1 : Int32)), (.ref b57)])) rfl rfl (hb hby at_47)
    have N67 := Fr.snoc X67 Ng62 g_b57
    have Z67 : n0 ≤ h67.size := Nat.le_trans Z62 (Keep.of_wr W67).1
    obtain ⟨Lg67, Xg67, Ng67⟩ := Stand_gen X67 N67
    have fx68 : ArR Z h67 b57 "com/example/nestor/nestor/TruthValue" 4 (fun i => if i = 1 then (.ref vUNDEFINED) else (fun i => if i = 0 then (.ref vFALSE) else (fun _ => .null) i) i) := fx63.same W67
    refine Run.go st67 ?_
    show Run p e below s 1 4 (Q_rm0 Z p1 vFALSE vUNDEFINED vINCONSISTENT vTRUE h0 n0) (T67.setTop (mkF m 48 #[.val (.int p1), .val (.int (2 : Int32)), .val (.int (1 : Int32)), .val (.int (0 : Int32)), .val (.ref b57), .unset] []))
    refine Run.go (fun _ k => XS.aload Xg67.here hx rfl (hb hby at_48) rfl rfl k) ?_
    show Run p e below s 1 4 (Q_rm0 Z p1 vFALSE vUNDEFINED vINCONSISTENT vTRUE h0 n0) (T67.setTop (mkF m 50 #[.val (.int p1), .val (.int (2 : Int32)), .val (.int (1 : Int32)), .val (.int (0 : Int32)), .val (.ref b57), .unset] [(.ref b57)]))
    refine Run.go (fun _ k => XS.iconst Xg67.here hx rfl (hb hby at_50) k) ?_
    show Run p e below s 1 4 (Q_rm0 Z p1 vFALSE vUNDEFINED vINCONSISTENT vTRUE h0 n0) (T67.setTop (mkF m 51 #[.val (.int p1), .val (.int (2 : Int32)), .val (.int (1 : Int32)), .val (.int (0 : Int32)), .val (.ref b57), .unset] [(.int (2 : Int32)), (.ref b57)]))
    have fx69 := (((S_TruthValue_INCONSISTENT.ext E57).wr W62).wr W67)
    obtain ⟨T70, X70, e70, st70⟩ := getS2 Xg67 hx hZ hown (host := "") (Or.inl (hw _ (List.mem_of_getElem? (i := 8) rfl))) Via.refl e67 fx69 (g := (mkF m 51 #[.val (.int p1), .val (.int (2 : Int32)), .val (.int (1 : Int32)), .val (.int (0 : Int32)), .val (.ref b57), .unset] [(.int (2 : Int32)), (.ref b57)])) rfl (hb hby at_51)
    refine Run.go st70 ?_
    show Run p e below s 1 4 (Q_rm0 Z p1 vFALSE vUNDEFINED vINCONSISTENT vTRUE h0 n0) (T70.setTop (mkF m 54 #[.val (.int p1), .val (.int (2 : Int32)), .val (.int (1 : Int32)), .val (.int (0 : Int32)), .val (.ref b57), .unset] [(.ref vINCONSISTENT), (.int (2 : Int32)), (.ref b57)]))
    have fx71 := (((E_vINCONSISTENT.ext E57).wr W62).wr W67)
    obtain ⟨T72, h72, X72, e72, W72, st72⟩ := arr_set X70 hx hZ e70 fx68 (Ins.self fx71) (by decide) (by decide) (g := (mkF m 54 #[.val (.int p1), .val (.int (2 : Int32)), .val (.int (1 : Int32)), .val (.int (0 : Int32)), .val (.ref b57), .unset] [(.ref vINCONSISTENT), (.int (2 : Int32)), (.ref b57)])) rfl rfl (hb hby at_54)
    have N72 := Fr.snoc X72 Ng67 g_b57
    have Z72 : n0 ≤ h72.size := Nat.le_trans Z67 (Keep.of_wr W72).1
    obtain ⟨Lg72, Xg72, Ng72⟩ := Stand_gen X72 N72
    have fx73 : ArR Z h72 b57 "com/example/nestor/nestor/TruthValue" 4 (fun i => if i = 2 then (.ref vINCONSISTENT) else (fun i => if i = 1 then (.ref vUNDEFINED) else (fun i => if i = 0 then (.ref vFALSE) else (fun _ => .null) i) i) i) := fx68.same W72
    refine Run.go st72 ?_
    show Run p e below s 1 4 (Q_rm0 Z p1 vFALSE vUNDEFINED vINCONSISTENT vTRUE h0 n0) (T72.setTop (mkF m 55 #[.val (.int p1), .val (.int (2 : Int32)), .val (.int (1 : Int32)), .val (.int (0 : Int32)), .val (.ref b57), .unset] []))
    refine Run.go (fun _ k => XS.aload Xg72.here hx rfl (hb hby at_55) rfl rfl k) ?_
    show Run p e below s 1 4 (Q_rm0 Z p1 vFALSE vUNDEFINED vINCONSISTENT vTRUE h0 n0) (T72.setTop (mkF m 57 #[.val (.int p1), .val (.int (2 : Int32)), .val (.int (1 : Int32)), .val (.int (0 : Int32)), .val (.ref b57), .unset] [(.ref b57)]))
    refine Run.go (fun _ k => XS.iconst Xg72.here hx rfl (hb hby at_57) k) ?_
    show Run p e below s 1 4 (Q_rm0 Z p1 vFALSE vUNDEFINED vINCONSISTENT vTRUE h0 n0) (T72.setTop (mkF m 58 #[.val (.int p1), .val (.int (2 : Int32)), .val (.int (1 : Int32)), .val (.int (0 : Int32)), .val (.ref b57), .unset] [(.int (3 : Int32)), (.ref b57)]))
    have fx74 := ((((S_TruthValue_TRUE.ext E57).wr W62).wr W67).wr W72)
    obtain ⟨T75, X75, e75, st75⟩ := getS2 Xg72 hx hZ hown (host := "") (Or.inl (hw _ (List.mem_of_getElem? (i := 10) rfl))) Via.refl e72 fx74 (g := (mkF m 58 #[.val (.int p1), .val (.int (2 : Int32)), .val (.int (1 : Int32)), .val (.int (0 : Int32)), .val (.ref b57), .unset] [(.int (3 : Int32)), (.ref b57)])) rfl (hb hby at_58)
    refine Run.go st75 ?_
    show Run p e below s 1 4 (Q_rm0 Z p1 vFALSE vUNDEFINED vINCONSISTENT vTRUE h0 n0) (T75.setTop (mkF m 61 #[.val (.int p1), .val (.int (2 : Int32)), .val (.int (1 : Int32)), .val (.int (0 : Int32)), .val (.ref b57), .unset] [(.ref vTRUE), (.int (3 : Int32)), (.ref b57)]))
    have fx76 := ((((E_vTRUE.ext E57).wr W62).wr W67).wr W72)
    obtain ⟨T77, h77, X77, e77, W77, st77⟩ := arr_set X75 hx hZ e75 fx73 (Ins.self fx76) (by decide) (by decide) (g := (mkF m 61 #[.val (.int p1), .val (.int (2 : Int32)), .val (.int (1 : Int32)), .val (.int (0 : Int32)), .val (.ref b57), .unset] [(.ref vTRUE), (.int (3 : Int32)), (.ref b57)])) rfl rfl (hb hby at_61)
    have N77 := Fr.snoc X77 Ng72 g_b57
    have Z77 : n0 ≤ h77.size := Nat.le_trans Z72 (Keep.of_wr W77).1
    obtain ⟨Lg77, Xg77, Ng77⟩ := Stand_gen X77 N77
    have fx78 : ArR Z h77 b57 "com/example/nestor/nestor/TruthValue" 4 (fun i => if i = 3 then (.ref vTRUE) else (fun i => if i = 2 then (.ref vINCONSISTENT) else (fun i => if i = 1 then (.ref vUNDEFINED) else (fun i => if i = 0 then (.ref vFALSE) else (fun _ => .null) i) i) i) i) := fx73.same W77
    refine Run.go st77 ?_
    show Run p e below s 1 4 (Q_rm0 Z p1 vFALSE vUNDEFINED vINCONSISTENT vTRUE h0 n0) (T77.setTop (mkF m 62 #[.val (.int p1), .val (.int (2 : Int32)), .val (.int (1 : Int32)), .val (.int (0 : Int32)), .val (.ref b57), .unset] []))
    refine Run.go (fun _ k => XS.iloadN Xg77.here hx rfl (hb hby at_62) rfl  k) ?_
    show Run p e below s 1 4 (Q_rm0 Z p1 vFALSE vUNDEFINED vINCONSISTENT vTRUE h0 n0) (T77.setTop (mkF m 63 #[.val (.int p1), .val (.int (2 : Int32)), .val (.int (1 : Int32)), .val (.int (0 : Int32)), .val (.ref b57), .unset] [(.int (1 : Int32))]))
    refine Run.go (fun _ k => XS.iloadN Xg77.here hx rfl (hb hby at_63) rfl  k) ?_
    show Run p e below s 1 4 (Q_rm0 Z p1 vFALSE vUNDEFINED vINCONSISTENT vTRUE h0 n0) (T77.setTop (mkF m 64 #[.val (.int p1), .val (.int (2 : Int32)), .val (.int (1 : Int32)), .val (.int (0 : Int32)), .val (.ref b57), .unset] [(.int (0 : Int32)), (.int (1 : Int32))]))
    have fx80 := ((((fx59.wr W62).wr W67).wr W72).wr W77)
    have fx81 := (((fx64.wr W67).wr W72).wr W77)
    have fx82 := ((fx69.wr W72).wr W77)
    have fx83 := (fx74.wr W77)
    obtain ⟨_, _, ⟨T79, L79, k79, n79⟩, -, X79, ⟨Lc79, hQ79, l79, y79, z79⟩, st79⟩ := Jvm.LawKit.callS Xg77 hx (y := (⟨"com/example/nestor/nestor/TruthValue", "of", "(ZZ)Lcom/example/nestor/nestor/TruthValue;"⟩ : MethodName)) hown (mvT hZ (hw _ (List.mem_of_getElem? (i := 12) rfl))) (mvT hZ (hw _ (List.mem_of_getElem? (i := 13) rfl))) (mvT hZ (hw _ (List.mem_of_getElem? (i := 3) rfl))) (mvT hZ (hw _ (List.mem_of_getElem? (i := 14) rfl))) (by decide) (backOf (W := 0) (rm1_10 l Z a0 hw [] vFALSE vUNDEFINED vINCONSISTENT vTRUE h77 n0 Z77 fx80 fx81 fx82 fx83) hZ (hw _ (List.mem_of_getElem? (i := 14) rfl)) (hw _ (List.mem_of_getElem? (i := 3) rfl)) (by decide) (by decide)) (g := (mkF m 64 #[.val (.int p1), .val (.int (2 : Int32)), .val (.int (1 : Int32)), .val (.int (0 : Int32)), .val (.ref b57), .unset] [(.int (0 : Int32)), (.int (1 : Int32))])) rfl (by rw [hml]; rfl) (argsL := [(.int (1 : Int32)), (.int (0 : Int32))]) (rest := []) (lenOf pd_0 rfl) rfl (by show 2 * 0 + _ ≤ _; exact Nat.le_of_eq rfl) (hb hby at_64) (fun _ _ => ⟨rfl, e77, (by decide : 1 + 0 ≤ _), (by decide : 4 + 0 ≤ _)⟩)
    dsimp only [Pt.U, Pt.locs, Pt.cells, Pt.slots] at X79 l79 y79 z79 st79 hQ79
    subst l79 y79 z79
    obtain ⟨rfl, N79q, e79q⟩ := hQ79
    have N79 := Fr.app Ng77 N79q
    obtain ⟨Lg79, Xg79, Ng79⟩ := Stand_gen X79 N79
    refine Run.go st79 ?_
    show Run p e below s 1 4 (Q_rm0 Z p1 vFALSE vUNDEFINED vINCONSISTENT vTRUE h0 n0) (T79.setTop (mkF m 67 #[.val (.int p1), .val (.int (2 : Int32)), .val (.int (1 : Int32)), .val (.int (0 : Int32)), .val (.ref b57), .unset] [(.ref vINCONSISTENT)]))
    refine Run.go (fun _ k => XS.astore Xg79.here hx rfl (hb hby at_67) rfl rfl (l' := #[.val (.int p1), .val (.int (2 : Int32)), .val (.int (1 : Int32)), .val (.int (0 : Int32)), .val (.ref b57), .val (.ref vINCONSISTENT)]) rfl k) ?_
    show Run p e below s 1 4 (Q_rm0 Z p1 vFALSE vUNDEFINED vINCONSISTENT vTRUE h0 n0) (T79.setTop (mkF m 69 #[.val (.int p1), .val (.int (2 : Int32)), .val (.int (1 : Int32)), .val (.int (0 : Int32)), .val (.ref b57), .val (.ref vINCONSISTENT)] []))
    refine Run.go (fun _ k => XS.aload Xg79.here hx rfl (hb hby at_69) rfl rfl k) ?_
    show Run p e below s 1 4 (Q_rm0 Z p1 vFALSE vUNDEFINED vINCONSISTENT vTRUE h0 n0) (T79.setTop (mkF m 71 #[.val (.int p1), .val (.int (2 : Int32)), .val (.int (1 : Int32)), .val (.int (0 : Int32)), .val (.ref b57), .val (.ref vINCONSISTENT)] [(.ref vINCONSISTENT)]))
    refine Run.go (fun _ k => XS.aload Xg79.here hx rfl (hb hby at_71) rfl rfl k) ?_
    show Run p e below s 1 4 (Q_rm0 Z p1 vFALSE vUNDEFINED vINCONSISTENT vTRUE h0 n0) (T79.setTop (mkF m 73 #[.val (.int p1), .val (.int (2 : Int32)), .val (.int (1 : Int32)), .val (.int (0 : Int32)), .val (.ref b57), .val (.ref vINCONSISTENT)] [(.ref b57), (.ref vINCONSISTENT)]))
    refine Run.go (fun _ k => XS.iloadN Xg79.here hx rfl (hb hby at_73) rfl  k) ?_
    show Run p e below s 1 4 (Q_rm0 Z p1 vFALSE vUNDEFINED vINCONSISTENT vTRUE h0 n0) (T79.setTop (mkF m 74 #[.val (.int p1), .val (.int (2 : Int32)), .val (.int (1 : Int32)), .val (.int (0 : Int32)), .val (.ref b57), .val (.ref vINCONSISTENT)] [(.int (2 : Int32)), (.ref b57), (.ref vINCONSISTENT)]))
    refine Run.go (fun _ k => ary_aget Xg79 hx hZ e79q fx78.ary rfl (by decide) (by decide) (g := (mkF m 74 #[.val (.int p1), .val (.int (2 : Int32)), .val (.int (1 : Int32)), .val (.int (0 : Int32)), .val (.ref b57), .val (.ref vINCONSISTENT)] [(.int (2 : Int32)), (.ref b57), (.ref vINCONSISTENT)])) rfl rfl (hb hby at_74) rfl _ k) ?_
    show Run p e below s 1 4 (Q_rm0 Z p1 vFALSE vUNDEFINED vINCONSISTENT vTRUE h0 n0) (T79.setTop (mkF m 75 #[.val (.int p1), .val (.int (2 : Int32)), .val (.int (1 : Int32)), .val (.int (0 : Int32)), .val (.ref b57), .val (.ref vINCONSISTENT)] [(.ref vINCONSISTENT), (.ref vINCONSISTENT)]))
    refine Run.go (fun _ k => Jvm.RoadKit.acmp (g := (mkF m 75 #[.val (.int p1), .val (.int (2 : Int32)), .val (.int (1 : Int32)), .val (.int (0 : Int32)), .val (.ref b57), .val (.ref vINCONSISTENT)] [(.ref vINCONSISTENT), (.ref vINCONSISTENT)])) Xg79 hx rfl rfl rfl (pc0 := 75) (pc' := 78) (same := true) rfl (hb hby at_75) rfl (decide_eq_true rfl) (by decide) (by decide) k) ?_
    show Run p e below s 1 4 (Q_rm0 Z p1 vFALSE vUNDEFINED vINCONSISTENT vTRUE h0 n0) (T79.setTop (mkF m 78 #[.val (.int p1), .val (.int (2 : Int32)), .val (.int (1 : Int32)), .val (.int (0 : Int32)), .val (.ref b57), .val (.ref vINCONSISTENT)] []))
    refine Run.go (fun _ k => XS.iconst Xg79.here hx rfl (hb hby at_78) k) ?_
    show Run p e below s 1 4 (Q_rm0 Z p1 vFALSE vUNDEFINED vINCONSISTENT vTRUE h0 n0) (T79.setTop (mkF m 79 #[.val (.int p1), .val (.int (2 : Int32)), .val (.int (1 : Int32)), .val (.int (0 : Int32)), .val (.ref b57), .val (.ref vINCONSISTENT)] [(.int (1 : Int32))]))
    refine Run.go (fun _ k => XS.goto Xg79.here hx rfl (pc0 := 79) (pc' := 83) rfl (hb hby at_79) (by decide) (by decide) k) ?_
    show Run p e below s 1 4 (Q_rm0 Z p1 vFALSE vUNDEFINED vINCONSISTENT vTRUE h0 n0) (T79.setTop (mkF m 83 #[.val (.int p1), .val (.int (2 : Int32)), .val (.int (1 : Int32)), .val (.int (0 : Int32)), .val (.ref b57), .val (.ref vINCONSISTENT)] [(.int (1 : Int32))]))
    exact Run.retN (y := 1) Xg79 hx (t := .boolean) Bd.returns (by simp) rfl Bd.notSynchronized (hb hby at_83) (by decide) (by decide) ⟨rfl, Ng79⟩
  · rw [hk2]
    show Run p e below s 1 4 (Q_rm0 Z p1 vFALSE vUNDEFINED vINCONSISTENT vTRUE h0 n0) (s₁.setTop (mkF m 4 #[.val (.int p1), .val (.int (3 : Int32)), .unset, .unset, .unset, .unset] []))
    refine Run.go (fun _ k => XS.iloadN X0.here hx rfl (hb hby at_4) rfl  k) ?_
    show Run p e below s 1 4 (Q_rm0 Z p1 vFALSE vUNDEFINED vINCONSISTENT vTRUE h0 n0) (s₁.setTop (mkF m 5 #[.val (.int p1), .val (.int (3 : Int32)), .unset, .unset, .unset, .unset] [(.int (3 : Int32))]))
    refine Run.go (fun _ k => XS.iconst X0.here hx rfl (hb hby at_5) k) ?_
    show Run p e below s 1 4 (Q_rm0 Z p1 vFALSE vUNDEFINED vINCONSISTENT vTRUE h0 n0) (s₁.setTop (mkF m 6 #[.val (.int p1), .val (.int (3 : Int32)), .unset, .unset, .unset, .unset] [(.int (2 : Int32)), (.int (3 : Int32))]))
    refine Run.go (fun _ k => XS.iand X0.here hx rfl (hb hby at_6) rfl k) ?_
    show Run p e below s 1 4 (Q_rm0 Z p1 vFALSE vUNDEFINED vINCONSISTENT vTRUE h0 n0) (s₁.setTop (mkF m 7 #[.val (.int p1), .val (.int (3 : Int32)), .unset, .unset, .unset, .unset] [(.int (2 : Int32))]))
    refine Run.go (fun _ k => XS.ifNo X0.here hx rfl (hb hby at_7) rfl ((if0 _ _).trans (feq (by decide)).1) k) ?_
    show Run p e below s 1 4 (Q_rm0 Z p1 vFALSE vUNDEFINED vINCONSISTENT vTRUE h0 n0) (s₁.setTop (mkF m 10 #[.val (.int p1), .val (.int (3 : Int32)), .unset, .unset, .unset, .unset] []))
    refine Run.go (fun _ k => XS.iconst X0.here hx rfl (hb hby at_10) k) ?_
    show Run p e below s 1 4 (Q_rm0 Z p1 vFALSE vUNDEFINED vINCONSISTENT vTRUE h0 n0) (s₁.setTop (mkF m 11 #[.val (.int p1), .val (.int (3 : Int32)), .unset, .unset, .unset, .unset] [(.int (1 : Int32))]))
    refine Run.go (fun _ k => XS.goto X0.here hx rfl (pc0 := 11) (pc' := 15) rfl (hb hby at_11) (by decide) (by decide) k) ?_
    show Run p e below s 1 4 (Q_rm0 Z p1 vFALSE vUNDEFINED vINCONSISTENT vTRUE h0 n0) (s₁.setTop (mkF m 15 #[.val (.int p1), .val (.int (3 : Int32)), .unset, .unset, .unset, .unset] [(.int (1 : Int32))]))
    refine Run.go (fun _ k => XS.istoreN X0.here hx rfl (hb hby at_15) rfl (l' := #[.val (.int p1), .val (.int (3 : Int32)), .val (.int (1 : Int32)), .unset, .unset, .unset]) rfl k) ?_
    show Run p e below s 1 4 (Q_rm0 Z p1 vFALSE vUNDEFINED vINCONSISTENT vTRUE h0 n0) (s₁.setTop (mkF m 16 #[.val (.int p1), .val (.int (3 : Int32)), .val (.int (1 : Int32)), .unset, .unset, .unset] []))
    refine Run.go (fun _ k => XS.iloadN X0.here hx rfl (hb hby at_16) rfl  k) ?_
    show Run p e below s 1 4 (Q_rm0 Z p1 vFALSE vUNDEFINED vINCONSISTENT vTRUE h0 n0) (s₁.setTop (mkF m 17 #[.val (.int p1), .val (.int (3 : Int32)), .val (.int (1 : Int32)), .unset, .unset, .unset] [(.int (3 : Int32))]))
    refine Run.go (fun _ k => XS.iconst X0.here hx rfl (hb hby at_17) k) ?_
    show Run p e below s 1 4 (Q_rm0 Z p1 vFALSE vUNDEFINED vINCONSISTENT vTRUE h0 n0) (s₁.setTop (mkF m 18 #[.val (.int p1), .val (.int (3 : Int32)), .val (.int (1 : Int32)), .unset, .unset, .unset] [(.int (1 : Int32)), (.int (3 : Int32))]))
    refine Run.go (fun _ k => XS.iand X0.here hx rfl (hb hby at_18) rfl k) ?_
    show Run p e below s 1 4 (Q_rm0 Z p1 vFALSE vUNDEFINED vINCONSISTENT vTRUE h0 n0) (s₁.setTop (mkF m 19 #[.val (.int p1), .val (.int (3 : Int32)), .val (.int (1 : Int32)), .unset, .unset, .unset] [(.int (1 : Int32))]))
    refine Run.go (fun _ k => XS.ifNo X0.here hx rfl (hb hby at_19) rfl ((if0 _ _).trans (feq (by decide)).1) k) ?_
    show Run p e below s 1 4 (Q_rm0 Z p1 vFALSE vUNDEFINED vINCONSISTENT vTRUE h0 n0) (s₁.setTop (mkF m 22 #[.val (.int p1), .val (.int (3 : Int32)), .val (.int (1 : Int32)), .unset, .unset, .unset] []))
    refine Run.go (fun _ k => XS.iconst X0.here hx rfl (hb hby at_22) k) ?_
    show Run p e below s 1 4 (Q_rm0 Z p1 vFALSE vUNDEFINED vINCONSISTENT vTRUE h0 n0) (s₁.setTop (mkF m 23 #[.val (.int p1), .val (.int (3 : Int32)), .val (.int (1 : Int32)), .unset, .unset, .unset] [(.int (1 : Int32))]))
    refine Run.go (fun _ k => XS.goto X0.here hx rfl (pc0 := 23) (pc' := 27) rfl (hb hby at_23) (by decide) (by decide) k) ?_
    show Run p e below s 1 4 (Q_rm0 Z p1 vFALSE vUNDEFINED vINCONSISTENT vTRUE h0 n0) (s₁.setTop (mkF m 27 #[.val (.int p1), .val (.int (3 : Int32)), .val (.int (1 : Int32)), .unset, .unset, .unset] [(.int (1 : Int32))]))
    refine Run.go (fun _ k => XS.istoreN X0.here hx rfl (hb hby at_27) rfl (l' := #[.val (.int p1), .val (.int (3 : Int32)), .val (.int (1 : Int32)), .val (.int (1 : Int32)), .unset, .unset]) rfl k) ?_
    show Run p e below s 1 4 (Q_rm0 Z p1 vFALSE vUNDEFINED vINCONSISTENT vTRUE h0 n0) (s₁.setTop (mkF m 28 #[.val (.int p1), .val (.int (3 : Int32)), .val (.int (1 : Int32)), .val (.int (1 : Int32)), .unset, .unset] []))
    refine Run.go (fun _ k => XS.iconst X0.here hx rfl (hb hby at_28) k) ?_
    show Run p e below s 1 4 (Q_rm0 Z p1 vFALSE vUNDEFINED vINCONSISTENT vTRUE h0 n0) (s₁.setTop (mkF m 29 #[.val (.int p1), .val (.int (3 : Int32)), .val (.int (1 : Int32)), .val (.int (1 : Int32)), .unset, .unset] [(.int (4 : Int32))]))
    obtain ⟨T84, h84, k84, X84, e84, E84, A84, O84, st84⟩ := newR X0 hx hZ hown (hw _ (List.mem_of_getElem? (i := 0) rfl)) (hw _ (List.mem_of_getElem? (i := 1) rfl)) e0 (g := (mkF m 29 #[.val (.int p1), .val (.int (3 : Int32)), .val (.int (1 : Int32)), .val (.int (1 : Int32)), .unset, .unset] [(.int (4 : Int32))])) rfl (hb hby at_29) rfl (by decide) (cap := 4) (by decide) (by decide) (by decide) (by decide)
    obtain ⟨b84, g84⟩ : ∃ z, z = h0.size := ⟨_, rfl⟩
    rw [← g84] at A84 st84
    have g_b84 : n0 ≤ b84 := Nat.le_trans Z0 (Nat.le_of_eq g84.symm)
    have Z84 : n0 ≤ h84.size := Nat.le_trans Z0 E84.1
    have ne_vFALSE_b84 : vFALSE ≠ b84 := Nat.ne_of_lt (Nat.lt_of_lt_of_le E_vFALSE.lt (Nat.le_of_eq g84.symm))
    have ne_vUNDEFINED_b84 : vUNDEFINED ≠ b84 := Nat.ne_of_lt (Nat.lt_of_lt_of_le E_vUNDEFINED.lt (Nat.le_of_eq g84.symm))
    have ne_vINCONSISTENT_b84 : vINCONSISTENT ≠ b84 := Nat.ne_of_lt (Nat.lt_of_lt_of_le E_vINCONSISTENT.lt (Nat.le_of_eq g84.symm))
    have ne_vTRUE_b84 : vTRUE ≠ b84 := Nat.ne_of_lt (Nat.lt_of_lt_of_le E_vTRUE.lt (Nat.le_of_eq g84.symm))
    have fx85 : ArR Z h84 b84 "com/example/nestor/nestor/TruthValue" 4 (fun _ => .null) := ArR.new A84 O84 (by decide)
    refine Run.go st84 ?_
    show Run p e below s 1 4 (Q_rm0 Z p1 vFALSE vUNDEFINED vINCONSISTENT vTRUE h0 n0) (T84.setTop (mkF m 32 #[.val (.int p1), .val (.int (3 : Int32)), .val (.int (1 : Int32)), .val (.int (1 : Int32)), .unset, .unset] [(.ref b84)]))
    refine Run.go (fun _ k => XS.astore X84.here hx rfl (hb hby at_32) rfl rfl (l' := #[.val (.int p1), .val (.int (3 : Int32)), .val (.int (1 : Int32)), .val (.int (1 : Int32)), .val (.ref b84), .unset]) rfl k) ?_
    show Run p e below s 1 4 (Q_rm0 Z p1 vFALSE vUNDEFINED vINCONSISTENT vTRUE h0 n0) (T84.setTop (mkF m 34 #[.val (.int p1), .val (.int (3 : Int32)), .val (.int (1 : Int32)), .val (.int (1 : Int32)), .val (.ref b84), .unset] []))
    refine Run.go (fun _ k => XS.aload X84.here hx rfl (hb hby at_34) rfl rfl k) ?_
    show Run p e below s 1 4 (Q_rm0 Z p1 vFALSE vUNDEFINED vINCONSISTENT vTRUE h0 n0) (T84.setTop (mkF m 36 #[.val (.int p1), .val (.int (3 : Int32)), .val (.int (1 : Int32)), .val (.int (1 : Int32)), .val (.ref b84), .unset] [(.ref b84)]))
    refine Run.go (fun _ k => XS.iconst X84.here hx rfl (hb hby at_36) k) ?_
    show Run p e below s 1 4 (Q_rm0 Z p1 vFALSE vUNDEFINED vINCONSISTENT vTRUE h0 n0) (T84.setTop (mkF m 37 #[.val (.int p1), .val (.int (3 : Int32)), .val (.int (1 : Int32)), .val (.int (1 : Int32)), .val (.ref b84), .unset] [(.int (0 : Int32)), (.ref b84)]))
    have fx86 := (S_TruthValue_FALSE.ext E84)
    obtain ⟨T87, X87, e87, st87⟩ := getS2 X84 hx hZ hown (host := "") (Or.inl (hw _ (List.mem_of_getElem? (i := 2) rfl))) Via.refl e84 fx86 (g := (mkF m 37 #[.val (.int p1), .val (.int (3 : Int32)), .val (.int (1 : Int32)), .val (.int (1 : Int32)), .val (.ref b84), .unset] [(.int (0 : Int32)), (.ref b84)])) rfl (hb hby at_37)
    refine Run.go st87 ?_
    show Run p e below s 1 4 (Q_rm0 Z p1 vFALSE vUNDEFINED vINCONSISTENT vTRUE h0 n0) (T87.setTop (mkF m 40 #[.val (.int p1), .val (.int (3 : Int32)), .val (.int (1 : Int32)), .val (.int (1 : Int32)), .val (.ref b84), .unset] [(.ref vFALSE), (.int (0 : Int32)), (.ref b84)]))
    have fx88 := (E_vFALSE.ext E84)
    obtain ⟨T89, h89, X89, e89, W89, st89⟩ := arr_set X87 hx hZ e87 fx85 (Ins.self fx88) (by decide) (by decide) (g := (mkF m 40 #[.val (.int p1), .val (.int (3 : Int32)), .val (.int (1 : Int32)), .val (.int (1 : Int32)), .val (.ref b84), .unset] [(.ref vFALSE), (.int (0 : Int32)), (.ref b84)])) rfl rfl (hb hby at_40)
    have N89 := Fr.snoc X89 N0 g_b84
    have Z89 : n0 ≤ h89.size := Nat.le_trans Z84 (Keep.of_wr W89).1
    obtain ⟨Lg89, Xg89, Ng89⟩ := Stand_gen X89 N89
    have fx90 : ArR Z h89 b84 "com/example/nestor/nestor/TruthValue" 4 (fun i => if i = 0 then (.ref vFALSE) else (fun _ => .null) i) := fx85.same W89
    refine Run.go st89 ?_
    show Run p e below s 1 4 (Q_rm0 Z p1 vFALSE vUNDEFINED vINCONSISTENT vTRUE h0 n0) (T89.setTop (mkF m 41 #[.val (.int p1), .val (.int (3 : Int32)), .val (.int (1 : Int32)), .val (.int (1 : Int32)), .val (.ref b84), .unset] []))
    refine Run.go (fun _ k => XS.aload Xg89.here hx rfl (hb hby at_41) rfl rfl k) ?_
    show Run p e below s 1 4 (Q_rm0 Z p1 vFALSE vUNDEFINED vINCONSISTENT vTRUE h0 n0) (T89.setTop (mkF m 43 #[.val (.int p1), .val (.int (3 : Int32)), .val (.int (1 : Int32)), .val (.int (1 : Int32)), .val (.ref b84), .unset] [(.ref b84)]))
    refine Run.go (fun _ k => XS.iconst Xg89.here hx rfl (hb hby at_43) k) ?_
    show Run p e below s 1 4 (Q_rm0 Z p1 vFALSE vUNDEFINED vINCONSISTENT vTRUE h0 n0) (T89.setTop (mkF m 44 #[.val (.int p1), .val (.int (3 : Int32)), .val (.int (1 : Int32)), .val (.int (1 : Int32)), .val (.ref b84), .unset] [(.int (1 : Int32)), (.ref b84)]))
    have fx91 := ((S_TruthValue_UNDEFINED.ext E84).wr W89)
    obtain ⟨T92, X92, e92, st92⟩ := getS2 Xg89 hx hZ hown (host := "") (Or.inl (hw _ (List.mem_of_getElem? (i := 6) rfl))) Via.refl e89 fx91 (g := (mkF m 44 #[.val (.int p1), .val (.int (3 : Int32)), .val (.int (1 : Int32)), .val (.int (1 : Int32)), .val (.ref b84), .unset] [(.int (1 : Int32)), (.ref b84)])) rfl (hb hby at_44)
    refine Run.go st92 ?_
    show Run p e below s 1 4 (Q_rm0 Z p1 vFALSE vUNDEFINED vINCONSISTENT vTRUE h0 n0) (T92.setTop (mkF m 47 #[.val (.int p1), .val (.int (3 : Int32)), .val (.int (1 : Int32)), .val (.int (1 : Int32)), .val (.ref b84), .unset] [(.ref vUNDEFINED), (.int (1 : Int32)), (.ref b84)]))
    have fx93 := ((E_vUNDEFINED.ext E84).wr W89)
    obtain ⟨T94, h94, X94, e94, W94, st94⟩ := arr_set X92 hx hZ e92 fx90 (Ins.self fx93) (by decide) (by decide) (g := (mkF m 47 #[.val (.int p1), .val (.int (3 : Int32)), .val (.int (1 : Int32)), .val (.int (1 : Int32)), .val (.ref b84), .unset] [(.ref vUNDEFINED), (.int (1 : Int32)), (.ref b84)])) rfl rfl (hb hby at_47)
    have N94 := Fr.snoc X94 Ng89 g_b84
    have Z94 : n0 ≤ h94.size := Nat.le_trans Z89 (Keep.of_wr W94).1
    obtain ⟨Lg94, Xg94, Ng94⟩ := Stand_gen X94 N94
    have fx95 : ArR Z h94 b84 "com/example/nestor/nestor/TruthValue" 4 (fun i => if i = 1 then (.ref vUNDEFINED) else (fun i => if i = 0 then (.ref vFALSE) else (fun _ => .null) i) i) := fx90.same W94
    refine Run.go st94 ?_
    show Run p e below s 1 4 (Q_rm0 Z p1 vFALSE vUNDEFINED vINCONSISTENT vTRUE h0 n0) (T94.setTop (mkF m 48 #[.val (.int p1), .val (.int (3 : Int32)), .val (.int (1 : Int32)), .val (.int (1 : Int32)), .val (.ref b84), .unset] []))
    refine Run.go (fun _ k => XS.aload Xg94.here hx rfl (hb hby at_48) rfl rfl k) ?_
    show Run p e below s 1 4 (Q_rm0 Z p1 vFALSE vUNDEFINED vINCONSISTENT vTRUE h0 n0) (T94.setTop (mkF m 50 #[.val (.int p1), .val (.int (3 : Int32)), .val (.int (1 : Int32)), .val (.int (1 : Int32)), .val (.ref b84), .unset] [(.ref b84)]))
    refine Run.go (fun _ k => XS.iconst Xg94.here hx rfl (hb hby at_50) k) ?_
    show Run p e below s 1 4 (Q_rm0 Z p1 vFALSE vUNDEFINED vINCONSISTENT vTRUE h0 n0) (T94.setTop (mkF m 51 #[.val (.int p1), .val (.int (3 : Int32)), .val (.int (1 : Int32)), .val (.int (1 : Int32)), .val (.ref b84), .unset] [(.int (2 : Int32)), (.ref b84)]))
    have fx96 := (((S_TruthValue_INCONSISTENT.ext E84).wr W89).wr W94)
    obtain ⟨T97, X97, e97, st97⟩ := getS2 Xg94 hx hZ hown (host := "") (Or.inl (hw _ (List.mem_of_getElem? (i := 8) rfl))) Via.refl e94 fx96 (g := (mkF m 51 #[.val (.int p1), .val (.int (3 : Int32)), .val (.int (1 : Int32)), .val (.int (1 : Int32)), .val (.ref b84), .unset] [(.int (2 : Int32)), (.ref b84)])) rfl (hb hby at_51)
    refine Run.go st97 ?_
    show Run p e below s 1 4 (Q_rm0 Z p1 vFALSE vUNDEFINED vINCONSISTENT vTRUE h0 n0) (T97.setTop (mkF m 54 #[.val (.int p1), .val (.int (3 : Int32)), .val (.int (1 : Int32)), .val (.int (1 : Int32)), .val (.ref b84), .unset] [(.ref vINCONSISTENT), (.int (2 : Int32)), (.ref b84)]))
    have fx98 := (((E_vINCONSISTENT.ext E84).wr W89).wr W94)
    obtain ⟨T99, h99, X99, e99, W99, st99⟩ := arr_set X97 hx hZ e97 fx95 (Ins.self fx98) (by decide) (by decide) (g := (mkF m 54 #[.val (.int p1), .val (.int (3 : Int32)), .val (.int (1 : Int32)), .val (.int (1 : Int32)), .val (.ref b84), .unset] [(.ref vINCONSISTENT), (.int (2 : Int32)), (.ref b84)])) rfl rfl (hb hby at_54)
    have N99 := Fr.snoc X99 Ng94 g_b84
    have Z99 : n0 ≤ h99.size := Nat.le_trans Z94 (Keep.of_wr W99).1
    obtain ⟨Lg99, Xg99, Ng99⟩ := Stand_gen X99 N99
    have fx100 : ArR Z h99 b84 "com/example/nestor/nestor/TruthValue" 4 (fun i => if i = 2 then (.ref vINCONSISTENT) else (fun i => if i = 1 then (.ref vUNDEFINED) else (fun i => if i = 0 then (.ref vFALSE) else (fun _ => .null) i) i) i) := fx95.same W99
    refine Run.go st99 ?_
    show Run p e below s 1 4 (Q_rm0 Z p1 vFALSE vUNDEFINED vINCONSISTENT vTRUE h0 n0) (T99.setTop (mkF m 55 #[.val (.int p1), .val (.int (3 : Int32)), .val (.int (1 : Int32)), .val (.int (1 : Int32)), .val (.ref b84), .unset] []))
    refine Run.go (fun _ k => XS.aload Xg99.here hx rfl (hb hby at_55) rfl rfl k) ?_
    show Run p e below s 1 4 (Q_rm0 Z p1 vFALSE vUNDEFINED vINCONSISTENT vTRUE h0 n0) (T99.setTop (mkF m 57 #[.val (.int p1), .val (.int (3 : Int32)), .val (.int (1 : Int32)), .val (.int (1 : Int32)), .val (.ref b84), .unset] [(.ref b84)]))
    refine Run.go (fun _ k => XS.iconst Xg99.here hx rfl (hb hby at_57) k) ?_
    show Run p e below s 1 4 (Q_rm0 Z p1 vFALSE vUNDEFINED vINCONSISTENT vTRUE h0 n0) (T99.setTop (mkF m 58 #[.val (.int p1), .val (.int (3 : Int32)), .val (.int (1 : Int32)), .val (.int (1 : Int32)), .val (.ref b84), .unset] [(.int (3 : Int32)), (.ref b84)]))
    have fx101 := ((((S_TruthValue_TRUE.ext E84).wr W89).wr W94).wr W99)
    obtain ⟨T102, X102, e102, st102⟩ := getS2 Xg99 hx hZ hown (host := "") (Or.inl (hw _ (List.mem_of_getElem? (i := 10) rfl))) Via.refl e99 fx101 (g := (mkF m 58 #[.val (.int p1), .val (.int (3 : Int32)), .val (.int (1 : Int32)), .val (.int (1 : Int32)), .val (.ref b84), .unset] [(.int (3 : Int32)), (.ref b84)])) rfl (hb hby at_58)
    refine Run.go st102 ?_
    show Run p e below s 1 4 (Q_rm0 Z p1 vFALSE vUNDEFINED vINCONSISTENT vTRUE h0 n0) (T102.setTop (mkF m 61 #[.val (.int p1), .val (.int (3 : Int32)), .val (.int (1 : Int32)), .val (.int (1 : Int32)), .val (.ref b84), .unset] [(.ref vTRUE), (.int (3 : Int32)), (.ref b84)]))
    have fx103 := ((((E_vTRUE.ext E84).wr W89).wr W94).wr W99)
    obtain ⟨T104, h104, X104, e104, W104, st104⟩ := arr_set X102 hx hZ e102 fx100 (Ins.self fx103) (by decide) (by decide) (g := (mkF m 61 #[.val (.int p1), .val (.int (3 : Int32)), .val (.int (1 : Int32)), .val (.int (1 : Int32)), .val (.ref b84), .unset] [(.ref vTRUE), (.int (3 : Int32)), (.ref b84)])) rfl rfl (hb hby at_61)
    have N104 := Fr.snoc X104 Ng99 g_b84
    have Z104 : n0 ≤ h104.size := Nat.le_trans Z99 (Keep.of_wr W104).1
    obtain ⟨Lg104, Xg104, Ng104⟩ := Stand_gen X104 N104
    have fx105 : ArR Z h104 b84 "com/example/nestor/nestor/TruthValue" 4 (fun i => if i = 3 then (.ref vTRUE) else (fun i => if i = 2 then (.ref vINCONSISTENT) else (fun i => if i = 1 then (.ref vUNDEFINED) else (fun i => if i = 0 then (.ref vFALSE) else (fun _ => .null) i) i) i) i) := fx100.same W104
    refine Run.go st104 ?_
    show Run p e below s 1 4 (Q_rm0 Z p1 vFALSE vUNDEFINED vINCONSISTENT vTRUE h0 n0) (T104.setTop (mkF m 62 #[.val (.int p1), .val (.int (3 : Int32)), .val (.int (1 : Int32)), .val (.int (1 : Int32)), .val (.ref b84), .unset] []))
    refine Run.go (fun _ k => XS.iloadN Xg104.here hx rfl (hb hby at_62) rfl  k) ?_
    show Run p e below s 1 4 (Q_rm0 Z p1 vFALSE vUNDEFINED vINCONSISTENT vTRUE h0 n0) (T104.setTop (mkF m 63 #[.val (.int p1), .val (.int (3 : Int32)), .val (.int (1 : Int32)), .val (.int (1 : Int32)), .val (.ref b84), .unset] [(.int (1 : Int32))]))
    refine Run.go (fun _ k => XS.iloadN Xg104.here hx rfl (hb hby at_63) rfl  k) ?_
    show Run p e below s 1 4 (Q_rm0 Z p1 vFALSE vUNDEFINED vINCONSISTENT vTRUE h0 n0) (T104.setTop (mkF m 64 #[.val (.int p1), .val (.int (3 : Int32)), .val (.int (1 : Int32)), .val (.int (1 : Int32)), .val (.ref b84), .unset] [(.int (1 : Int32)), (.int (1 : Int32))]))
    have fx107 := ((((fx86.wr W89).wr W94).wr W99).wr W104)
    have fx108 := (((fx91.wr W94).wr W99).wr W104)
    have fx109 := ((fx96.wr W99).wr W104)
    have fx110 := (fx101.wr W104)
    obtain ⟨_, _, ⟨T106, L106, k106, n106⟩, -, X106, ⟨Lc106, hQ106, l106, y106, z106⟩, st106⟩ := Jvm.LawKit.callS Xg104 hx (y := (⟨"com/example/nestor/nestor/TruthValue", "of", "(ZZ)Lcom/example/nestor/nestor/TruthValue;"⟩ : MethodName)) hown (mvT hZ (hw _ (List.mem_of_getElem? (i := 12) rfl))) (mvT hZ (hw _ (List.mem_of_getElem? (i := 13) rfl))) (mvT hZ (hw _ (List.mem_of_getElem? (i := 3) rfl))) (mvT hZ (hw _ (List.mem_of_getElem? (i := 14) rfl))) (by decide) (backOf (W := 0) (rm1_11 l Z a0 hw [] vFALSE vUNDEFINED vINCONSISTENT vTRUE h104 n0 Z104 fx107 fx108 fx109 fx110) hZ (hw _ (List.mem_of_getElem? (i := 14) rfl)) (hw _ (List.mem_of_getElem? (i := 3) rfl)) (by decide) (by decide)) (g := (mkF m 64 #[.val (.int p1), .val (.int (3 : Int32)), .val (.int (1 : Int32)), .val (.int (1 : Int32)), .val (.ref b84), .unset] [(.int (1 : Int32)), (.int (1 : Int32))])) rfl (by rw [hml]; rfl) (argsL := [(.int (1 : Int32)), (.int (1 : Int32))]) (rest := []) (lenOf pd_0 rfl) rfl (by show 2 * 0 + _ ≤ _; exact Nat.le_of_eq rfl) (hb hby at_64) (fun _ _ => ⟨rfl, e104, (by decide : 1 + 0 ≤ _), (by decide : 4 + 0 ≤ _)⟩)
    dsimp only [Pt.U, Pt.locs, Pt.cells, Pt.slots] at X106 l106 y106 z106 st106 hQ106
    subst l106 y106 z106
    obtain ⟨rfl, N106q, e106q⟩ := hQ106
    have N106 := Fr.app Ng104 N106q
    obtain ⟨Lg106, Xg106, Ng106⟩ := Stand_gen X106 N106
    refine Run.go st106 ?_
    show Run p e below s 1 4 (Q_rm0 Z p1 vFALSE vUNDEFINED vINCONSISTENT vTRUE h0 n0) (T106.setTop (mkF m 67 #[.val (.int p1), .val (.int (3 : Int32)), .val (.int (1 : Int32)), .val (.int (1 : Int32)), .val (.ref b84), .unset] [(.ref vTRUE)]))
    refine Run.go (fun _ k => XS.astore Xg106.here hx rfl (hb hby at_67) rfl rfl (l' := #[.val (.int p1), .val (.int (3 : Int32)), .val (.int (1 : Int32)), .val (.int (1 : Int32)), .val (.ref b84), .val (.ref vTRUE)]) rfl k) ?_
    show Run p e below s 1 4 (Q_rm0 Z p1 vFALSE vUNDEFINED vINCONSISTENT vTRUE h0 n0) (T106.setTop (mkF m 69 #[.val (.int p1), .val (.int (3 : Int32)), .val (.int (1 : Int32)), .val (.int (1 : Int32)), .val (.ref b84), .val (.ref vTRUE)] []))
    refine Run.go (fun _ k => XS.aload Xg106.here hx rfl (hb hby at_69) rfl rfl k) ?_
    show Run p e below s 1 4 (Q_rm0 Z p1 vFALSE vUNDEFINED vINCONSISTENT vTRUE h0 n0) (T106.setTop (mkF m 71 #[.val (.int p1), .val (.int (3 : Int32)), .val (.int (1 : Int32)), .val (.int (1 : Int32)), .val (.ref b84), .val (.ref vTRUE)] [(.ref vTRUE)]))
    refine Run.go (fun _ k => XS.aload Xg106.here hx rfl (hb hby at_71) rfl rfl k) ?_
    show Run p e below s 1 4 (Q_rm0 Z p1 vFALSE vUNDEFINED vINCONSISTENT vTRUE h0 n0) (T106.setTop (mkF m 73 #[.val (.int p1), .val (.int (3 : Int32)), .val (.int (1 : Int32)), .val (.int (1 : Int32)), .val (.ref b84), .val (.ref vTRUE)] [(.ref b84), (.ref vTRUE)]))
    refine Run.go (fun _ k => XS.iloadN Xg106.here hx rfl (hb hby at_73) rfl  k) ?_
    show Run p e below s 1 4 (Q_rm0 Z p1 vFALSE vUNDEFINED vINCONSISTENT vTRUE h0 n0) (T106.setTop (mkF m 74 #[.val (.int p1), .val (.int (3 : Int32)), .val (.int (1 : Int32)), .val (.int (1 : Int32)), .val (.ref b84), .val (.ref vTRUE)] [(.int (3 : Int32)), (.ref b84), (.ref vTRUE)]))
    refine Run.go (fun _ k => ary_aget Xg106 hx hZ e106q fx105.ary rfl (by decide) (by decide) (g := (mkF m 74 #[.val (.int p1), .val (.int (3 : Int32)), .val (.int (1 : Int32)), .val (.int (1 : Int32)), .val (.ref b84), .val (.ref vTRUE)] [(.int (3 : Int32)), (.ref b84), (.ref vTRUE)])) rfl rfl (hb hby at_74) rfl _ k) ?_
    show Run p e below s 1 4 (Q_rm0 Z p1 vFALSE vUNDEFINED vINCONSISTENT vTRUE h0 n0) (T106.setTop (mkF m 75 #[.val (.int p1), .val (.int (3 : Int32)), .val (.int (1 : Int32)), .val (.int (1 : Int32)), .val (.ref b84), .val (.ref vTRUE)] [(.ref vTRUE), (.ref vTRUE)]))
    refine Run.go (fun _ k => Jvm.RoadKit.acmp (g := (mkF m 75 #[.val (.int p1), .val (.int (3 : Int32)), .val (.int (1 : Int32)), .val (.int (1 : Int32)), .val (.ref b84), .val (.ref vTRUE)] [(.ref vTRUE), (.ref vTRUE)])) Xg106 hx rfl rfl rfl (pc0 := 75) (pc' := 78) (same := true) rfl (hb hby at_75) rfl (decide_eq_true rfl) (by decide) (by decide) k) ?_
    show Run p e below s 1 4 (Q_rm0 Z p1 vFALSE vUNDEFINED vINCONSISTENT vTRUE h0 n0) (T106.setTop (mkF m 78 #[.val (.int p1), .val (.int (3 : Int32)), .val (.int (1 : Int32)), .val (.int (1 : Int32)), .val (.ref b84), .val (.ref vTRUE)] []))
    refine Run.go (fun _ k => XS.iconst Xg106.here hx rfl (hb hby at_78) k) ?_
    show Run p e below s 1 4 (Q_rm0 Z p1 vFALSE vUNDEFINED vINCONSISTENT vTRUE h0 n0) (T106.setTop (mkF m 79 #[.val (.int p1), .val (.int (3 : Int32)), .val (.int (1 : Int32)), .val (.int (1 : Int32)), .val (.ref b84), .val (.ref vTRUE)] [(.int (1 : Int32))]))
    refine Run.go (fun _ k => XS.goto Xg106.here hx rfl (pc0 := 79) (pc' := 83) rfl (hb hby at_79) (by decide) (by decide) k) ?_
    show Run p e below s 1 4 (Q_rm0 Z p1 vFALSE vUNDEFINED vINCONSISTENT vTRUE h0 n0) (T106.setTop (mkF m 83 #[.val (.int p1), .val (.int (3 : Int32)), .val (.int (1 : Int32)), .val (.int (1 : Int32)), .val (.ref b84), .val (.ref vTRUE)] [(.int (1 : Int32))]))
    exact Run.retN (y := 1) Xg106 hx (t := .boolean) Bd.returns (by simp) rfl Bd.notSynchronized (hb hby at_83) (by decide) (by decide) ⟨rfl, Ng106⟩
set_option maxRecDepth 65536 in
set_option maxHeartbeats 40000000 in
theorem comes_1 {Post : Tables → Env → Array Value → State → Outcome → State → Prop} (hpost : ∀ tb e args s v u, (limb_1_1.after args s (.returned v) u = true ∧ limb_1_2.after args s (.returned v) u = true ∧ True) → FrameEnd s (.returned v) u (Jvm.fieldLocs frame_1_writes args s ++ Jvm.arrayLocs frame_1_arrays args s ++ Jvm.staticLocs frame_1_statics s) 16 128 → Post tb e args s (.returned v) u) :
    ArmFor flags0 classFile x code maxLocals ret World_1 tables_1 room_1 Calls_1 rest_1 Pre_1 Post := by
  intro l hfl _ _ p e ha hc hk s m args below hf hA hF happ hP
  obtain ⟨hcalls, hrest, hpre⟩ := hP
  obtain ⟨-, -, -, hnamed, -, -, -, hat⟩ := (Spec.applies_iff hf).mp happ
  obtain ⟨hg, hn⟩ := and_e (Cond.before_iff.mp (show (Jvm.Cond.and given_1 narrow_1).before args s = true from hpre))
  obtain ⟨g1, g2⟩ := and_e hg
  obtain ⟨w0, rfl⟩ : ∃ w0 : Value, args = #[w0] := by
    have hs : args.size = 1 := by simpa [Cond.value, given_1] using g1
    obtain ⟨L⟩ := args
    match L, hs with
    | [w0], _ => exact ⟨w0, rfl⟩
  have hw := fun d (hd : d ∈ tables_1) => atoms_spec (ws := Jvm.Cond.code x code maxLocals ret :: tables_1) hat d (List.mem_cons_of_mem _ hd)
  have hfit : Fit s := fun {y c} hc i hi => by
    obtain ⟨ha, rfl⟩ := Array.getElem?_eq_some_iff.mp hc
    have q := List.all_eq_true.mp ((Array.all_eq_true_iff_forall_mem.mp hF) _ (Array.getElem_mem ha)) i (List.mem_range.mpr hi)
    simpa [Array.getElem?_eq_getElem hi] using q
  obtain ⟨i0, ei0⟩ := is_v g2
  obtain rfl : w0 = (.int i0) := Option.some.inj ei0
  obtain ⟨hx0, hn0⟩ := and_e hn
  obtain ⟨vFALSE, evFALSE⟩ := exa_v hx0
  have SFALSE : Sta s s.heap "com/example/nestor/nestor/TruthValue" "FALSE" "Lcom/example/nestor/nestor/TruthValue;" (.ref vFALSE) := Sta.start evFALSE (Or.inr ⟨(hw _ (List.mem_of_getElem? (i := 3) rfl)), (hw _ (List.mem_of_getElem? (i := 4) rfl))⟩)
  have EFALSE : Exa s s.heap vFALSE "com/example/nestor/nestor/TruthValue" := Exa.start evFALSE hx0
  obtain ⟨hx1, hn1⟩ := and_e hn0
  obtain ⟨vUNDEFINED, evUNDEFINED⟩ := exa_v hx1
  have SUNDEFINED : Sta s s.heap "com/example/nestor/nestor/TruthValue" "UNDEFINED" "Lcom/example/nestor/nestor/TruthValue;" (.ref vUNDEFINED) := Sta.start evUNDEFINED (Or.inr ⟨(hw _ (List.mem_of_getElem? (i := 3) rfl)), (hw _ (List.mem_of_getElem? (i := 7) rfl))⟩)
  have EUNDEFINED : Exa s s.heap vUNDEFINED "com/example/nestor/nestor/TruthValue" := Exa.start evUNDEFINED hx1
  obtain ⟨hx2, hn2⟩ := and_e hn1
  obtain ⟨vINCONSISTENT, evINCONSISTENT⟩ := exa_v hx2
  have SINCONSISTENT : Sta s s.heap "com/example/nestor/nestor/TruthValue" "INCONSISTENT" "Lcom/example/nestor/nestor/TruthValue;" (.ref vINCONSISTENT) := Sta.start evINCONSISTENT (Or.inr ⟨(hw _ (List.mem_of_getElem? (i := 3) rfl)), (hw _ (List.mem_of_getElem? (i := 9) rfl))⟩)
  have EINCONSISTENT : Exa s s.heap vINCONSISTENT "com/example/nestor/nestor/TruthValue" := Exa.start evINCONSISTENT hx2
  obtain ⟨vTRUE, evTRUE⟩ := exa_v hn2
  have STRUE : Sta s s.heap "com/example/nestor/nestor/TruthValue" "TRUE" "Lcom/example/nestor/nestor/TruthValue;" (.ref vTRUE) := Sta.start evTRUE (Or.inr ⟨(hw _ (List.mem_of_getElem? (i := 3) rfl)), (hw _ (List.mem_of_getElem? (i := 11) rfl))⟩)
  have ETRUE : Exa s s.heap vTRUE "com/example/nestor/nestor/TruthValue" := Exa.start evTRUE hn2
  obtain ⟨n, o, h1, h2, h3, _, L, rfl, ⟨rfl, N⟩, hq⟩ := rm0 l s _ hw tables_1 i0 vFALSE vUNDEFINED vINCONSISTENT vTRUE s.heap s.heap.size (Nat.le_refl _) SFALSE SUNDEFINED SINCONSISTENT STRUE EFALSE EUNDEFINED EINCONSISTENT ETRUE p e ha hc hk s m _ below hf ((Spec.applies_iff_loose hf).mp happ).1 ⟨rfl, State.Warmed39.refl s, rfl⟩ trivial
  refine ⟨n, _, h1, h2, h3, hpost _ _ _ _ _ _ ⟨Cond.after_iff.mpr rfl, Cond.after_iff.mpr (eq_i res_at (Term.int_eval (1)) rfl), trivial⟩ ⟨hq.1, hq.2.1, (hq.2.2.sift fun y hy => Or.inr (N y hy)).mono (by decide) (by decide)⟩⟩
theorem main_1_1 : Claimed_1_1 := comes_1 fun _ _ _ _ _ _ h hF => ⟨h.1, hF⟩
theorem main_1_2 : Claimed_1_2 := comes_1 fun _ _ _ _ _ _ h hF => ⟨h.2.1, hF⟩
end Jvm.Pilot.@@N@@
namespace Jvm.Pilot.@@N@@
open Jvm Jvm.ClassFile Sem Op Lib Jvm.Free Jvm.Stand Jvm.Pilot.@@N@@.Jvm.D
/-! MADE BY PROGRAM (witnessworld.py) out of the Statement's table words and the real class files: 13 classes; the members and pool entries that the words name. The judged class is class 1, her method 1. -/
namespace start1
open Jvm.ClassFile
def u (s : String) : CpInfo := .utf8 (stringToUtf16 s)
/-- a pool by its gaps: so many unusable entries, then the entry; so many at the end -/
def gap : Nat → List CpInfo → List CpInfo
  | 0, r => r
  | n + 1, r => .unusable :: gap n r
def poolList (es : List (Nat × CpInfo)) (last : Nat) : List CpInfo := es.foldr (fun e r => gap e.1 (e.2 :: r)) (gap last [])
def pool (es : List (Nat × CpInfo)) (last : Nat) : Array CpInfo := ⟨poolList es last⟩
def fileOf (pool : Array CpInfo) (this : Nat) (attrs : Array Attribute := #[]) (ms : Array MethodInfo := #[]) (fl : Nat := 33) (sup : Nat := 0) (ifs : Array Nat := #[]) (fds : Array FieldInfo := #[]) : ClassFile where
  minorVersion := 0
  majorVersion := 65
  constantPool := pool
  accessFlags := fl
  thisClass := this
  superClass := sup
  interfaces := ifs
  fields := fds
  methods := ms
  attributes := attrs
def plain (name : String) (sup : Option ClassId) : Class where
  name := name
  kind := .ordinary
  loader := none
  accessFlags := 33
  super := sup
  interfaces := #[]
  cf := none
  fields := #[]
  methods := #[]
  instanceTypes := #[]
  staticTypes := #[]
  resolved := #[]
  callSites := []
  init := .initialized
  statics := none
  mirror := none

def pool0 : Array CpInfo := pool [(5, u "<init>"), (0, u "()V"), (1, .class_ 10), (1, u "java/lang/Object")] 113

def k0m0 : Method := { name := "<init>", desc := "()V", sig := { parameters := [], returnType := none }, accessFlags := 1, code := none }
/-- java/lang/Object -/
def k0 : Class := { plain "java/lang/Object" none with
  accessFlags := 33
  interfaces := #[]
  cf := some (fileOf pool0 8 #[] #[{ accessFlags := 1, nameIndex := 5, descriptorIndex := 6, attributes := #[] }] 33 0 #[] #[])
  fields := #[]
  methods := #[k0m0]
  instanceTypes := #[]
  staticTypes := #[]
  resolved := Array.replicate 124 none
  statics := none }

def pool1 : Array CpInfo := pool [(2, .class_ 4), (1, u "java/lang/Object"), (0, u "<init>"), (0, u "()V"), (0, .class_ 8), (0, u "com/example/nestor/nestor/TruthValue"), (0, .fieldref 7 10), (0, .nameAndType 11 12), (0, u "FALSE"), (0, u "Lcom/example/nestor/nestor/TruthValue;"), (0, .fieldref 7 14), (0, .nameAndType 15 12), (0, u "UNDEFINED"), (0, .fieldref 7 17), (0, .nameAndType 18 12), (0, u "INCONSISTENT"), (0, .fieldref 7 20), (0, .nameAndType 21 12), (0, u "TRUE"), (0, .methodref 7 23), (0, .nameAndType 24 25), (0, u "of"), (0, u "(ZZ)Lcom/example/nestor/nestor/TruthValue;"), (0, .class_ 27), (0, u "com/example/nestor/nestor/TruthValueOfPinLaw"), (2, u "law"), (0, u "(I)Z")] 5

def k1m0 : Method := { name := "<init>", desc := "()V", sig := { parameters := [], returnType := none }, accessFlags := 2, code := none }
def k1c1 : Code := { maxStack := 3, maxLocals := 6, code := code, exceptionTable := #[], attributes := #[] }
def k1m1 : Method := { name := "law", desc := "(I)Z", sig := { parameters := [.int], returnType := some .boolean }, accessFlags := 9, code := some k1c1 }
/-- com/example/nestor/nestor/TruthValueOfPinLaw -/
def k1 : Class := { plain "com/example/nestor/nestor/TruthValueOfPinLaw" (some 0) with
  accessFlags := 49
  interfaces := #[]
  cf := some (fileOf pool1 26 #[] #[{ accessFlags := 2, nameIndex := 5, descriptorIndex := 6, attributes := #[] }, { accessFlags := 9, nameIndex := 30, descriptorIndex := 31, attributes := #[] }] 49 2 #[] #[])
  fields := #[]
  methods := #[k1m0, k1m1]
  instanceTypes := #[]
  staticTypes := #[]
  resolved := Array.replicate 37 none
  statics := none }

def pool2 : Array CpInfo := pool [(1, .class_ 2), (0, u "java/lang/constant/Constable"), (0, .class_ 4), (0, u "java/lang/Object")] 6

/-- java/lang/constant/Constable -/
def k2 : Class := { plain "java/lang/constant/Constable" (some 0) with
  accessFlags := 1537
  interfaces := #[]
  cf := some (fileOf pool2 1 #[] #[] 1537 3 #[] #[])
  fields := #[]
  methods := #[]
  instanceTypes := #[]
  staticTypes := #[]
  resolved := Array.replicate 11 none
  statics := none }

def pool3 : Array CpInfo := pool [(1, .class_ 2), (0, u "java/lang/Comparable"), (0, .class_ 4), (0, u "java/lang/Object")] 7

/-- java/lang/Comparable -/
def k3 : Class := { plain "java/lang/Comparable" (some 0) with
  accessFlags := 1537
  interfaces := #[]
  cf := some (fileOf pool3 1 #[] #[] 1537 3 #[] #[])
  fields := #[]
  methods := #[]
  instanceTypes := #[]
  staticTypes := #[]
  resolved := Array.replicate 12 none
  statics := none }

def pool4 : Array CpInfo := pool [(1, .class_ 2), (0, u "java/io/Serializable"), (0, .class_ 4), (0, u "java/lang/Object")] 2

/-- java/io/Serializable -/
def k4 : Class := { plain "java/io/Serializable" (some 0) with
  accessFlags := 1537
  interfaces := #[]
  cf := some (fileOf pool4 1 #[] #[] 1537 3 #[] #[])
  fields := #[]
  methods := #[]
  instanceTypes := #[]
  staticTypes := #[]
  resolved := Array.replicate 7 none
  statics := none }

def pool5 : Array CpInfo := pool [(2, .class_ 4), (1, u "java/lang/Enum"), (0, u "name"), (0, u "Ljava/lang/String;"), (2, u "ordinal"), (0, u "I"), (1, .class_ 14), (1, u "java/lang/Object"), (4, u "hash"), (86, .class_ 108), (1, u "java/lang/Enum$EnumDesc"), (2, .class_ 112), (0, u "java/lang/constant/Constable"), (0, .class_ 114), (0, u "java/lang/Comparable"), (0, .class_ 116), (0, u "java/io/Serializable")] 87

/-- java/lang/Enum -/
def k5 : Class := { plain "java/lang/Enum" (some 0) with
  accessFlags := 1057
  interfaces := #[2, 3, 4]
  cf := some (fileOf pool5 2 #[.nestMembers #[106]] #[] 1057 12 #[111, 113, 115] #[{ accessFlags := 18, nameIndex := 5, descriptorIndex := 6, attributes := #[] }, { accessFlags := 18, nameIndex := 9, descriptorIndex := 10, attributes := #[] }, { accessFlags := 2, nameIndex := 19, descriptorIndex := 10, attributes := #[] }])
  fields := #[{ name := "name", type := (.object "java/lang/String"), accessFlags := 18, slot := 0, constantValue := 0 }, { name := "ordinal", type := .int, accessFlags := 18, slot := 1, constantValue := 0 }, { name := "hash", type := .int, accessFlags := 2, slot := 2, constantValue := 0 }]
  methods := #[]
  instanceTypes := #[(.object "java/lang/String"), .int, .int]
  staticTypes := #[]
  resolved := Array.replicate 204 none
  statics := none }

def pool6 : Array CpInfo := pool [(1, .class_ 2), (0, u "com/example/nestor/nestor/TruthValue"), (0, .fieldref 1 4), (0, .nameAndType 5 6), (0, u "TRUE"), (0, u "Lcom/example/nestor/nestor/TruthValue;"), (0, .fieldref 1 8), (0, .nameAndType 9 6), (0, u "UNDEFINED"), (0, .fieldref 1 11), (0, .nameAndType 12 6), (0, u "FALSE"), (0, .fieldref 1 14), (0, .nameAndType 15 6), (0, u "INCONSISTENT"), (2, u "$VALUES"), (0, u "[Lcom/example/nestor/nestor/TruthValue;"), (6, .class_ 28), (1, u "java/lang/Enum"), (8, u "word"), (0, u "Ljava/lang/String;"), (26, u "of"), (0, u "(ZZ)Lcom/example/nestor/nestor/TruthValue;")] 8

def k6c0 : Code := { maxStack := 1, maxLocals := 3, code := prog_6_method_4_code, exceptionTable := #[], attributes := #[] }
def k6m0 : Method := { name := "of", desc := "(ZZ)Lcom/example/nestor/nestor/TruthValue;", sig := { parameters := [.boolean, .boolean], returnType := some (.object "com/example/nestor/nestor/TruthValue") }, accessFlags := 9, code := some k6c0 }
/-- com/example/nestor/nestor/TruthValue -/
def k6 : Class := { plain "com/example/nestor/nestor/TruthValue" (some 5) with
  accessFlags := 16433
  interfaces := #[]
  cf := some (fileOf pool6 1 #[] #[{ accessFlags := 9, nameIndex := 65, descriptorIndex := 66, attributes := #[] }] 16433 26 #[] #[{ accessFlags := 16409, nameIndex := 5, descriptorIndex := 6, attributes := #[] }, { accessFlags := 16409, nameIndex := 9, descriptorIndex := 6, attributes := #[] }, { accessFlags := 16409, nameIndex := 12, descriptorIndex := 6, attributes := #[] }, { accessFlags := 16409, nameIndex := 15, descriptorIndex := 6, attributes := #[] }, { accessFlags := 18, nameIndex := 37, descriptorIndex := 38, attributes := #[] }, { accessFlags := 4122, nameIndex := 18, descriptorIndex := 19, attributes := #[] }])
  fields := #[{ name := "TRUE", type := (.object "com/example/nestor/nestor/TruthValue"), accessFlags := 16409, slot := 0, constantValue := 0 }, { name := "UNDEFINED", type := (.object "com/example/nestor/nestor/TruthValue"), accessFlags := 16409, slot := 1, constantValue := 0 }, { name := "FALSE", type := (.object "com/example/nestor/nestor/TruthValue"), accessFlags := 16409, slot := 2, constantValue := 0 }, { name := "INCONSISTENT", type := (.object "com/example/nestor/nestor/TruthValue"), accessFlags := 16409, slot := 3, constantValue := 0 }, { name := "word", type := (.object "java/lang/String"), accessFlags := 18, slot := 3, constantValue := 0 }, { name := "$VALUES", type := (.array (.object "com/example/nestor/nestor/TruthValue")), accessFlags := 4122, slot := 4, constantValue := 0 }]
  methods := #[k6m0]
  instanceTypes := #[(.object "java/lang/String"), .int, .int, (.object "java/lang/String")]
  staticTypes := #[(.object "com/example/nestor/nestor/TruthValue"), (.object "com/example/nestor/nestor/TruthValue"), (.object "com/example/nestor/nestor/TruthValue"), (.object "com/example/nestor/nestor/TruthValue"), (.array (.object "com/example/nestor/nestor/TruthValue"))]
  resolved := Array.replicate 75 none
  statics := some 0 }

def pool7 : Array CpInfo := pool [(1, u "java/lang/Cloneable"), (0, .class_ 1), (0, u "java/lang/Object"), (0, .class_ 3)] 3

/-- java/lang/Cloneable -/
def k7 : Class := { plain "java/lang/Cloneable" (some 0) with
  accessFlags := 1537
  interfaces := #[]
  cf := some (fileOf pool7 2 #[] #[] 1537 4 #[] #[])
  fields := #[]
  methods := #[]
  instanceTypes := #[]
  staticTypes := #[]
  resolved := Array.replicate 8 none
  statics := none }

/-- the primitive byte -/
def k8 : Class := { plain "byte" none with kind := .primitive 'B', accessFlags := 0x411 }
/-- [B -/
def k9 : Class := { plain "[B" (some 0) with kind := .array 8 .byte, interfaces := #[7, 4], accessFlags := 1041 }

/-- the primitive int -/
def k10 : Class := { plain "int" none with kind := .primitive 'I', accessFlags := 0x411 }
/-- [I -/
def k11 : Class := { plain "[I" (some 0) with kind := .array 10 .int, interfaces := #[7, 4], accessFlags := 1041 }

/-- [Lcom/example/nestor/nestor/TruthValue; -/
def k12 : Class := { plain "[Lcom/example/nestor/nestor/TruthValue;" (some 0) with kind := .array 6 (.object "com/example/nestor/nestor/TruthValue"), interfaces := #[7, 4], accessFlags := 1041 }

def heap : Heap := #[{ cls := 6, slots := #[.ref 4, .ref 2, .ref 1, .ref 3, .null], vm := .statics 6 },
  { cls := 6, slots := #[.null, .int 0, .int 0, .null], vm := .none },
  { cls := 6, slots := #[.null, .int 1, .int 0, .null], vm := .none },
  { cls := 6, slots := #[.null, .int 2, .int 0, .null], vm := .none },
  { cls := 6, slots := #[.null, .int 3, .int 0, .null], vm := .none }]
def classes : Array Class := #[k0, k1, k2, k3, k4, k5, k6, k7, k8, k9, k10, k11, k12]
def interned : List (Array UInt16 × Addr) := []
def slotsUsed : Nat := 21
def theMethod : MethodId := ⟨1, 1⟩
def args0 : Array Value := #[.int 2]
def aboutOver (below : List Frame) : State where
  vm := { classes := classes, interned := interned.toArray }
  heap := heap
  slotsUsed := slotsUsed
  threads := #[{ frames := .invoking theMethod args0 :: below }]
def below0 : List Frame := [.native { method := ⟨0, 0⟩, args := #[] }]
def about1 : State := aboutOver below0
def p0 : Program := .bare "" "" ""
def e0 : Env := launch0.env 0 0 0
theorem w_frames : about1.frames = Frame.invoking theMethod args0 :: below0 := rfl
set_option maxRecDepth 65536 in
theorem w_args : argsFit about1.vm theMethod args0 = true := by decide +kernel
set_option maxRecDepth 65536 in
theorem w_heap : heapFits about1 = true := by decide +kernel
set_option maxRecDepth 65536 in
theorem w_runnable : about1.curStatus? = some .runnable := by decide +kernel
set_option maxRecDepth 65536 in
theorem w_alone : about1.alone = true := by decide +kernel
set_option maxRecDepth 65536 in
theorem w_named : about1.methodNamed? x = some theMethod := by decide +kernel
set_option maxRecDepth 65536 in
theorem w_hears : about1.hears theMethod below0 = true := by decide +kernel
set_option maxRecDepth 65536 in
theorem w_ripe : about1.ripe theMethod args0 below0 = true := by decide +kernel
theorem w_running : about1.status = .running := rfl
set_option maxRecDepth 65536 in
theorem w_room : about1.hasRoom e0.platform room_1 = true :=
  launch0.hasRoom_least _ room_1 (by decide +kernel) (by decide +kernel) (by decide +kernel) (by decide +kernel) (by decide +kernel) (by decide +kernel)
theorem allAtoms_all (ts : List Jvm.Cond) (a : Array Jvm.Value) (st : Jvm.State) : (allAtoms ts).before a st = ts.all (fun c => c.before a st) := by
  induction ts with
  | nil => rfl
  | cons c t ih =>
    show (Jvm.Cond.and c (allAtoms t)).before a st = _
    rw [Jvm.Cond.before_and, ih, List.all_cons]
def words1 : List Jvm.Cond := Jvm.Cond.code x code maxLocals ret :: tables_1
/-- a 'code' word, met by the world's own term for the bytes: nothing is compared byte by byte -/
theorem code_word {y : MethodName} {bytes : ByteArray} {mx : Nat} {rt : Option FieldType} {a : Array Value} {s : State} {m : MethodId} {meth : Method} {c : Code} (h1 : s.methodNamed? y = some m) (h2 : s.vm.method? m = some meth) (h3 : meth.code = some c) (h4 : c.code = bytes)
    (h5 : (c.maxLocals == mx && c.exceptionTable.isEmpty && decide (c.maxStack ≤ mostOperands) && decide (meth.sig.returnType = rt) && !meth.locks && decide (parseMethodDescriptor y.desc = some meth.sig)) = true) : (Jvm.Cond.code y bytes mx rt).before a s = true := by
  simp only [Bool.and_eq_true, beq_iff_eq, Bool.not_eq_true', decide_eq_true_eq] at h5
  obtain ⟨⟨⟨⟨⟨g1, g2⟩, g3⟩, g4⟩, g5⟩, g6⟩ := h5
  simp [Cond.before, Cond.holds, Cond.value, h1, h2, h3, h4, g1, g2, g3, g4, g5, g6]
def isCode : Jvm.Cond → Bool
  | .code _ _ _ _ => true
  | _ => false
theorem all_split {L : List Jvm.Cond} {P : Jvm.Cond → Bool} (h1 : L.all (fun c => isCode c || P c) = true) (h2 : ∀ c ∈ L.filter isCode, P c = true) : L.all P = true := by
  refine List.all_eq_true.mpr fun c hc => ?_
  have h := List.all_eq_true.mp h1 c hc
  rcases Bool.eq_false_or_eq_true (isCode c) with hi | hi
  · exact h2 c (List.mem_filter.mpr ⟨hc, hi⟩)
  · simpa [hi] using h
set_option maxRecDepth 65536 in
theorem w_c0 : (Jvm.Cond.code x code maxLocals ret).before args0 about1 = true := code_word (m := ⟨1, 1⟩) (meth := k1m1) (c := k1c1) (by decide +kernel) rfl rfl rfl (by decide +kernel)
set_option maxRecDepth 65536 in
theorem w_c1 : (Jvm.Cond.code ({ cls := "com/example/nestor/nestor/TruthValue", name := "of", desc := "(ZZ)Lcom/example/nestor/nestor/TruthValue;" } : Jvm.MethodName) prog_6_method_4_code (3 : Nat) (Option.some (Jvm.ClassFile.FieldType.object "com/example/nestor/nestor/TruthValue"))).before args0 about1 = true := code_word (m := ⟨6, 0⟩) (meth := k6m0) (c := k6c0) (by decide +kernel) rfl rfl rfl (by decide +kernel)
def codes1 : List Jvm.Cond := [Jvm.Cond.code x code maxLocals ret, Jvm.Cond.code ({ cls := "com/example/nestor/nestor/TruthValue", name := "of", desc := "(ZZ)Lcom/example/nestor/nestor/TruthValue;" } : Jvm.MethodName) prog_6_method_4_code (3 : Nat) (Option.some (Jvm.ClassFile.FieldType.object "com/example/nestor/nestor/TruthValue"))]
set_option maxRecDepth 65536 in
theorem codes_eq : words1.filter isCode = codes1 := rfl
theorem w_codes : ∀ c ∈ words1.filter isCode, c.before args0 about1 = true := by
  rw [codes_eq]
  intro c hc
  simp only [codes1, List.mem_cons, List.not_mem_nil, or_false] at hc
  rcases hc with rfl | rfl
  · exact w_c0
  · exact w_c1
set_option maxRecDepth 65536 in
theorem w_t1 : words1.all (fun c => isCode c || c.before args0 about1) = true := by decide +kernel
theorem w_tables : (allAtoms (Jvm.Cond.code x code maxLocals ret :: tables_1)).before args0 about1 = true := by
  rw [allAtoms_all]
  show words1.all (fun c => c.before args0 about1) = true
  refine all_split ?_ w_codes
  rw [w_t1]
set_option maxRecDepth 65536 in
theorem w_case : (Jvm.Cond.and given_1 narrow_1).before args0 about1 = true := by decide +kernel
theorem w_applies : (headSpec (Jvm.Cond.code x code maxLocals ret :: tables_1) room_1).applies x e0.platform about1 = true :=
  (Spec.applies_iff w_frames).mpr ⟨w_running, w_runnable, w_alone, w_named, w_hears, w_ripe, w_room, w_tables⟩
theorem atStart : AtStart classFile x code maxLocals ret World_1 tables_1 room_1 Calls_1 rest_1 Pre_1 launch0 p0 e0 about1 theMethod args0 below0 :=
  ⟨lists_1, trivial, launch0.admits_env _ _ _, launch0.least_env, fairChoices_fair.cas, fairChoices_fair.clock, w_frames, w_args, w_heap, w_applies, trivial, trivial, w_case⟩
end start1
theorem witness_1 : WitnessClaimed_1 := ⟨start1.p0, start1.e0, start1.about1, start1.theMethod, start1.args0, start1.below0, start1.atStart⟩
end Jvm.Pilot.@@N@@
