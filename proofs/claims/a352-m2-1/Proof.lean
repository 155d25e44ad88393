import JvmDerived
import JvmDerived.Pilot.@@N@@Statement
import JvmDerived.Pilot.@@N@@Code
set_option linter.unusedVariables false
set_option linter.unusedSimpArgs false
namespace Jvm.Pilot.@@N@@
open Jvm Jvm.ClassFile Sem Op Lib Jvm.Free Jvm.Stand Jvm.LawKit Jvm.RoadKit Bundle Jvm.Pilot.@@N@@.Jvm.D
section Own
variable {p : Program} {l : Launch} {e : Env} {R : Room} {s : State} {m : MethodId} {args : Array Value} {below : List Frame} {meth : Method} {c : Code} {T : State} {locs : List Loc} {cells slots : Nat} {Z : State} {h h' : Heap}
def Run (p : Program) (e : Env) (below : List Frame) (s : State) (C N : Nat) (Q : Option Value → Heap → List Loc → Prop) (S : State) : Prop :=
  ∃ s₂ o, Steps p.tables e below S s₂ ∧ s₂.status = .running ∧ Ended s₂ below o ∧ ∃ v L, o = .returned v ∧ Q v s₂.heap L ∧ FrameEnd s o s₂ L C N
variable {C N : Nat} {Q : Option Value → Heap → List Loc → Prop} {S S' : State}
theorem Run.go (k : ∀ t, Steps p.tables e below S' t → Steps p.tables e below S t) (r : Run p e below s C N Q S') : Run p e below s C N Q S := by
  obtain ⟨s₂, o, h1, r⟩ := r
  exact ⟨s₂, o, k _ h1, r⟩
theorem Run.tr (k : Steps p.tables e below S S') (r : Run p e below s C N Q S') : Run p e below s C N Q S := by
  obtain ⟨s₂, o, h1, r⟩ := r
  exact ⟨s₂, o, k.trans h1, r⟩
theorem Run.retI (X : Stand p l e R s m args below meth c T locs cells slots) (hx : p.tables.exec = Jvm.exec) {pc : Nat} {Ls : Array Slot} {z : Int32} {rest : List Value} (hret : meth.sig.returnType = some .int) (hlk : meth.locks = false) (hd : decode c.code pc = .ok (.ireturn, 1)) (hc : cells ≤ C) (hn : slots ≤ N)
    (hQ : Q (some (.int z)) T.heap locs) : Run p e below s C N Q (T.setTop (mkF m pc Ls (.int z :: rest))) := by
  obtain ⟨fs, hr, hrun, hended, hW, hsame⟩ := X.leave (v := some (.int z)) (fun q => by rw [hret] at q; cases q)
  refine ⟨_, _, ?_, hrun, hended, _, _, rfl, hQ, ⟨_, rfl⟩, hW, hsame.mono hc hn⟩
  have hm' : T.vm.method? m = some meth := X.method'
  have hn : narrow .int (.int z) = .int z := rfl
  show Steps p.tables e below (T.setTop { method := m, pc := pc, locals := Ls, stack := _ :: rest, locked := none }) _
  jvm_step X.here [X.here.top, hx, hd, hm', hret, hn]
  first | (intro acts; rw [hr _ acts rfl rfl rfl]) | rw [hr _ _ rfl rfl rfl]
  exact Steps.refl _
theorem Run.retN (X : Stand p l e R s m args below meth c T locs cells slots) (hx : p.tables.exec = Jvm.exec) {pc : Nat} {Ls : Array Slot} {z y : Int32} {t : FieldType} {rest : List Value} (hret : meth.sig.returnType = some t) (ht : t = .boolean ∨ t = .byte ∨ t = .char ∨ t = .short) (hy : nar t z = y) (hlk : meth.locks = false) (hd : decode c.code pc = .ok (.ireturn, 1)) (hc : cells ≤ C) (hn : slots ≤ N)
    (hQ : Q (some (.int y)) T.heap locs) : Run p e below s C N Q (T.setTop (mkF m pc Ls (.int z :: rest))) := by
  subst hy
  obtain ⟨fs, hr, hrun, hended, hW, hsame⟩ := X.leave (v := some (.int (nar t z))) (fun q => by rw [hret] at q; cases q)
  exact ⟨_, _, Jvm.RoadKit.retN X hx hret ht hd hr, hrun, hended, _, _, rfl, hQ, ⟨_, rfl⟩, hW, hsame.mono hc hn⟩
theorem Run.retJ (X : Stand p l e R s m args below meth c T locs cells slots) (hx : p.tables.exec = Jvm.exec) {pc : Nat} {Ls : Array Slot} {z : Int64} {rest : List Value} (hret : meth.sig.returnType = some .long) (hlk : meth.locks = false) (hd : decode c.code pc = .ok (.lreturn, 1)) (hc : cells ≤ C) (hn : slots ≤ N)
    (hQ : Q (some (.long z)) T.heap locs) : Run p e below s C N Q (T.setTop (mkF m pc Ls (.long z :: rest))) := by
  obtain ⟨fs, hr, hrun, hended, hW, hsame⟩ := X.leave (v := some (.long z)) (fun q => by rw [hret] at q; cases q)
  refine ⟨_, _, ?_, hrun, hended, _, _, rfl, hQ, ⟨_, rfl⟩, hW, hsame.mono hc hn⟩
  have hm' : T.vm.method? m = some meth := X.method'
  show Steps p.tables e below (T.setTop { method := m, pc := pc, locals := Ls, stack := _ :: rest, locked := none }) _
  jvm_step X.here [X.here.top, hx, hd, hm', hret, narrow]
  first | (intro acts; rw [hr _ acts rfl rfl rfl]) | rw [hr _ _ rfl rfl rfl]
  exact Steps.refl _
theorem Run.retA (X : Stand p l e R s m args below meth c T locs cells slots) (hx : p.tables.exec = Jvm.exec) {pc : Nat} {Ls : Array Slot} {w : Value} {t : FieldType} {rest : List Value} (hw : w.isRef = true) (hret : meth.sig.returnType = some t) (ht : t.isReference = true) (hlk : meth.locks = false) (hd : decode c.code pc = .ok (.areturn, 1)) (hc : cells ≤ C) (hn : slots ≤ N)
    (hQ : Q (some w) T.heap locs) : Run p e below s C N Q (T.setTop (mkF m pc Ls (w :: rest))) := by
  obtain ⟨fs, hr, hrun, hended, hW, hsame⟩ := X.leave (v := some w) (fun q => by rw [hret] at q; cases q)
  refine ⟨_, _, ?_, hrun, hended, _, _, rfl, hQ, ⟨_, rfl⟩, hW, hsame.mono hc hn⟩
  have hm' : T.vm.method? m = some meth := X.method'
  show Steps p.tables e below (T.setTop { method := m, pc := pc, locals := Ls, stack := _ :: rest, locked := none }) _
  rcases ref_cases hw with rfl | ⟨a, rfl⟩
  all_goals
    jvm_step X.here [X.here.top, hx, hd, hm', hret, Value.isRef, ht]
    first | (intro acts; rw [hr _ acts rfl rfl rfl]) | rw [hr _ _ rfl rfl rfl]
    exact Steps.refl _
theorem Run.ret0 (X : Stand p l e R s m args below meth c T locs cells slots) (hx : p.tables.exec = Jvm.exec) {pc : Nat} {Ls : Array Slot} (hret : meth.sig.returnType = none) (hlk : meth.locks = false) (hd : decode c.code pc = .ok (.return_, 1)) (hc : cells ≤ C) (hn : slots ≤ N)
    (hQ : Q none T.heap locs) : Run p e below s C N Q (T.setTop (mkF m pc Ls [])) := by
  obtain ⟨fs, hr, hrun, hended, hW, hsame⟩ := X.leave (v := none) (fun _ => rfl)
  exact ⟨_, _, X.returnOut hx hret hd hr, hrun, hended, _, _, rfl, hQ, ⟨_, rfl⟩, hW, hsame.mono hc hn⟩
theorem Stand_gen {k : Nat} (X : Stand p l e R s m args below meth c T locs cells slots) (F : Fr k locs) : ∃ L, Stand p l e R s m args below meth c T L cells slots ∧ Fr k L := ⟨_, X, F⟩
theorem Sta.keep {C n d : String} {w : Value} {ws : List Addr} (F : Sta Z h C n d w) (K : Keep h h' ws) (q : ∀ x ∈ ws, ∀ c : Cell, h[x]? = some c → c.vm.isStatics = false) : Sta Z h' C n d w := by
  obtain ⟨cf, i, k, f, st, cell, h1, h2, h3, h4, h5, h6, h7⟩ := F
  refine ⟨cf, i, k, f, st, cell, h1, h2, h3, h4, K.2.1 st cell h5 (fun hm => ?_), h6, h7⟩
  rw [q st hm cell h5] at h6; cases h6
theorem Exa.nst {a : Addr} {C : String} (F : Exa Z h a C) : ∀ c : Cell, h[a]? = some c → c.vm.isStatics = false := fun c q => by
  obtain ⟨cell, k, h1, -, -, h4, -⟩ := F
  cases h1.symm.trans q; exact h4
/-- an array of n elements, the i-th is f i -/
def Ary (Z : State) (h : Heap) (a : Addr) (ty : FieldType) (n : Nat) (f : Nat → Value) : Prop := ∃ c : Cell, Arr Z h a c ty ∧ c.slots.size = n ∧ ∀ i, i < n → c.slots[i]? = some (f i)
variable {a b : Addr} {ty : FieldType} {n sl : Nat} {f : Nat → Value} {v : Value} {ws : List Addr}
theorem Ary.lt (F : Ary Z h a ty n f) : a < h.size := by obtain ⟨c, A, -⟩ := F; exact A.lt
theorem Ary.ext (F : Ary Z h a ty n f) (E : Ext h h') : Ary Z h' a ty n f := by obtain ⟨c, A, r⟩ := F; exact ⟨c, A.ext E, r⟩
theorem Ary.other (F : Ary Z h b ty n f) (W : Wr h h' a sl v) (q : b ≠ a) : Ary Z h' b ty n f := by obtain ⟨c, A, r⟩ := F; exact ⟨c, A.other W q, r⟩
theorem Ary.keep (F : Ary Z h a ty n f) (K : Keep h h' ws) (q : a ∉ ws) : Ary Z h' a ty n f := by obtain ⟨c, A, r⟩ := F; exact ⟨c, ⟨K.2.1 a c A.1 q, A.2⟩, r⟩
theorem Ary.ne {C : String} {a0 : Array Value} {k : Nat} (F : Ary Z h a ty n f) (G : Exa Z h b C) (wi : (Jvm.Cond.instantiable C k).before a0 Z = true) : a ≠ b := by
  obtain ⟨c, A, r⟩ := F; exact (ne_arr G wi A).symm
theorem Ary.same (F : Ary Z h a ty n f) (W : Wr h h' a sl v) : Ary Z h' a ty n (fun i => if i = sl then v else f i) := by
  obtain ⟨c, A, hs, hf⟩ := F
  obtain ⟨c1, q1, q2, q3, q4⟩ := W
  obtain rfl := Option.some.inj (q1.symm.trans A.1)
  refine ⟨c1.setSlot sl v, A.same ⟨c1, q1, q2, q3, q4⟩, by simp [Cell.setSlot, hs], fun i hi => ?_⟩
  by_cases e : i = sl
  · subst e; simp [Cell.setSlot, q3]
  · simp only [if_neg e]; rw [← hf i hi]; exact Array.getElem?_setIfInBounds_ne (Ne.symm e)
theorem Ary.nst (F : Ary Z h a ty n f) : ∀ c : Cell, h[a]? = some c → c.vm.isStatics = false := fun c q => by
  obtain ⟨cl, A, -⟩ := F
  cases A.1.symm.trans q; exact A.plain
theorem Ary.congr {g : Nat → Value} (F : Ary Z h a ty n f) (q : ∀ i, i < n → f i = g i) : Ary Z h a ty n g := by
  obtain ⟨c, A, hs, hf⟩ := F; exact ⟨c, A, hs, fun i hi => by rw [hf i hi, q i hi]⟩
theorem Ary.new {k : ClassId} {z : Int32} (A : Arr Z h a (newA k ty z) ty) (q : z.toNatClampNeg = n) : Ary Z h a ty n (fun _ => defaultValue ty) := by
  subst q
  exact ⟨_, A, sz_new _ _ _, fun i hi => by simp [newA, hi]⟩
theorem out_of {j : Int32} {c : Cell} (hs : c.slots.size = n) (h0 : ¬ j < 0) (hj : j.toNatClampNeg < n) : ¬ (j < 0 ∨ c.slots.size ≤ j.toNatClampNeg) := by
  rw [hs]; exact fun q => q.elim h0 (fun q => absurd hj (Nat.not_lt.mpr q))
/-- an array of references: besides, its class is that of arrays over C -/
def ArR (Z : State) (h : Heap) (a : Addr) (C : String) (n : Nat) (f : Nat → Value) : Prop := ∃ c : Cell, Arr Z h a c (.object C) ∧ Ovr Z c.cls C ∧ c.slots.size = n ∧ ∀ i, i < n → c.slots[i]? = some (f i)
variable {K : String}
theorem ArR.lt (F : ArR Z h a K n f) : a < h.size := by obtain ⟨c, A, -⟩ := F; exact A.lt
theorem ArR.ext (F : ArR Z h a K n f) (E : Ext h h') : ArR Z h' a K n f := by obtain ⟨c, A, r⟩ := F; exact ⟨c, A.ext E, r⟩
theorem ArR.other (F : ArR Z h b K n f) (W : Wr h h' a sl v) (q : b ≠ a) : ArR Z h' b K n f := by obtain ⟨c, A, r⟩ := F; exact ⟨c, A.other W q, r⟩
theorem ArR.keep (F : ArR Z h a K n f) (k : Keep h h' ws) (q : a ∉ ws) : ArR Z h' a K n f := by obtain ⟨c, A, r⟩ := F; exact ⟨c, ⟨k.2.1 a c A.1 q, A.2⟩, r⟩
theorem ArR.ary (F : ArR Z h a K n f) : Ary Z h a (.object K) n f := by obtain ⟨c, A, -, r⟩ := F; exact ⟨c, A, r⟩
theorem ArR.same (F : ArR Z h a K n f) (W : Wr h h' a sl v) : ArR Z h' a K n (fun i => if i = sl then v else f i) := by
  obtain ⟨c, A, o, hs, hf⟩ := F
  obtain ⟨c1, q1, q2, q3, q4⟩ := W
  obtain rfl := Option.some.inj (q1.symm.trans A.1)
  refine ⟨c1.setSlot sl v, A.same ⟨c1, q1, q2, q3, q4⟩, o, by simp [Cell.setSlot, hs], fun i hi => ?_⟩
  by_cases e : i = sl
  · subst e; simp [Cell.setSlot, q3]
  · simp only [if_neg e]; rw [← hf i hi]; exact Array.getElem?_setIfInBounds_ne (Ne.symm e)
theorem ArR.new {k : ClassId} {z : Int32} (A : Arr Z h a (newA k (.object K) z) (.object K)) (O : Ovr Z k K) (q : z.toNatClampNeg = n) : ArR Z h a K n (fun _ => .null) := by
  subst q
  exact ⟨_, A, O, sz_new _ _ _, fun i hi => by simp [newA, hi]; rfl⟩
section Arrays
theorem ary_iget (X : Stand p l e R s m args below meth c T locs cells slots) (hx : p.tables.exec = Jvm.exec) (hZ : Z.Warmed39 s.vm) (eT : T.heap = h) (A : Ary Z h a .int n f) {j : Int32} (h0 : ¬ j < 0) (hj : j.toNatClampNeg < n) {g : JFrame} (hg : g.method = m) {rest : List Value} (hs : g.stack = .int j :: .ref a :: rest) (hd : decode c.code g.pc = .ok (.iaload, 1)) {v : Value} (hv : f j.toNatClampNeg = v) (target : State)
    (k : Steps p.tables e below (T.setTop { g with pc := g.pc + 1, stack := v :: rest }) target) : Steps p.tables e below (T.setTop g) target := by
  subst hv; obtain ⟨cl, A, q, F⟩ := A
  exact X.iaload hx (by rw [eT]; exact A.1) (State.isArrayOf_alike hZ.alike A.2.1) A.2.2 (out_of q h0 hj) (F _ hj) hg hs hd target k
theorem ary_lget (X : Stand p l e R s m args below meth c T locs cells slots) (hx : p.tables.exec = Jvm.exec) (hZ : Z.Warmed39 s.vm) (eT : T.heap = h) (A : Ary Z h a .long n f) {j : Int32} (h0 : ¬ j < 0) (hj : j.toNatClampNeg < n) {g : JFrame} (hg : g.method = m) {rest : List Value} (hs : g.stack = .int j :: .ref a :: rest) (hd : decode c.code g.pc = .ok (.laload, 1)) {v : Value} (hv : f j.toNatClampNeg = v) (target : State)
    (k : Steps p.tables e below (T.setTop { g with pc := g.pc + 1, stack := v :: rest }) target) : Steps p.tables e below (T.setTop g) target := by
  subst hv; obtain ⟨cl, A, q, F⟩ := A
  exact X.laload hx (by rw [eT]; exact A.1) (State.isArrayOf_alike hZ.alike A.2.1) A.2.2 (out_of q h0 hj) (F _ hj) hg hs hd target k
theorem ary_bget (X : Stand p l e R s m args below meth c T locs cells slots) (hx : p.tables.exec = Jvm.exec) (hZ : Z.Warmed39 s.vm) (eT : T.heap = h) (A : Ary Z h a .byte n f) {j : Int32} (h0 : ¬ j < 0) (hj : j.toNatClampNeg < n) {g : JFrame} (hg : g.method = m) {rest : List Value} (hs : g.stack = .int j :: .ref a :: rest) (hd : decode c.code g.pc = .ok (.baload, 1)) {v : Value} (hv : f j.toNatClampNeg = v) (target : State)
    (k : Steps p.tables e below (T.setTop { g with pc := g.pc + 1, stack := v :: rest }) target) : Steps p.tables e below (T.setTop g) target := by
  subst hv; obtain ⟨cl, A, q, F⟩ := A
  exact X.baloadBytes hx (by rw [eT]; exact A.1) (State.isArrayOf_alike hZ.alike A.2.1) A.2.2 (out_of q h0 hj) (F _ hj) hg hs hd target k
theorem ary_cget (X : Stand p l e R s m args below meth c T locs cells slots) (hx : p.tables.exec = Jvm.exec) (hZ : Z.Warmed39 s.vm) (eT : T.heap = h) (A : Ary Z h a .char n f) {j : Int32} (h0 : ¬ j < 0) (hj : j.toNatClampNeg < n) {g : JFrame} (hg : g.method = m) {rest : List Value} (hs : g.stack = .int j :: .ref a :: rest) (hd : decode c.code g.pc = .ok (.caload, 1)) {v : Value} (hv : f j.toNatClampNeg = v) (target : State)
    (k : Steps p.tables e below (T.setTop { g with pc := g.pc + 1, stack := v :: rest }) target) : Steps p.tables e below (T.setTop g) target := by
  subst hv; obtain ⟨cl, A, q, F⟩ := A
  exact X.caload hx (by rw [eT]; exact A.1) (State.isArrayOf_alike hZ.alike A.2.1) A.2.2 (out_of q h0 hj) (F _ hj) hg hs hd target k
theorem ary_aget (X : Stand p l e R s m args below meth c T locs cells slots) (hx : p.tables.exec = Jvm.exec) (hZ : Z.Warmed39 s.vm) (eT : T.heap = h) (A : Ary Z h a ty n f) (hr : ty.isReference = true) {j : Int32} (h0 : ¬ j < 0) (hj : j.toNatClampNeg < n) {g : JFrame} (hg : g.method = m) {rest : List Value} (hs : g.stack = .int j :: .ref a :: rest) (hd : decode c.code g.pc = .ok (.aaload, 1)) {v : Value} (hv : f j.toNatClampNeg = v) (target : State)
    (k : Steps p.tables e below (T.setTop { g with pc := g.pc + 1, stack := v :: rest }) target) : Steps p.tables e below (T.setTop g) target := by
  subst hv; obtain ⟨cl, A, q, F⟩ := A
  exact X.aaload hx (by rw [eT]; exact A.1) (State.isArrayOf_alike hZ.alike A.2.1) hr A.2.2 (out_of q h0 hj) (F _ hj) hg hs hd target k
theorem ary_len (X : Stand p l e R s m args below meth c T locs cells slots) (hx : p.tables.exec = Jvm.exec) (hZ : Z.Warmed39 s.vm) (eT : T.heap = h) (A : Ary Z h a ty n f) {g : JFrame} (hg : g.method = m) {rest : List Value} (hs : g.stack = .ref a :: rest) (hd : decode c.code g.pc = .ok (.arraylength, 1)) {z : Int32} (hv : n.toInt32 = z) (target : State)
    (k : Steps p.tables e below (T.setTop { g with pc := g.pc + 1, stack := .int z :: rest }) target) : Steps p.tables e below (T.setTop g) target := by
  subst hv; obtain ⟨cl, A, q, F⟩ := A
  subst q
  exact X.arraylength hx (by rw [eT]; exact A.1) (State.isArrayOf_alike hZ.alike A.2.1) hg hs hd target k
theorem ary_iset (X : Stand p l e R s m args below meth c T locs cells slots) (hx : p.tables.exec = Jvm.exec) (hZ : Z.Warmed39 s.vm) (eT : T.heap = h) (A : Ary Z h a .int n f) {j x : Int32} (h0 : ¬ j < 0) (hj : j.toNatClampNeg < n) {g : JFrame} (hg : g.method = m) {rest : List Value} (hs : g.stack = .int x :: .int j :: .ref a :: rest) (hd : decode c.code g.pc = .ok (.iastore, 1)) :
    ∃ T' h', Stand p l e R s m args below meth c T' (locs ++ [⟨a, j.toNatClampNeg⟩]) cells slots ∧ T'.heap = h' ∧ Wr h h' a j.toNatClampNeg (.int x) ∧ ∀ target, Steps p.tables e below (T'.setTop { g with pc := g.pc + 1, stack := rest }) target → Steps p.tables e below (T.setTop g) target := by
  obtain ⟨cl, A, q, F⟩ := A
  exact stI X hx hZ eT A (out_of q h0 hj) hg hs hd
theorem ary_lset (X : Stand p l e R s m args below meth c T locs cells slots) (hx : p.tables.exec = Jvm.exec) (hZ : Z.Warmed39 s.vm) (eT : T.heap = h) (A : Ary Z h a .long n f) {j : Int32} {x : Int64} (h0 : ¬ j < 0) (hj : j.toNatClampNeg < n) {g : JFrame} (hg : g.method = m) {rest : List Value} (hs : g.stack = .long x :: .int j :: .ref a :: rest) (hd : decode c.code g.pc = .ok (.lastore, 1)) :
    ∃ T' h', Stand p l e R s m args below meth c T' (locs ++ [⟨a, j.toNatClampNeg⟩]) cells slots ∧ T'.heap = h' ∧ Wr h h' a j.toNatClampNeg (.long x) ∧ ∀ target, Steps p.tables e below (T'.setTop { g with pc := g.pc + 1, stack := rest }) target → Steps p.tables e below (T.setTop g) target := by
  obtain ⟨cl, A, q, F⟩ := A
  exact stJ X hx hZ eT A (out_of q h0 hj) hg hs hd
theorem ary_bset (X : Stand p l e R s m args below meth c T locs cells slots) (hx : p.tables.exec = Jvm.exec) (hZ : Z.Warmed39 s.vm) (eT : T.heap = h) (A : Ary Z h a .byte n f) {j x y : Int32} (h0 : ¬ j < 0) (hj : j.toNatClampNeg < n) {g : JFrame} (hg : g.method = m) {rest : List Value} (hs : g.stack = .int x :: .int j :: .ref a :: rest) (hd : decode c.code g.pc = .ok (.bastore, 1)) (hy : x.toInt8.toInt32 = y) :
    ∃ T' h', Stand p l e R s m args below meth c T' (locs ++ [⟨a, j.toNatClampNeg⟩]) cells slots ∧ T'.heap = h' ∧ Wr h h' a j.toNatClampNeg (.int y) ∧ ∀ target, Steps p.tables e below (T'.setTop { g with pc := g.pc + 1, stack := rest }) target → Steps p.tables e below (T.setTop g) target := by
  subst hy; obtain ⟨cl, A, q, F⟩ := A
  exact stB X hx hZ eT A (out_of q h0 hj) hg hs hd
theorem ary_cset (X : Stand p l e R s m args below meth c T locs cells slots) (hx : p.tables.exec = Jvm.exec) (hZ : Z.Warmed39 s.vm) (eT : T.heap = h) (A : Ary Z h a .char n f) {j x y : Int32} (h0 : ¬ j < 0) (hj : j.toNatClampNeg < n) {g : JFrame} (hg : g.method = m) {rest : List Value} (hs : g.stack = .int x :: .int j :: .ref a :: rest) (hd : decode c.code g.pc = .ok (.castore, 1)) (hy : nar .char x = y) :
    ∃ T' h', Stand p l e R s m args below meth c T' (locs ++ [⟨a, j.toNatClampNeg⟩]) cells slots ∧ T'.heap = h' ∧ Wr h h' a j.toNatClampNeg (.int y) ∧ ∀ target, Steps p.tables e below (T'.setTop { g with pc := g.pc + 1, stack := rest }) target → Steps p.tables e below (T.setTop g) target := by
  subst hy; obtain ⟨cl, A, q, F⟩ := A
  exact stC X hx hZ eT A (out_of q h0 hj) hg hs hd
theorem arr_set (X : Stand p l e R s m args below meth c T locs cells slots) (hx : p.tables.exec = Jvm.exec) (hZ : Z.Warmed39 s.vm) (eT : T.heap = h) (A : ArR Z h a K n f) {j : Int32} {y : Addr} (I : Ins Z h y K true) (h0 : ¬ j < 0) (hj : j.toNatClampNeg < n) {g : JFrame} (hg : g.method = m) {rest : List Value} (hs : g.stack = .ref y :: .int j :: .ref a :: rest) (hd : decode c.code g.pc = .ok (.aastore, 1)) :
    ∃ T' h', Stand p l e R s m args below meth c T' (locs ++ [⟨a, j.toNatClampNeg⟩]) cells slots ∧ T'.heap = h' ∧ Wr h h' a j.toNatClampNeg (.ref y) ∧ ∀ target, Steps p.tables e below (T'.setTop { g with pc := g.pc + 1, stack := rest }) target → Steps p.tables e below (T.setTop g) target := by
  obtain ⟨cl, A, O, q, F⟩ := A
  exact stR X hx hZ eT A (out_of q h0 hj) rfl (Sto.of A O I) hg hs hd
end Arrays
theorem nar_ite (P : Prop) [Decidable P] : nar .boolean (if P then (1 : Int32) else 0) = if P then 1 else 0 := by by_cases q : P <;> simp [q] <;> rfl
theorem cat_ref {w : Value} (q : w.isRef = true) : w.category = 1 := by cases w <;> first | rfl | (simp [Value.isRef] at q)
theorem upd_hit {g f : Nat → Value} {k : Nat} {w : Value} (q : g = fun i => if i = k then w else f i) : g k = w := by rw [q]; exact if_pos rfl
theorem upd_miss {g f : Nat → Value} {k j : Nat} {w u : Value} (q : g = fun i => if i = k then w else f i) (ne : ¬ j = k) (r : f j = u) : g j = u := by rw [q]; exact (if_neg ne).trans r
theorem upd_c {g : Nat → Value} {j : Nat} {w : Value} (q : g = fun _ => w) : g j = w := by rw [q]
theorem b_idem (x : Int32) : x.toInt8.toInt32.toInt8.toInt32 = x.toInt8.toInt32 := by rw [Int8.toInt8_toInt32]
theorem isI_c (x : Int32) : ∀ n : Nat, ∃ y, (fun _ => Value.int x) n = Value.int y := fun _ => ⟨x, rfl⟩
theorem isI_s {f : Nat → Value} (q : ∀ n, ∃ y, f n = Value.int y) (k : Nat) (x : Int32) : ∀ n, ∃ y, (fun i => if i = k then Value.int x else f i) n = Value.int y := fun n => by
  by_cases e : n = k
  · exact ⟨x, if_pos e⟩
  · obtain ⟨y, hy⟩ := q n
    exact ⟨y, (if_neg e).trans hy⟩
end Own
def own_pw (i : Nat) : Int64 := Int64.ofNat (10 ^ i)
theorem own_pw_i (i : Nat) (h : i < 12) : (own_pw i).toInt = (10 ^ i : Nat) := by
  match i, h with
  | 0, _ => decide
  | 1, _ => decide
  | 2, _ => decide
  | 3, _ => decide
  | 4, _ => decide
  | 5, _ => decide
  | 6, _ => decide
  | 7, _ => decide
  | 8, _ => decide
  | 9, _ => decide
  | 10, _ => decide
  | 11, _ => decide
theorem own_pw_nz (i : Nat) (h : i < 12) : ¬ (own_pw i = 0) := fun e => by
  have q := own_pw_i i h
  rw [e] at q
  have : 0 < 10 ^ i := Nat.pow_pos (by decide)
  have e0 : (0 : Int64).toInt = 0 := rfl
  omega
theorem own_ixc {k s n : Int32} (hs0 : ¬ s < 0) (hs3 : ¬ (3 : Int32) < s) (hl0 : ¬ n < 0) (hl11 : ¬ (11 : Int32) < n) (h1 : ¬ k < s) (h2 : k < s + n) : ¬ ((n - (1 : Int32)) - (k - s)) < 0 ∧ ((n - (1 : Int32)) - (k - s)).toNatClampNeg < 12 ∧ ((n - (1 : Int32)) - (k - s)).toNatClampNeg = n.toNatClampNeg - 1 - (k.toNatClampNeg - s.toNatClampNeg) ∧ k.toNatClampNeg < s.toNatClampNeg + n.toNatClampNeg ∧ s.toNatClampNeg ≤ k.toNatClampNeg ∧ (k - s).toInt = k.toInt - s.toInt ∧ ¬ k < 0 := by
  have e0 : (0 : Int32).toInt = 0 := rfl
  have e1 : (1 : Int32).toInt = 1 := rfl
  have e3 : (3 : Int32).toInt = 3 := rfl
  have e11 : (11 : Int32).toInt = 11 := rfl
  have a1 := c_iadd s n
  have a2 := c_isub n 1
  have a3 := c_isub k s
  have a4 := c_isub (n - 1) (k - s)
  have := rng32 s
  have := rng32 n
  have := rng32 k
  have := rng32 (s + n)
  have := rng32 (n - 1)
  have := rng32 (k - s)
  have := rng32 ((n - 1) - (k - s))
  simp only [Int32.lt_iff_toInt_lt, Int32.toNatClampNeg] at *
  omega
theorem own_lti {i b : Int32} (h0 : ¬ i < 0) (h : i < b) : i.toNatClampNeg < b.toNatClampNeg := by
  have e0 : (0 : Int32).toInt = 0 := rfl
  simp only [Int32.lt_iff_toInt_lt, Int32.toNatClampNeg] at *
  omega
theorem own_nlti {i b : Int32} (h0 : ¬ i < 0) (hb : ¬ b < 0) (h : ¬ i < b) : b.toNatClampNeg ≤ i.toNatClampNeg := by
  have e0 : (0 : Int32).toInt = 0 := rfl
  simp only [Int32.lt_iff_toInt_lt, Int32.toNatClampNeg] at *
  omega
theorem own_succ {i : Int32} {n : Nat} (h0 : ¬ i < 0) (h : i.toNatClampNeg < n) (hn : n ≤ 2147483647 := by omega) : (i + (1 : Int32)).toNatClampNeg = i.toNatClampNeg + 1 ∧ ¬ (i + (1 : Int32)) < 0 := by
  have e0 : (0 : Int32).toInt = 0 := rfl
  have e1 : (1 : Int32).toInt = 1 := rfl
  have q := c_iadd i 1
  have := rng32 i
  have := rng32 (i + 1)
  simp only [Int32.lt_iff_toInt_lt, Int32.toNatClampNeg] at *
  omega
def own_iv : Value → Int32
  | .int x => x
  | _ => 0
def own_acc (f : Nat → Value) (s : Nat) : Nat → Option Int64
  | 0 => some 0
  | i + 1 => match own_acc f s i with
    | none => none
    | some a => if own_iv (f (s + i)) < (48 : Int32) ∨ (57 : Int32) < own_iv (f (s + i)) then none else some (a * (10 : Int64) + ((own_iv (f (s + i)) - (48 : Int32)).toInt64))
def own_u32 (f : Nat → Value) (a b : Int32) : Int64 := if b = a then (-1 : Int64) else if (10 : Int32) < (b - a) then (-1 : Int64) else match own_acc f a.toNatClampNeg (b.toNatClampNeg - a.toNatClampNeg) with
  | none => (-1 : Int64)
  | some w => if (4294967295 : Int64) < w then (-1 : Int64) else w
theorem own_acc_step {f : Nat → Value} {a i b : Int32} {acc : Int64} {e : Int32} (h0 : ¬ i < 0) (hb : i.toNatClampNeg < b.toNatClampNeg) (h1 : a.toNatClampNeg ≤ i.toNatClampNeg) (hacc : own_acc f a.toNatClampNeg (i.toNatClampNeg - a.toNatClampNeg) = some acc) (he : f i.toNatClampNeg = .int e) (q1 : ¬ e < (48 : Int32)) (q2 : ¬ (57 : Int32) < e) :
    own_acc f a.toNatClampNeg ((i + (1 : Int32)).toNatClampNeg - a.toNatClampNeg) = some (acc * (10 : Int64) + ((e - (48 : Int32)).toInt64)) := by
  have := i.toInt_lt
  rw [(own_succ (n := b.toNatClampNeg) h0 hb (by have := b.toInt_lt; rw [Int32.toNatClampNeg]; omega)).1, show i.toNatClampNeg + 1 - a.toNatClampNeg = (i.toNatClampNeg - a.toNatClampNeg) + 1 from by omega, own_acc, hacc]
  simp only []
  rw [show a.toNatClampNeg + (i.toNatClampNeg - a.toNatClampNeg) = i.toNatClampNeg from by omega, he, own_iv, if_neg (fun q => q.elim q1 q2)]
theorem own_acc_none {f : Nat → Value} {s i : Nat} (h : own_acc f s i = none) : ∀ k, own_acc f s (i + k) = none
  | 0 => h
  | k + 1 => by rw [← Nat.add_assoc, own_acc, own_acc_none h k]
theorem own_u_a {f : Nat → Value} {a b : Int32} (h : (b = a) ∨ ((10 : Int32) < (b - a))) : (-1 : Int64) = own_u32 f a b := by
  unfold own_u32
  by_cases q : b = a
  · rw [if_pos q]
  · rw [if_neg q, if_pos (h.resolve_left q)]
theorem own_u_b {f : Nat → Value} {a b i : Int32} {acc : Int64} {e : Int32} (n1 : ¬ (b = a)) (n2 : ¬ ((10 : Int32) < (b - a))) (h0 : ¬ i < 0) (hb : i.toNatClampNeg < b.toNatClampNeg) (h1 : a.toNatClampNeg ≤ i.toNatClampNeg) (hacc : own_acc f a.toNatClampNeg (i.toNatClampNeg - a.toNatClampNeg) = some acc) (he : f i.toNatClampNeg = .int e) (q : e < (48 : Int32) ∨ (57 : Int32) < e) : (-1 : Int64) = own_u32 f a b := by
  have z : own_acc f a.toNatClampNeg ((i.toNatClampNeg - a.toNatClampNeg) + 1) = none := by
    rw [own_acc, hacc]
    simp only []
    rw [show a.toNatClampNeg + (i.toNatClampNeg - a.toNatClampNeg) = i.toNatClampNeg from by omega, he, own_iv, if_pos q]
  have z2 := own_acc_none z (b.toNatClampNeg - i.toNatClampNeg - 1)
  rw [show (i.toNatClampNeg - a.toNatClampNeg) + 1 + (b.toNatClampNeg - i.toNatClampNeg - 1) = b.toNatClampNeg - a.toNatClampNeg from by omega] at z2
  unfold own_u32
  rw [if_neg n1, if_neg n2, z2]
theorem own_u_c {f : Nat → Value} {a b i : Int32} {acc w : Int64} (n1 : ¬ (b = a)) (n2 : ¬ ((10 : Int32) < (b - a))) (h0 : ¬ i < 0) (hb : i.toNatClampNeg ≤ b.toNatClampNeg) (hb2 : b.toNatClampNeg ≤ i.toNatClampNeg) (hacc : own_acc f a.toNatClampNeg (i.toNatClampNeg - a.toNatClampNeg) = some acc) (hw : w = (if ((4294967295 : Int64) < acc) then (-1 : Int64) else acc)) : w = own_u32 f a b := by
  have e : i.toNatClampNeg = b.toNatClampNeg := by omega
  rw [e] at hacc
  unfold own_u32
  rw [if_neg n1, if_neg n2, hacc, hw]

theorem d1_0 : decode method_3_code 0 = .ok (.iload_n 0, 1) := by decide +kernel
theorem d1_1 : decode method_3_code 1 = .ok (.iload_n 1, 1) := by decide +kernel
theorem d1_2 : decode method_3_code 2 = .ok (.if_icmp .lt 10, 3) := by decide +kernel
theorem d1_12 : decode method_3_code 12 = .ok (.iload 9, 2) := by decide +kernel
theorem d1_14 : decode method_3_code 14 = .ok (.iconst 2, 1) := by decide +kernel
theorem d1_15 : decode method_3_code 15 = .ok (.iload_n 0, 1) := by decide +kernel
theorem d1_16 : decode method_3_code 16 = .ok (.imul, 1) := by decide +kernel
theorem d1_17 : decode method_3_code 17 = .ok (.iushr, 1) := by decide +kernel
theorem d1_18 : decode method_3_code 18 = .ok (.i2b, 1) := by decide +kernel
theorem d1_19 : decode method_3_code 19 = .ok (.ireturn, 1) := by decide +kernel
theorem d1_5 : decode method_3_code 5 = .ok (.iload_n 0, 1) := by decide +kernel
theorem d1_6 : decode method_3_code 6 = .ok (.iload_n 1, 1) := by decide +kernel
theorem d1_7 : decode method_3_code 7 = .ok (.iload_n 2, 1) := by decide +kernel
theorem d1_8 : decode method_3_code 8 = .ok (.iadd, 1) := by decide +kernel
theorem d1_9 : decode method_3_code 9 = .ok (.if_icmp .lt 11, 3) := by decide +kernel
theorem d1_20 : decode method_3_code 20 = .ok (.iload_n 0, 1) := by decide +kernel
theorem d1_21 : decode method_3_code 21 = .ok (.iload_n 1, 1) := by decide +kernel
theorem d1_22 : decode method_3_code 22 = .ok (.isub, 1) := by decide +kernel
theorem d1_23 : decode method_3_code 23 = .ok (.istore 10, 2) := by decide +kernel
theorem d1_25 : decode method_3_code 25 = .ok (.iload 6, 2) := by decide +kernel
theorem d1_27 : decode method_3_code 27 = .ok (.ifCond .eq 13, 3) := by decide +kernel
theorem d1_40 : decode method_3_code 40 = .ok (.ldc2_w 49, 3) := by decide +kernel
theorem d1_43 : decode method_3_code 43 = .ok (.lload_n 3, 1) := by decide +kernel
theorem d1_44 : decode method_3_code 44 = .ok (.aload 5, 2) := by decide +kernel
theorem d1_46 : decode method_3_code 46 = .ok (.iload_n 2, 1) := by decide +kernel
theorem d1_47 : decode method_3_code 47 = .ok (.iconst 1, 1) := by decide +kernel
theorem d1_48 : decode method_3_code 48 = .ok (.isub, 1) := by decide +kernel
theorem d1_49 : decode method_3_code 49 = .ok (.iload 10, 2) := by decide +kernel
theorem d1_51 : decode method_3_code 51 = .ok (.isub, 1) := by decide +kernel
theorem d1_52 : decode method_3_code 52 = .ok (.laload, 1) := by decide +kernel
theorem d1_53 : decode method_3_code 53 = .ok (.ldiv, 1) := by decide +kernel
theorem d1_54 : decode method_3_code 54 = .ok (.ldc2_w 7, 3) := by decide +kernel
theorem d1_57 : decode method_3_code 57 = .ok (.lrem, 1) := by decide +kernel
theorem d1_58 : decode method_3_code 58 = .ok (.ladd, 1) := by decide +kernel
theorem d1_59 : decode method_3_code 59 = .ok (.l2i, 1) := by decide +kernel
theorem d1_60 : decode method_3_code 60 = .ok (.i2b, 1) := by decide +kernel
theorem d1_61 : decode method_3_code 61 = .ok (.ireturn, 1) := by decide +kernel
theorem d1_30 : decode method_3_code 30 = .ok (.iload 10, 2) := by decide +kernel
theorem d1_32 : decode method_3_code 32 = .ok (.iload 7, 2) := by decide +kernel
theorem d1_34 : decode method_3_code 34 = .ok (.if_icmp .ne 6, 3) := by decide +kernel
theorem d1_37 : decode method_3_code 37 = .ok (.iload 8, 2) := by decide +kernel
theorem d1_39 : decode method_3_code 39 = .ok (.ireturn, 1) := by decide +kernel
def F_rm1 (p1 : Int32) (p2 : Int32) (p3 : Int32) (q4 : Int64) (p6 : Int32) (p7 : Int32) (p8 : Int32) (p9 : Int32) : Int32 := (if (p1 < p2) then (((p9.toUInt32 >>> (((2 : Int32) * p1) &&& 31).toUInt32).toInt32).toInt8.toInt32) else (if (p1 < (p2 + p3)) then (if (p6 = (0 : Int32)) then ((((48 : Int64) + ((q4 / (own_pw ((p3 - (1 : Int32)) - (p1 - p2)).toNatClampNeg)) - ((q4 / (own_pw ((p3 - (1 : Int32)) - (p1 - p2)).toNatClampNeg)) / (10 : Int64)) * (10 : Int64))).toInt32).toInt8.toInt32) else (if ((p1 - p2) = p7) then p8 else ((((48 : Int64) + ((q4 / (own_pw ((p3 - (1 : Int32)) - (p1 - p2)).toNatClampNeg)) - ((q4 / (own_pw ((p3 - (1 : Int32)) - (p1 - p2)).toNatClampNeg)) / (10 : Int64)) * (10 : Int64))).toInt32).toInt8.toInt32))) else (((p9.toUInt32 >>> (((2 : Int32) * p1) &&& 31).toUInt32).toInt32).toInt8.toInt32)))
def Q_rm1 (Z : State) (p1 : Int32) (p2 : Int32) (p3 : Int32) (q4 : Int64) (a5 : Addr) (p6 : Int32) (p7 : Int32) (p8 : Int32) (p9 : Int32) (f_a5 : Nat → Value) (h0 : Heap) (n0 : Nat) (v : Option Value) (h : Heap) (L : List Loc) : Prop := v = some (.int (F_rm1 p1 p2 p3 q4 p6 p7 p8 p9)) ∧ Fr n0 L ∧ h = h0
theorem ef_rm1 (m : MethodId) (x0 : Int32) (x1 : Int32) (x2 : Int32) (x3 : Int64) (x4 : Addr) (x5 : Int32) (x6 : Int32) (x7 : Int32) (x8 : Int32) : entryFrame m #[(.int x0), (.int x1), (.int x2), (.long x3), (.ref x4), (.int x5), (.int x6), (.int x7), (.int x8)] 11 = mkF m 0 #[.val (.int x0), .val (.int x1), .val (.int x2), .val (.long x3), .second, .val (.ref x4), .val (.int x5), .val (.int x6), .val (.int x7), .val (.int x8), .unset] [] := by first | (simp [entryFrame, mkF, argsToLocals, Value.category]; done) | rfl
theorem pn_0 : plainName "com/example/comera/comera/sip/SyntaxUnsigned32PinLaw" = true := by first | (simp [plainName, overriddenIn]; done) | decide +kernel
set_option maxRecDepth 65536 in
set_option maxHeartbeats 40000000 in
theorem rm1 (l : Launch) (Z : State) (a0 : Array Value) (hw : ∀ d ∈ tables_1, d.before a0 Z = true) (ws : List Jvm.Cond) (p1 : Int32) (p2 : Int32) (p3 : Int32) (q4 : Int64) (a5 : Addr) (p6 : Int32) (p7 : Int32) (p8 : Int32) (p9 : Int32) (f_a5 : Nat → Value) (h0 : Heap) (n0 : Nat) (Z0 : n0 ≤ h0.size) (A_a5 : Ary Z h0 a5 .long 12 f_a5) (hpw : ∀ i, i < 12 → f_a5 i = Value.long (own_pw i)) (hs0 : ¬ p2 < 0) (hs3 : ¬ (3 : Int32) < p2) (hl0 : ¬ p3 < 0) (hl11 : ¬ (11 : Int32) < p3) (hib : p8.toInt8.toInt32 = p8) :
    MetFree l (⟨"com/example/comera/comera/sip/SyntaxUnsigned32PinLaw", "cell", "(IIIJ[JZIBI)B"⟩ : MethodName) (head1 (Jvm.Cond.code (⟨"com/example/comera/comera/sip/SyntaxUnsigned32PinLaw", "cell", "(IIIJ[JZIBI)B"⟩ : MethodName) method_3_code 11 (some .byte) :: ws) ({ frames := 0, cells := 0, slots := 0, locals := 0 } : Room)) (fun a U => a = #[(.int p1), (.int p2), (.int p3), (.long q4), (.ref a5), (.int p6), (.int p7), (.int p8), (.int p9)] ∧ Z.Warmed39 U.vm ∧ U.heap = h0) (fun _ _ _ _ _ => True) (fun _ U o U' => ∃ v L, o = .returned v ∧ Q_rm1 Z p1 p2 p3 q4 a5 p6 p7 p8 p9 f_a5 h0 n0 v U'.heap L ∧ FrameEnd U o U' L ({ frames := 0, cells := 0, slots := 0, locals := 0 } : Room).cells ({ frames := 0, cells := 0, slots := 0, locals := 0 } : Room).slots) := by
  refine MetFree.of_bodySF (plainFor_of_name pn_0) hisR ?_
  intro p e s m args below meth c s₁ Bd hml0 hP hK
  obtain ⟨rfl, hZ, hh⟩ := hP
  have hx := Bd.exec
  have hby := Bd.bytes
  have hml : c.maxLocals = 11 := hml0
  have hown : s.vm.findClass "com/example/comera/comera/sip/SyntaxUnsigned32PinLaw" = some m.cls := findClass_of_methodNamed Bd.named
  have hnm := (name_of_methodNamed Bd.named Bd.method).1
  have X0 : Stand p l e ({ frames := 0, cells := 0, slots := 0, locals := 0 } : Room) s m #[(.int p1), (.int p2), (.int p3), (.long q4), (.ref a5), (.int p6), (.int p7), (.int p8), (.int p9)] below meth c s₁ [] 0 0 := Stand.of_body Bd
  have e0 : s₁.heap = h0 := by rw [← hh, Bd.state]; rfl
  have N0 := Fr.nil n0
  show Run p e below s 0 0 (Q_rm1 Z p1 p2 p3 q4 a5 p6 p7 p8 p9 f_a5 h0 n0) (s₁.setTop (entryFrame m #[(.int p1), (.int p2), (.int p3), (.long q4), (.ref a5), (.int p6), (.int p7), (.int p8), (.int p9)] 11))
  refine Run.go (fun _ k => castTop (ef_rm1 m p1 p2 p3 q4 a5 p6 p7 p8 p9) k) ?_
  show Run p e below s 0 0 (Q_rm1 Z p1 p2 p3 q4 a5 p6 p7 p8 p9 f_a5 h0 n0) (s₁.setTop (mkF m 0 #[.val (.int p1), .val (.int p2), .val (.int p3), .val (.long q4), .second, .val (.ref a5), .val (.int p6), .val (.int p7), .val (.int p8), .val (.int p9), .unset] []))
  refine Run.go (fun _ k => XS.iloadN X0.here hx rfl (hb hby d1_0) rfl  k) ?_
  show Run p e below s 0 0 (Q_rm1 Z p1 p2 p3 q4 a5 p6 p7 p8 p9 f_a5 h0 n0) (s₁.setTop (mkF m 1 #[.val (.int p1), .val (.int p2), .val (.int p3), .val (.long q4), .second, .val (.ref a5), .val (.int p6), .val (.int p7), .val (.int p8), .val (.int p9), .unset] [(.int p1)]))
  refine Run.go (fun _ k => XS.iloadN X0.here hx rfl (hb hby d1_1) rfl  k) ?_
  show Run p e below s 0 0 (Q_rm1 Z p1 p2 p3 q4 a5 p6 p7 p8 p9 f_a5 h0 n0) (s₁.setTop (mkF m 2 #[.val (.int p1), .val (.int p2), .val (.int p3), .val (.long q4), .second, .val (.ref a5), .val (.int p6), .val (.int p7), .val (.int p8), .val (.int p9), .unset] [(.int p2), (.int p1)]))
  by_cases hc1 : (p1 < p2)
  · refine Run.go (fun _ k => XS.icmpYes X0.here hx rfl (pc0 := 2) (pc' := 12) rfl (hb hby d1_2) rfl (tlt hc1).1 (by decide) (by decide) k) ?_
    show Run p e below s 0 0 (Q_rm1 Z p1 p2 p3 q4 a5 p6 p7 p8 p9 f_a5 h0 n0) (s₁.setTop (mkF m 12 #[.val (.int p1), .val (.int p2), .val (.int p3), .val (.long q4), .second, .val (.ref a5), .val (.int p6), .val (.int p7), .val (.int p8), .val (.int p9), .unset] []))
    refine Run.go (fun _ k => XS.iload X0.here hx rfl (hb hby d1_12) rfl  k) ?_
    show Run p e below s 0 0 (Q_rm1 Z p1 p2 p3 q4 a5 p6 p7 p8 p9 f_a5 h0 n0) (s₁.setTop (mkF m 14 #[.val (.int p1), .val (.int p2), .val (.int p3), .val (.long q4), .second, .val (.ref a5), .val (.int p6), .val (.int p7), .val (.int p8), .val (.int p9), .unset] [(.int p9)]))
    refine Run.go (fun _ k => XS.iconst X0.here hx rfl (hb hby d1_14) k) ?_
    show Run p e below s 0 0 (Q_rm1 Z p1 p2 p3 q4 a5 p6 p7 p8 p9 f_a5 h0 n0) (s₁.setTop (mkF m 15 #[.val (.int p1), .val (.int p2), .val (.int p3), .val (.long q4), .second, .val (.ref a5), .val (.int p6), .val (.int p7), .val (.int p8), .val (.int p9), .unset] [(.int (2 : Int32)), (.int p9)]))
    refine Run.go (fun _ k => XS.iloadN X0.here hx rfl (hb hby d1_15) rfl  k) ?_
    show Run p e below s 0 0 (Q_rm1 Z p1 p2 p3 q4 a5 p6 p7 p8 p9 f_a5 h0 n0) (s₁.setTop (mkF m 16 #[.val (.int p1), .val (.int p2), .val (.int p3), .val (.long q4), .second, .val (.ref a5), .val (.int p6), .val (.int p7), .val (.int p8), .val (.int p9), .unset] [(.int p1), (.int (2 : Int32)), (.int p9)]))
    refine Run.go (fun _ k => XS.imul X0.here hx rfl (hb hby d1_16) rfl k) ?_
    show Run p e below s 0 0 (Q_rm1 Z p1 p2 p3 q4 a5 p6 p7 p8 p9 f_a5 h0 n0) (s₁.setTop (mkF m 17 #[.val (.int p1), .val (.int p2), .val (.int p3), .val (.long q4), .second, .val (.ref a5), .val (.int p6), .val (.int p7), .val (.int p8), .val (.int p9), .unset] [(.int ((2 : Int32) * p1)), (.int p9)]))
    refine Run.go (fun _ k => XS.iushr X0.here hx rfl (hb hby d1_17) rfl k) ?_
    show Run p e below s 0 0 (Q_rm1 Z p1 p2 p3 q4 a5 p6 p7 p8 p9 f_a5 h0 n0) (s₁.setTop (mkF m 18 #[.val (.int p1), .val (.int p2), .val (.int p3), .val (.long q4), .second, .val (.ref a5), .val (.int p6), .val (.int p7), .val (.int p8), .val (.int p9), .unset] [(.int ((p9.toUInt32 >>> (((2 : Int32) * p1) &&& 31).toUInt32).toInt32))]))
    refine Run.go (fun _ k => XS.i2b X0.here hx rfl (hb hby d1_18) rfl k) ?_
    show Run p e below s 0 0 (Q_rm1 Z p1 p2 p3 q4 a5 p6 p7 p8 p9 f_a5 h0 n0) (s₁.setTop (mkF m 19 #[.val (.int p1), .val (.int p2), .val (.int p3), .val (.long q4), .second, .val (.ref a5), .val (.int p6), .val (.int p7), .val (.int p8), .val (.int p9), .unset] [(.int (((p9.toUInt32 >>> (((2 : Int32) * p1) &&& 31).toUInt32).toInt32).toInt8.toInt32))]))
    refine Run.retN (y := (((p9.toUInt32 >>> (((2 : Int32) * p1) &&& 31).toUInt32).toInt32).toInt8.toInt32)) X0 hx (t := .byte) Bd.returns (by simp) (b_idem _) Bd.notSynchronized (hb hby d1_19) (by decide) (by decide) ?_
    show Q_rm1 Z p1 p2 p3 q4 a5 p6 p7 p8 p9 f_a5 h0 n0 _ s₁.heap _
    exact ⟨congrArg some (congrArg Value.int (show (((p9.toUInt32 >>> (((2 : Int32) * p1) &&& 31).toUInt32).toInt32).toInt8.toInt32) = (F_rm1 p1 p2 p3 q4 p6 p7 p8 p9) from (by unfold F_rm1; rw [if_pos hc1]))), N0, e0⟩
  · refine Run.go (fun _ k => XS.icmpNo X0.here hx rfl (hb hby d1_2) rfl (flt hc1).1 k) ?_
    show Run p e below s 0 0 (Q_rm1 Z p1 p2 p3 q4 a5 p6 p7 p8 p9 f_a5 h0 n0) (s₁.setTop (mkF m 5 #[.val (.int p1), .val (.int p2), .val (.int p3), .val (.long q4), .second, .val (.ref a5), .val (.int p6), .val (.int p7), .val (.int p8), .val (.int p9), .unset] []))
    refine Run.go (fun _ k => XS.iloadN X0.here hx rfl (hb hby d1_5) rfl  k) ?_
    show Run p e below s 0 0 (Q_rm1 Z p1 p2 p3 q4 a5 p6 p7 p8 p9 f_a5 h0 n0) (s₁.setTop (mkF m 6 #[.val (.int p1), .val (.int p2), .val (.int p3), .val (.long q4), .second, .val (.ref a5), .val (.int p6), .val (.int p7), .val (.int p8), .val (.int p9), .unset] [(.int p1)]))
    refine Run.go (fun _ k => XS.iloadN X0.here hx rfl (hb hby d1_6) rfl  k) ?_
    show Run p e below s 0 0 (Q_rm1 Z p1 p2 p3 q4 a5 p6 p7 p8 p9 f_a5 h0 n0) (s₁.setTop (mkF m 7 #[.val (.int p1), .val (.int p2), .val (.int p3), .val (.long q4), .second, .val (.ref a5), .val (.int p6), .val (.int p7), .val (.int p8), .val (.int p9), .unset] [(.int p2), (.int p1)]))
    refine Run.go (fun _ k => XS.iloadN X0.here hx rfl (hb hby d1_7) rfl  k) ?_
    show Run p e below s 0 0 (Q_rm1 Z p1 p2 p3 q4 a5 p6 p7 p8 p9 f_a5 h0 n0) (s₁.setTop (mkF m 8 #[.val (.int p1), .val (.int p2), .val (.int p3), .val (.long q4), .second, .val (.ref a5), .val (.int p6), .val (.int p7), .val (.int p8), .val (.int p9), .unset] [(.int p3), (.int p2), (.int p1)]))
    refine Run.go (fun _ k => XS.iadd X0.here hx rfl (hb hby d1_8) rfl k) ?_
    show Run p e below s 0 0 (Q_rm1 Z p1 p2 p3 q4 a5 p6 p7 p8 p9 f_a5 h0 n0) (s₁.setTop (mkF m 9 #[.val (.int p1), .val (.int p2), .val (.int p3), .val (.long q4), .second, .val (.ref a5), .val (.int p6), .val (.int p7), .val (.int p8), .val (.int p9), .unset] [(.int (p2 + p3)), (.int p1)]))
    by_cases hc2 : (p1 < (p2 + p3))
    · refine Run.go (fun _ k => XS.icmpYes X0.here hx rfl (pc0 := 9) (pc' := 20) rfl (hb hby d1_9) rfl (tlt hc2).1 (by decide) (by decide) k) ?_
      show Run p e below s 0 0 (Q_rm1 Z p1 p2 p3 q4 a5 p6 p7 p8 p9 f_a5 h0 n0) (s₁.setTop (mkF m 20 #[.val (.int p1), .val (.int p2), .val (.int p3), .val (.long q4), .second, .val (.ref a5), .val (.int p6), .val (.int p7), .val (.int p8), .val (.int p9), .unset] []))
      refine Run.go (fun _ k => XS.iloadN X0.here hx rfl (hb hby d1_20) rfl  k) ?_
      show Run p e below s 0 0 (Q_rm1 Z p1 p2 p3 q4 a5 p6 p7 p8 p9 f_a5 h0 n0) (s₁.setTop (mkF m 21 #[.val (.int p1), .val (.int p2), .val (.int p3), .val (.long q4), .second, .val (.ref a5), .val (.int p6), .val (.int p7), .val (.int p8), .val (.int p9), .unset] [(.int p1)]))
      refine Run.go (fun _ k => XS.iloadN X0.here hx rfl (hb hby d1_21) rfl  k) ?_
      show Run p e below s 0 0 (Q_rm1 Z p1 p2 p3 q4 a5 p6 p7 p8 p9 f_a5 h0 n0) (s₁.setTop (mkF m 22 #[.val (.int p1), .val (.int p2), .val (.int p3), .val (.long q4), .second, .val (.ref a5), .val (.int p6), .val (.int p7), .val (.int p8), .val (.int p9), .unset] [(.int p2), (.int p1)]))
      refine Run.go (fun _ k => XS.isub X0.here hx rfl (hb hby d1_22) rfl k) ?_
      show Run p e below s 0 0 (Q_rm1 Z p1 p2 p3 q4 a5 p6 p7 p8 p9 f_a5 h0 n0) (s₁.setTop (mkF m 23 #[.val (.int p1), .val (.int p2), .val (.int p3), .val (.long q4), .second, .val (.ref a5), .val (.int p6), .val (.int p7), .val (.int p8), .val (.int p9), .unset] [(.int (p1 - p2))]))
      refine Run.go (fun _ k => XS.istore X0.here hx rfl (hb hby d1_23) rfl (l' := #[.val (.int p1), .val (.int p2), .val (.int p3), .val (.long q4), .second, .val (.ref a5), .val (.int p6), .val (.int p7), .val (.int p8), .val (.int p9), .val (.int (p1 - p2))]) rfl k) ?_
      show Run p e below s 0 0 (Q_rm1 Z p1 p2 p3 q4 a5 p6 p7 p8 p9 f_a5 h0 n0) (s₁.setTop (mkF m 25 #[.val (.int p1), .val (.int p2), .val (.int p3), .val (.long q4), .second, .val (.ref a5), .val (.int p6), .val (.int p7), .val (.int p8), .val (.int p9), .val (.int (p1 - p2))] []))
      refine Run.go (fun _ k => XS.iload X0.here hx rfl (hb hby d1_25) rfl  k) ?_
      show Run p e below s 0 0 (Q_rm1 Z p1 p2 p3 q4 a5 p6 p7 p8 p9 f_a5 h0 n0) (s₁.setTop (mkF m 27 #[.val (.int p1), .val (.int p2), .val (.int p3), .val (.long q4), .second, .val (.ref a5), .val (.int p6), .val (.int p7), .val (.int p8), .val (.int p9), .val (.int (p1 - p2))] [(.int p6)]))
      by_cases hc3 : (p6 = (0 : Int32))
      · refine Run.go (fun _ k => XS.ifYes X0.here hx rfl (pc0 := 27) (pc' := 40) rfl (hb hby d1_27) rfl ((if0 _ _).trans (teq hc3).1) (by decide) (by decide) k) ?_
        show Run p e below s 0 0 (Q_rm1 Z p1 p2 p3 q4 a5 p6 p7 p8 p9 f_a5 h0 n0) (s₁.setTop (mkF m 40 #[.val (.int p1), .val (.int p2), .val (.int p3), .val (.long q4), .second, .val (.ref a5), .val (.int p6), .val (.int p7), .val (.int p8), .val (.int p9), .val (.int (p1 - p2))] []))
        refine Run.go (fun _ k => X0.ldc2Long hx hown (mvT hZ (hw _ (List.mem_of_getElem? (i := 24) rfl))) (g := (mkF m 40 #[.val (.int p1), .val (.int p2), .val (.int p3), .val (.long q4), .second, .val (.ref a5), .val (.int p6), .val (.int p7), .val (.int p8), .val (.int p9), .val (.int (p1 - p2))] [])) rfl (hb hby d1_40) _ k) ?_
        show Run p e below s 0 0 (Q_rm1 Z p1 p2 p3 q4 a5 p6 p7 p8 p9 f_a5 h0 n0) (s₁.setTop (mkF m 43 #[.val (.int p1), .val (.int p2), .val (.int p3), .val (.long q4), .second, .val (.ref a5), .val (.int p6), .val (.int p7), .val (.int p8), .val (.int p9), .val (.int (p1 - p2))] [(.long (48 : Int64))]))
        refine Run.go (fun _ k => XS.lloadN X0.here hx rfl (hb hby d1_43) rfl  k) ?_
        show Run p e below s 0 0 (Q_rm1 Z p1 p2 p3 q4 a5 p6 p7 p8 p9 f_a5 h0 n0) (s₁.setTop (mkF m 44 #[.val (.int p1), .val (.int p2), .val (.int p3), .val (.long q4), .second, .val (.ref a5), .val (.int p6), .val (.int p7), .val (.int p8), .val (.int p9), .val (.int (p1 - p2))] [(.long q4), (.long (48 : Int64))]))
        refine Run.go (fun _ k => XS.aload X0.here hx rfl (hb hby d1_44) rfl rfl k) ?_
        show Run p e below s 0 0 (Q_rm1 Z p1 p2 p3 q4 a5 p6 p7 p8 p9 f_a5 h0 n0) (s₁.setTop (mkF m 46 #[.val (.int p1), .val (.int p2), .val (.int p3), .val (.long q4), .second, .val (.ref a5), .val (.int p6), .val (.int p7), .val (.int p8), .val (.int p9), .val (.int (p1 - p2))] [(.ref a5), (.long q4), (.long (48 : Int64))]))
        refine Run.go (fun _ k => XS.iloadN X0.here hx rfl (hb hby d1_46) rfl  k) ?_
        show Run p e below s 0 0 (Q_rm1 Z p1 p2 p3 q4 a5 p6 p7 p8 p9 f_a5 h0 n0) (s₁.setTop (mkF m 47 #[.val (.int p1), .val (.int p2), .val (.int p3), .val (.long q4), .second, .val (.ref a5), .val (.int p6), .val (.int p7), .val (.int p8), .val (.int p9), .val (.int (p1 - p2))] [(.int p3), (.ref a5), (.long q4), (.long (48 : Int64))]))
        refine Run.go (fun _ k => XS.iconst X0.here hx rfl (hb hby d1_47) k) ?_
        show Run p e below s 0 0 (Q_rm1 Z p1 p2 p3 q4 a5 p6 p7 p8 p9 f_a5 h0 n0) (s₁.setTop (mkF m 48 #[.val (.int p1), .val (.int p2), .val (.int p3), .val (.long q4), .second, .val (.ref a5), .val (.int p6), .val (.int p7), .val (.int p8), .val (.int p9), .val (.int (p1 - p2))] [(.int (1 : Int32)), (.int p3), (.ref a5), (.long q4), (.long (48 : Int64))]))
        refine Run.go (fun _ k => XS.isub X0.here hx rfl (hb hby d1_48) rfl k) ?_
        show Run p e below s 0 0 (Q_rm1 Z p1 p2 p3 q4 a5 p6 p7 p8 p9 f_a5 h0 n0) (s₁.setTop (mkF m 49 #[.val (.int p1), .val (.int p2), .val (.int p3), .val (.long q4), .second, .val (.ref a5), .val (.int p6), .val (.int p7), .val (.int p8), .val (.int p9), .val (.int (p1 - p2))] [(.int (p3 - (1 : Int32))), (.ref a5), (.long q4), (.long (48 : Int64))]))
        refine Run.go (fun _ k => XS.iload X0.here hx rfl (hb hby d1_49) rfl  k) ?_
        show Run p e below s 0 0 (Q_rm1 Z p1 p2 p3 q4 a5 p6 p7 p8 p9 f_a5 h0 n0) (s₁.setTop (mkF m 51 #[.val (.int p1), .val (.int p2), .val (.int p3), .val (.long q4), .second, .val (.ref a5), .val (.int p6), .val (.int p7), .val (.int p8), .val (.int p9), .val (.int (p1 - p2))] [(.int (p1 - p2)), (.int (p3 - (1 : Int32))), (.ref a5), (.long q4), (.long (48 : Int64))]))
        refine Run.go (fun _ k => XS.isub X0.here hx rfl (hb hby d1_51) rfl k) ?_
        show Run p e below s 0 0 (Q_rm1 Z p1 p2 p3 q4 a5 p6 p7 p8 p9 f_a5 h0 n0) (s₁.setTop (mkF m 52 #[.val (.int p1), .val (.int p2), .val (.int p3), .val (.long q4), .second, .val (.ref a5), .val (.int p6), .val (.int p7), .val (.int p8), .val (.int p9), .val (.int (p1 - p2))] [(.int ((p3 - (1 : Int32)) - (p1 - p2))), (.ref a5), (.long q4), (.long (48 : Int64))]))
        refine Run.go (fun _ k => ary_lget X0 hx hZ e0 A_a5 (j := ((p3 - (1 : Int32)) - (p1 - p2))) (own_ixc hs0 hs3 hl0 hl11 hc1 hc2).1 (own_ixc hs0 hs3 hl0 hl11 hc1 hc2).2.1 (g := (mkF m 52 #[.val (.int p1), .val (.int p2), .val (.int p3), .val (.long q4), .second, .val (.ref a5), .val (.int p6), .val (.int p7), .val (.int p8), .val (.int p9), .val (.int (p1 - p2))] [(.int ((p3 - (1 : Int32)) - (p1 - p2))), (.ref a5), (.long q4), (.long (48 : Int64))])) rfl rfl (hb hby d1_52) (hpw _ (own_ixc hs0 hs3 hl0 hl11 hc1 hc2).2.1) _ k) ?_
        show Run p e below s 0 0 (Q_rm1 Z p1 p2 p3 q4 a5 p6 p7 p8 p9 f_a5 h0 n0) (s₁.setTop (mkF m 53 #[.val (.int p1), .val (.int p2), .val (.int p3), .val (.long q4), .second, .val (.ref a5), .val (.int p6), .val (.int p7), .val (.int p8), .val (.int p9), .val (.int (p1 - p2))] [(.long (own_pw ((p3 - (1 : Int32)) - (p1 - p2)).toNatClampNeg)), (.long q4), (.long (48 : Int64))]))
        refine Run.go (fun _ k => XS.ldiv X0.here hx rfl (hb hby d1_53) rfl (own_pw_nz _ (own_ixc hs0 hs3 hl0 hl11 hc1 hc2).2.1) k) ?_
        show Run p e below s 0 0 (Q_rm1 Z p1 p2 p3 q4 a5 p6 p7 p8 p9 f_a5 h0 n0) (s₁.setTop (mkF m 54 #[.val (.int p1), .val (.int p2), .val (.int p3), .val (.long q4), .second, .val (.ref a5), .val (.int p6), .val (.int p7), .val (.int p8), .val (.int p9), .val (.int (p1 - p2))] [(.long (q4 / (own_pw ((p3 - (1 : Int32)) - (p1 - p2)).toNatClampNeg))), (.long (48 : Int64))]))
        refine Run.go (fun _ k => X0.ldc2Long hx hown (mvT hZ (hw _ (List.mem_of_getElem? (i := 1) rfl))) (g := (mkF m 54 #[.val (.int p1), .val (.int p2), .val (.int p3), .val (.long q4), .second, .val (.ref a5), .val (.int p6), .val (.int p7), .val (.int p8), .val (.int p9), .val (.int (p1 - p2))] [(.long (q4 / (own_pw ((p3 - (1 : Int32)) - (p1 - p2)).toNatClampNeg))), (.long (48 : Int64))])) rfl (hb hby d1_54) _ k) ?_
        show Run p e below s 0 0 (Q_rm1 Z p1 p2 p3 q4 a5 p6 p7 p8 p9 f_a5 h0 n0) (s₁.setTop (mkF m 57 #[.val (.int p1), .val (.int p2), .val (.int p3), .val (.long q4), .second, .val (.ref a5), .val (.int p6), .val (.int p7), .val (.int p8), .val (.int p9), .val (.int (p1 - p2))] [(.long (10 : Int64)), (.long (q4 / (own_pw ((p3 - (1 : Int32)) - (p1 - p2)).toNatClampNeg))), (.long (48 : Int64))]))
        refine Run.go (fun _ k => XS.lrem X0.here hx rfl (hb hby d1_57) rfl (by decide) k) ?_
        show Run p e below s 0 0 (Q_rm1 Z p1 p2 p3 q4 a5 p6 p7 p8 p9 f_a5 h0 n0) (s₁.setTop (mkF m 58 #[.val (.int p1), .val (.int p2), .val (.int p3), .val (.long q4), .second, .val (.ref a5), .val (.int p6), .val (.int p7), .val (.int p8), .val (.int p9), .val (.int (p1 - p2))] [(.long ((q4 / (own_pw ((p3 - (1 : Int32)) - (p1 - p2)).toNatClampNeg)) - ((q4 / (own_pw ((p3 - (1 : Int32)) - (p1 - p2)).toNatClampNeg)) / (10 : Int64)) * (10 : Int64))), (.long (48 : Int64))]))
        refine Run.go (fun _ k => XS.ladd X0.here hx rfl (hb hby d1_58) rfl k) ?_
        show Run p e below s 0 0 (Q_rm1 Z p1 p2 p3 q4 a5 p6 p7 p8 p9 f_a5 h0 n0) (s₁.setTop (mkF m 59 #[.val (.int p1), .val (.int p2), .val (.int p3), .val (.long q4), .second, .val (.ref a5), .val (.int p6), .val (.int p7), .val (.int p8), .val (.int p9), .val (.int (p1 - p2))] [(.long ((48 : Int64) + ((q4 / (own_pw ((p3 - (1 : Int32)) - (p1 - p2)).toNatClampNeg)) - ((q4 / (own_pw ((p3 - (1 : Int32)) - (p1 - p2)).toNatClampNeg)) / (10 : Int64)) * (10 : Int64))))]))
        refine Run.go (fun _ k => XS.l2i X0.here hx rfl (hb hby d1_59) rfl k) ?_
        show Run p e below s 0 0 (Q_rm1 Z p1 p2 p3 q4 a5 p6 p7 p8 p9 f_a5 h0 n0) (s₁.setTop (mkF m 60 #[.val (.int p1), .val (.int p2), .val (.int p3), .val (.long q4), .second, .val (.ref a5), .val (.int p6), .val (.int p7), .val (.int p8), .val (.int p9), .val (.int (p1 - p2))] [(.int (((48 : Int64) + ((q4 / (own_pw ((p3 - (1 : Int32)) - (p1 - p2)).toNatClampNeg)) - ((q4 / (own_pw ((p3 - (1 : Int32)) - (p1 - p2)).toNatClampNeg)) / (10 : Int64)) * (10 : Int64))).toInt32))]))
        refine Run.go (fun _ k => XS.i2b X0.here hx rfl (hb hby d1_60) rfl k) ?_
        show Run p e below s 0 0 (Q_rm1 Z p1 p2 p3 q4 a5 p6 p7 p8 p9 f_a5 h0 n0) (s₁.setTop (mkF m 61 #[.val (.int p1), .val (.int p2), .val (.int p3), .val (.long q4), .second, .val (.ref a5), .val (.int p6), .val (.int p7), .val (.int p8), .val (.int p9), .val (.int (p1 - p2))] [(.int ((((48 : Int64) + ((q4 / (own_pw ((p3 - (1 : Int32)) - (p1 - p2)).toNatClampNeg)) - ((q4 / (own_pw ((p3 - (1 : Int32)) - (p1 - p2)).toNatClampNeg)) / (10 : Int64)) * (10 : Int64))).toInt32).toInt8.toInt32))]))
        refine Run.retN (y := ((((48 : Int64) + ((q4 / (own_pw ((p3 - (1 : Int32)) - (p1 - p2)).toNatClampNeg)) - ((q4 / (own_pw ((p3 - (1 : Int32)) - (p1 - p2)).toNatClampNeg)) / (10 : Int64)) * (10 : Int64))).toInt32).toInt8.toInt32)) X0 hx (t := .byte) Bd.returns (by simp) (b_idem _) Bd.notSynchronized (hb hby d1_61) (by decide) (by decide) ?_
        show Q_rm1 Z p1 p2 p3 q4 a5 p6 p7 p8 p9 f_a5 h0 n0 _ s₁.heap _
        exact ⟨congrArg some (congrArg Value.int (show ((((48 : Int64) + ((q4 / (own_pw ((p3 - (1 : Int32)) - (p1 - p2)).toNatClampNeg)) - ((q4 / (own_pw ((p3 - (1 : Int32)) - (p1 - p2)).toNatClampNeg)) / (10 : Int64)) * (10 : Int64))).toInt32).toInt8.toInt32) = (F_rm1 p1 p2 p3 q4 p6 p7 p8 p9) from (by unfold F_rm1; rw [if_neg hc1, if_pos hc2, if_pos hc3]))), N0, e0⟩
      · refine Run.go (fun _ k => XS.ifNo X0.here hx rfl (hb hby d1_27) rfl ((if0 _ _).trans (feq hc3).1) k) ?_
        show Run p e below s 0 0 (Q_rm1 Z p1 p2 p3 q4 a5 p6 p7 p8 p9 f_a5 h0 n0) (s₁.setTop (mkF m 30 #[.val (.int p1), .val (.int p2), .val (.int p3), .val (.long q4), .second, .val (.ref a5), .val (.int p6), .val (.int p7), .val (.int p8), .val (.int p9), .val (.int (p1 - p2))] []))
        refine Run.go (fun _ k => XS.iload X0.here hx rfl (hb hby d1_30) rfl  k) ?_
        show Run p e below s 0 0 (Q_rm1 Z p1 p2 p3 q4 a5 p6 p7 p8 p9 f_a5 h0 n0) (s₁.setTop (mkF m 32 #[.val (.int p1), .val (.int p2), .val (.int p3), .val (.long q4), .second, .val (.ref a5), .val (.int p6), .val (.int p7), .val (.int p8), .val (.int p9), .val (.int (p1 - p2))] [(.int (p1 - p2))]))
        refine Run.go (fun _ k => XS.iload X0.here hx rfl (hb hby d1_32) rfl  k) ?_
        show Run p e below s 0 0 (Q_rm1 Z p1 p2 p3 q4 a5 p6 p7 p8 p9 f_a5 h0 n0) (s₁.setTop (mkF m 34 #[.val (.int p1), .val (.int p2), .val (.int p3), .val (.long q4), .second, .val (.ref a5), .val (.int p6), .val (.int p7), .val (.int p8), .val (.int p9), .val (.int (p1 - p2))] [(.int p7), (.int (p1 - p2))]))
        by_cases hc4 : ((p1 - p2) = p7)
        · refine Run.go (fun _ k => XS.icmpNo X0.here hx rfl (hb hby d1_34) rfl (teq hc4).2 k) ?_
          show Run p e below s 0 0 (Q_rm1 Z p1 p2 p3 q4 a5 p6 p7 p8 p9 f_a5 h0 n0) (s₁.setTop (mkF m 37 #[.val (.int p1), .val (.int p2), .val (.int p3), .val (.long q4), .second, .val (.ref a5), .val (.int p6), .val (.int p7), .val (.int p8), .val (.int p9), .val (.int (p1 - p2))] []))
          refine Run.go (fun _ k => XS.iload X0.here hx rfl (hb hby d1_37) rfl  k) ?_
          show Run p e below s 0 0 (Q_rm1 Z p1 p2 p3 q4 a5 p6 p7 p8 p9 f_a5 h0 n0) (s₁.setTop (mkF m 39 #[.val (.int p1), .val (.int p2), .val (.int p3), .val (.long q4), .second, .val (.ref a5), .val (.int p6), .val (.int p7), .val (.int p8), .val (.int p9), .val (.int (p1 - p2))] [(.int p8)]))
          refine Run.retN (y := p8) X0 hx (t := .byte) Bd.returns (by simp) hib Bd.notSynchronized (hb hby d1_39) (by decide) (by decide) ?_
          show Q_rm1 Z p1 p2 p3 q4 a5 p6 p7 p8 p9 f_a5 h0 n0 _ s₁.heap _
          exact ⟨congrArg some (congrArg Value.int (show p8 = (F_rm1 p1 p2 p3 q4 p6 p7 p8 p9) from (by unfold F_rm1; rw [if_neg hc1, if_pos hc2, if_neg hc3, if_pos hc4]))), N0, e0⟩
        · refine Run.go (fun _ k => XS.icmpYes X0.here hx rfl (pc0 := 34) (pc' := 40) rfl (hb hby d1_34) rfl (feq hc4).2 (by decide) (by decide) k) ?_
          show Run p e below s 0 0 (Q_rm1 Z p1 p2 p3 q4 a5 p6 p7 p8 p9 f_a5 h0 n0) (s₁.setTop (mkF m 40 #[.val (.int p1), .val (.int p2), .val (.int p3), .val (.long q4), .second, .val (.ref a5), .val (.int p6), .val (.int p7), .val (.int p8), .val (.int p9), .val (.int (p1 - p2))] []))
          refine Run.go (fun _ k => X0.ldc2Long hx hown (mvT hZ (hw _ (List.mem_of_getElem? (i := 24) rfl))) (g := (mkF m 40 #[.val (.int p1), .val (.int p2), .val (.int p3), .val (.long q4), .second, .val (.ref a5), .val (.int p6), .val (.int p7), .val (.int p8), .val (.int p9), .val (.int (p1 - p2))] [])) rfl (hb hby d1_40) _ k) ?_
          show Run p e below s 0 0 (Q_rm1 Z p1 p2 p3 q4 a5 p6 p7 p8 p9 f_a5 h0 n0) (s₁.setTop (mkF m 43 #[.val (.int p1), .val (.int p2), .val (.int p3), .val (.long q4), .second, .val (.ref a5), .val (.int p6), .val (.int p7), .val (.int p8), .val (.int p9), .val (.int (p1 - p2))] [(.long (48 : Int64))]))
          refine Run.go (fun _ k => XS.lloadN X0.here hx rfl (hb hby d1_43) rfl  k) ?_
          show Run p e below s 0 0 (Q_rm1 Z p1 p2 p3 q4 a5 p6 p7 p8 p9 f_a5 h0 n0) (s₁.setTop (mkF m 44 #[.val (.int p1), .val (.int p2), .val (.int p3), .val (.long q4), .second, .val (.ref a5), .val (.int p6), .val (.int p7), .val (.int p8), .val (.int p9), .val (.int (p1 - p2))] [(.long q4), (.long (48 : Int64))]))
          refine Run.go (fun _ k => XS.aload X0.here hx rfl (hb hby d1_44) rfl rfl k) ?_
          show Run p e below s 0 0 (Q_rm1 Z p1 p2 p3 q4 a5 p6 p7 p8 p9 f_a5 h0 n0) (s₁.setTop (mkF m 46 #[.val (.int p1), .val (.int p2), .val (.int p3), .val (.long q4), .second, .val (.ref a5), .val (.int p6), .val (.int p7), .val (.int p8), .val (.int p9), .val (.int (p1 - p2))] [(.ref a5), (.long q4), (.long (48 : Int64))]))
          refine Run.go (fun _ k => XS.iloadN X0.here hx rfl (hb hby d1_46) rfl  k) ?_
          show Run p e below s 0 0 (Q_rm1 Z p1 p2 p3 q4 a5 p6 p7 p8 p9 f_a5 h0 n0) (s₁.setTop (mkF m 47 #[.val (.int p1), .val (.int p2), .val (.int p3), .val (.long q4), .second, .val (.ref a5), .val (.int p6), .val (.int p7), .val (.int p8), .val (.int p9), .val (.int (p1 - p2))] [(.int p3), (.ref a5), (.long q4), (.long (48 : Int64))]))
          refine Run.go (fun _ k => XS.iconst X0.here hx rfl (hb hby d1_47) k) ?_
          show Run p e below s 0 0 (Q_rm1 Z p1 p2 p3 q4 a5 p6 p7 p8 p9 f_a5 h0 n0) (s₁.setTop (mkF m 48 #[.val (.int p1), .val (.int p2), .val (.int p3), .val (.long q4), .second, .val (.ref a5), .val (.int p6), .val (.int p7), .val (.int p8), .val (.int p9), .val (.int (p1 - p2))] [(.int (1 : Int32)), (.int p3), (.ref a5), (.long q4), (.long (48 : Int64))]))
          refine Run.go (fun _ k => XS.isub X0.here hx rfl (hb hby d1_48) rfl k) ?_
          show Run p e below s 0 0 (Q_rm1 Z p1 p2 p3 q4 a5 p6 p7 p8 p9 f_a5 h0 n0) (s₁.setTop (mkF m 49 #[.val (.int p1), .val (.int p2), .val (.int p3), .val (.long q4), .second, .val (.ref a5), .val (.int p6), .val (.int p7), .val (.int p8), .val (.int p9), .val (.int (p1 - p2))] [(.int (p3 - (1 : Int32))), (.ref a5), (.long q4), (.long (48 : Int64))]))
          refine Run.go (fun _ k => XS.iload X0.here hx rfl (hb hby d1_49) rfl  k) ?_
          show Run p e below s 0 0 (Q_rm1 Z p1 p2 p3 q4 a5 p6 p7 p8 p9 f_a5 h0 n0) (s₁.setTop (mkF m 51 #[.val (.int p1), .val (.int p2), .val (.int p3), .val (.long q4), .second, .val (.ref a5), .val (.int p6), .val (.int p7), .val (.int p8), .val (.int p9), .val (.int (p1 - p2))] [(.int (p1 - p2)), (.int (p3 - (1 : Int32))), (.ref a5), (.long q4), (.long (48 : Int64))]))
          refine Run.go (fun _ k => XS.isub X0.here hx rfl (hb hby d1_51) rfl k) ?_
          show Run p e below s 0 0 (Q_rm1 Z p1 p2 p3 q4 a5 p6 p7 p8 p9 f_a5 h0 n0) (s₁.setTop (mkF m 52 #[.val (.int p1), .val (.int p2), .val (.int p3), .val (.long q4), .second, .val (.ref a5), .val (.int p6), .val (.int p7), .val (.int p8), .val (.int p9), .val (.int (p1 - p2))] [(.int ((p3 - (1 : Int32)) - (p1 - p2))), (.ref a5), (.long q4), (.long (48 : Int64))]))
          refine Run.go (fun _ k => ary_lget X0 hx hZ e0 A_a5 (j := ((p3 - (1 : Int32)) - (p1 - p2))) (own_ixc hs0 hs3 hl0 hl11 hc1 hc2).1 (own_ixc hs0 hs3 hl0 hl11 hc1 hc2).2.1 (g := (mkF m 52 #[.val (.int p1), .val (.int p2), .val (.int p3), .val (.long q4), .second, .val (.ref a5), .val (.int p6), .val (.int p7), .val (.int p8), .val (.int p9), .val (.int (p1 - p2))] [(.int ((p3 - (1 : Int32)) - (p1 - p2))), (.ref a5), (.long q4), (.long (48 : Int64))])) rfl rfl (hb hby d1_52) (hpw _ (own_ixc hs0 hs3 hl0 hl11 hc1 hc2).2.1) _ k) ?_
          show Run p e below s 0 0 (Q_rm1 Z p1 p2 p3 q4 a5 p6 p7 p8 p9 f_a5 h0 n0) (s₁.setTop (mkF m 53 #[.val (.int p1), .val (.int p2), .val (.int p3), .val (.long q4), .second, .val (.ref a5), .val (.int p6), .val (.int p7), .val (.int p8), .val (.int p9), .val (.int (p1 - p2))] [(.long (own_pw ((p3 - (1 : Int32)) - (p1 - p2)).toNatClampNeg)), (.long q4), (.long (48 : Int64))]))
          refine Run.go (fun _ k => XS.ldiv X0.here hx rfl (hb hby d1_53) rfl (own_pw_nz _ (own_ixc hs0 hs3 hl0 hl11 hc1 hc2).2.1) k) ?_
          show Run p e below s 0 0 (Q_rm1 Z p1 p2 p3 q4 a5 p6 p7 p8 p9 f_a5 h0 n0) (s₁.setTop (mkF m 54 #[.val (.int p1), .val (.int p2), .val (.int p3), .val (.long q4), .second, .val (.ref a5), .val (.int p6), .val (.int p7), .val (.int p8), .val (.int p9), .val (.int (p1 - p2))] [(.long (q4 / (own_pw ((p3 - (1 : Int32)) - (p1 - p2)).toNatClampNeg))), (.long (48 : Int64))]))
          refine Run.go (fun _ k => X0.ldc2Long hx hown (mvT hZ (hw _ (List.mem_of_getElem? (i := 1) rfl))) (g := (mkF m 54 #[.val (.int p1), .val (.int p2), .val (.int p3), .val (.long q4), .second, .val (.ref a5), .val (.int p6), .val (.int p7), .val (.int p8), .val (.int p9), .val (.int (p1 - p2))] [(.long (q4 / (own_pw ((p3 - (1 : Int32)) - (p1 - p2)).toNatClampNeg))), (.long (48 : Int64))])) rfl (hb hby d1_54) _ k) ?_
          show Run p e below s 0 0 (Q_rm1 Z p1 p2 p3 q4 a5 p6 p7 p8 p9 f_a5 h0 n0) (s₁.setTop (mkF m 57 #[.val (.int p1), .val (.int p2), .val (.int p3), .val (.long q4), .second, .val (.ref a5), .val (.int p6), .val (.int p7), .val (.int p8), .val (.int p9), .val (.int (p1 - p2))] [(.long (10 : Int64)), (.long (q4 / (own_pw ((p3 - (1 : Int32)) - (p1 - p2)).toNatClampNeg))), (.long (48 : Int64))]))
          refine Run.go (fun _ k => XS.lrem X0.here hx rfl (hb hby d1_57) rfl (by decide) k) ?_
          show Run p e below s 0 0 (Q_rm1 Z p1 p2 p3 q4 a5 p6 p7 p8 p9 f_a5 h0 n0) (s₁.setTop (mkF m 58 #[.val (.int p1), .val (.int p2), .val (.int p3), .val (.long q4), .second, .val (.ref a5), .val (.int p6), .val (.int p7), .val (.int p8), .val (.int p9), .val (.int (p1 - p2))] [(.long ((q4 / (own_pw ((p3 - (1 : Int32)) - (p1 - p2)).toNatClampNeg)) - ((q4 / (own_pw ((p3 - (1 : Int32)) - (p1 - p2)).toNatClampNeg)) / (10 : Int64)) * (10 : Int64))), (.long (48 : Int64))]))
          refine Run.go (fun _ k => XS.ladd X0.here hx rfl (hb hby d1_58) rfl k) ?_
          show Run p e below s 0 0 (Q_rm1 Z p1 p2 p3 q4 a5 p6 p7 p8 p9 f_a5 h0 n0) (s₁.setTop (mkF m 59 #[.val (.int p1), .val (.int p2), .val (.int p3), .val (.long q4), .second, .val (.ref a5), .val (.int p6), .val (.int p7), .val (.int p8), .val (.int p9), .val (.int (p1 - p2))] [(.long ((48 : Int64) + ((q4 / (own_pw ((p3 - (1 : Int32)) - (p1 - p2)).toNatClampNeg)) - ((q4 / (own_pw ((p3 - (1 : Int32)) - (p1 - p2)).toNatClampNeg)) / (10 : Int64)) * (10 : Int64))))]))
          refine Run.go (fun _ k => XS.l2i X0.here hx rfl (hb hby d1_59) rfl k) ?_
          show Run p e below s 0 0 (Q_rm1 Z p1 p2 p3 q4 a5 p6 p7 p8 p9 f_a5 h0 n0) (s₁.setTop (mkF m 60 #[.val (.int p1), .val (.int p2), .val (.int p3), .val (.long q4), .second, .val (.ref a5), .val (.int p6), .val (.int p7), .val (.int p8), .val (.int p9), .val (.int (p1 - p2))] [(.int (((48 : Int64) + ((q4 / (own_pw ((p3 - (1 : Int32)) - (p1 - p2)).toNatClampNeg)) - ((q4 / (own_pw ((p3 - (1 : Int32)) - (p1 - p2)).toNatClampNeg)) / (10 : Int64)) * (10 : Int64))).toInt32))]))
          refine Run.go (fun _ k => XS.i2b X0.here hx rfl (hb hby d1_60) rfl k) ?_
          show Run p e below s 0 0 (Q_rm1 Z p1 p2 p3 q4 a5 p6 p7 p8 p9 f_a5 h0 n0) (s₁.setTop (mkF m 61 #[.val (.int p1), .val (.int p2), .val (.int p3), .val (.long q4), .second, .val (.ref a5), .val (.int p6), .val (.int p7), .val (.int p8), .val (.int p9), .val (.int (p1 - p2))] [(.int ((((48 : Int64) + ((q4 / (own_pw ((p3 - (1 : Int32)) - (p1 - p2)).toNatClampNeg)) - ((q4 / (own_pw ((p3 - (1 : Int32)) - (p1 - p2)).toNatClampNeg)) / (10 : Int64)) * (10 : Int64))).toInt32).toInt8.toInt32))]))
          refine Run.retN (y := ((((48 : Int64) + ((q4 / (own_pw ((p3 - (1 : Int32)) - (p1 - p2)).toNatClampNeg)) - ((q4 / (own_pw ((p3 - (1 : Int32)) - (p1 - p2)).toNatClampNeg)) / (10 : Int64)) * (10 : Int64))).toInt32).toInt8.toInt32)) X0 hx (t := .byte) Bd.returns (by simp) (b_idem _) Bd.notSynchronized (hb hby d1_61) (by decide) (by decide) ?_
          show Q_rm1 Z p1 p2 p3 q4 a5 p6 p7 p8 p9 f_a5 h0 n0 _ s₁.heap _
          exact ⟨congrArg some (congrArg Value.int (show ((((48 : Int64) + ((q4 / (own_pw ((p3 - (1 : Int32)) - (p1 - p2)).toNatClampNeg)) - ((q4 / (own_pw ((p3 - (1 : Int32)) - (p1 - p2)).toNatClampNeg)) / (10 : Int64)) * (10 : Int64))).toInt32).toInt8.toInt32) = (F_rm1 p1 p2 p3 q4 p6 p7 p8 p9) from (by unfold F_rm1; rw [if_neg hc1, if_pos hc2, if_neg hc3, if_neg hc4]))), N0, e0⟩
    · refine Run.go (fun _ k => XS.icmpNo X0.here hx rfl (hb hby d1_9) rfl (flt hc2).1 k) ?_
      show Run p e below s 0 0 (Q_rm1 Z p1 p2 p3 q4 a5 p6 p7 p8 p9 f_a5 h0 n0) (s₁.setTop (mkF m 12 #[.val (.int p1), .val (.int p2), .val (.int p3), .val (.long q4), .second, .val (.ref a5), .val (.int p6), .val (.int p7), .val (.int p8), .val (.int p9), .unset] []))
      refine Run.go (fun _ k => XS.iload X0.here hx rfl (hb hby d1_12) rfl  k) ?_
      show Run p e below s 0 0 (Q_rm1 Z p1 p2 p3 q4 a5 p6 p7 p8 p9 f_a5 h0 n0) (s₁.setTop (mkF m 14 #[.val (.int p1), .val (.int p2), .val (.int p3), .val (.long q4), .second, .val (.ref a5), .val (.int p6), .val (.int p7), .val (.int p8), .val (.int p9), .unset] [(.int p9)]))
      refine Run.go (fun _ k => XS.iconst X0.here hx rfl (hb hby d1_14) k) ?_
      show Run p e below s 0 0 (Q_rm1 Z p1 p2 p3 q4 a5 p6 p7 p8 p9 f_a5 h0 n0) (s₁.setTop (mkF m 15 #[.val (.int p1), .val (.int p2), .val (.int p3), .val (.long q4), .second, .val (.ref a5), .val (.int p6), .val (.int p7), .val (.int p8), .val (.int p9), .unset] [(.int (2 : Int32)), (.int p9)]))
      refine Run.go (fun _ k => XS.iloadN X0.here hx rfl (hb hby d1_15) rfl  k) ?_
      show Run p e below s 0 0 (Q_rm1 Z p1 p2 p3 q4 a5 p6 p7 p8 p9 f_a5 h0 n0) (s₁.setTop (mkF m 16 #[.val (.int p1), .val (.int p2), .val (.int p3), .val (.long q4), .second, .val (.ref a5), .val (.int p6), .val (.int p7), .val (.int p8), .val (.int p9), .unset] [(.int p1), (.int (2 : Int32)), (.int p9)]))
      refine Run.go (fun _ k => XS.imul X0.here hx rfl (hb hby d1_16) rfl k) ?_
      show Run p e below s 0 0 (Q_rm1 Z p1 p2 p3 q4 a5 p6 p7 p8 p9 f_a5 h0 n0) (s₁.setTop (mkF m 17 #[.val (.int p1), .val (.int p2), .val (.int p3), .val (.long q4), .second, .val (.ref a5), .val (.int p6), .val (.int p7), .val (.int p8), .val (.int p9), .unset] [(.int ((2 : Int32) * p1)), (.int p9)]))
      refine Run.go (fun _ k => XS.iushr X0.here hx rfl (hb hby d1_17) rfl k) ?_
      show Run p e below s 0 0 (Q_rm1 Z p1 p2 p3 q4 a5 p6 p7 p8 p9 f_a5 h0 n0) (s₁.setTop (mkF m 18 #[.val (.int p1), .val (.int p2), .val (.int p3), .val (.long q4), .second, .val (.ref a5), .val (.int p6), .val (.int p7), .val (.int p8), .val (.int p9), .unset] [(.int ((p9.toUInt32 >>> (((2 : Int32) * p1) &&& 31).toUInt32).toInt32))]))
      refine Run.go (fun _ k => XS.i2b X0.here hx rfl (hb hby d1_18) rfl k) ?_
      show Run p e below s 0 0 (Q_rm1 Z p1 p2 p3 q4 a5 p6 p7 p8 p9 f_a5 h0 n0) (s₁.setTop (mkF m 19 #[.val (.int p1), .val (.int p2), .val (.int p3), .val (.long q4), .second, .val (.ref a5), .val (.int p6), .val (.int p7), .val (.int p8), .val (.int p9), .unset] [(.int (((p9.toUInt32 >>> (((2 : Int32) * p1) &&& 31).toUInt32).toInt32).toInt8.toInt32))]))
      refine Run.retN (y := (((p9.toUInt32 >>> (((2 : Int32) * p1) &&& 31).toUInt32).toInt32).toInt8.toInt32)) X0 hx (t := .byte) Bd.returns (by simp) (b_idem _) Bd.notSynchronized (hb hby d1_19) (by decide) (by decide) ?_
      show Q_rm1 Z p1 p2 p3 q4 a5 p6 p7 p8 p9 f_a5 h0 n0 _ s₁.heap _
      exact ⟨congrArg some (congrArg Value.int (show (((p9.toUInt32 >>> (((2 : Int32) * p1) &&& 31).toUInt32).toInt32).toInt8.toInt32) = (F_rm1 p1 p2 p3 q4 p6 p7 p8 p9) from (by unfold F_rm1; rw [if_neg hc1, if_neg hc2]))), N0, e0⟩
theorem d2_0 : decode prog_96_method_18_code 0 = .ok (.iload_n 2, 1) := by decide +kernel
theorem d2_1 : decode prog_96_method_18_code 1 = .ok (.iload_n 1, 1) := by decide +kernel
theorem d2_2 : decode prog_96_method_18_code 2 = .ok (.if_icmp .eq 11, 3) := by decide +kernel
theorem d2_13 : decode prog_96_method_18_code 13 = .ok (.ldc2_w 51, 3) := by decide +kernel
theorem d2_16 : decode prog_96_method_18_code 16 = .ok (.lreturn, 1) := by decide +kernel
theorem d2_5 : decode prog_96_method_18_code 5 = .ok (.iload_n 2, 1) := by decide +kernel
theorem d2_6 : decode prog_96_method_18_code 6 = .ok (.iload_n 1, 1) := by decide +kernel
theorem d2_7 : decode prog_96_method_18_code 7 = .ok (.isub, 1) := by decide +kernel
theorem d2_8 : decode prog_96_method_18_code 8 = .ok (.bipush 10, 2) := by decide +kernel
theorem d2_10 : decode prog_96_method_18_code 10 = .ok (.if_icmp .le 7, 3) := by decide +kernel
theorem d2_17 : decode prog_96_method_18_code 17 = .ok (.lconst 0, 1) := by decide +kernel
theorem d2_18 : decode prog_96_method_18_code 18 = .ok (.lstore_n 3, 1) := by decide +kernel
theorem d2_19 : decode prog_96_method_18_code 19 = .ok (.iload_n 1, 1) := by decide +kernel
theorem d2_20 : decode prog_96_method_18_code 20 = .ok (.istore 5, 2) := by decide +kernel
theorem d2_22 : decode prog_96_method_18_code 22 = .ok (.iload 5, 2) := by decide +kernel
theorem d2_24 : decode prog_96_method_18_code 24 = .ok (.iload_n 2, 1) := by decide +kernel
theorem d2_25 : decode prog_96_method_18_code 25 = .ok (.if_icmp .ge 46, 3) := by decide +kernel
theorem d2_28 : decode prog_96_method_18_code 28 = .ok (.aload_n 0, 1) := by decide +kernel
theorem d2_29 : decode prog_96_method_18_code 29 = .ok (.iload 5, 2) := by decide +kernel
theorem d2_31 : decode prog_96_method_18_code 31 = .ok (.baload, 1) := by decide +kernel
theorem d2_32 : decode prog_96_method_18_code 32 = .ok (.bipush 48, 2) := by decide +kernel
theorem d2_34 : decode prog_96_method_18_code 34 = .ok (.if_icmp .lt 12, 3) := by decide +kernel
theorem d2_46 : decode prog_96_method_18_code 46 = .ok (.ldc2_w 51, 3) := by decide +kernel
theorem d2_49 : decode prog_96_method_18_code 49 = .ok (.lreturn, 1) := by decide +kernel
theorem d2_37 : decode prog_96_method_18_code 37 = .ok (.aload_n 0, 1) := by decide +kernel
theorem d2_38 : decode prog_96_method_18_code 38 = .ok (.iload 5, 2) := by decide +kernel
theorem d2_40 : decode prog_96_method_18_code 40 = .ok (.baload, 1) := by decide +kernel
theorem d2_41 : decode prog_96_method_18_code 41 = .ok (.bipush 57, 2) := by decide +kernel
theorem d2_43 : decode prog_96_method_18_code 43 = .ok (.if_icmp .le 7, 3) := by decide +kernel
theorem d2_50 : decode prog_96_method_18_code 50 = .ok (.lload_n 3, 1) := by decide +kernel
theorem d2_51 : decode prog_96_method_18_code 51 = .ok (.ldc2_w 53, 3) := by decide +kernel
theorem d2_54 : decode prog_96_method_18_code 54 = .ok (.lmul, 1) := by decide +kernel
theorem d2_55 : decode prog_96_method_18_code 55 = .ok (.aload_n 0, 1) := by decide +kernel
theorem d2_56 : decode prog_96_method_18_code 56 = .ok (.iload 5, 2) := by decide +kernel
theorem d2_58 : decode prog_96_method_18_code 58 = .ok (.baload, 1) := by decide +kernel
theorem d2_59 : decode prog_96_method_18_code 59 = .ok (.bipush 48, 2) := by decide +kernel
theorem d2_61 : decode prog_96_method_18_code 61 = .ok (.isub, 1) := by decide +kernel
theorem d2_62 : decode prog_96_method_18_code 62 = .ok (.i2l, 1) := by decide +kernel
theorem d2_63 : decode prog_96_method_18_code 63 = .ok (.ladd, 1) := by decide +kernel
theorem d2_64 : decode prog_96_method_18_code 64 = .ok (.lstore_n 3, 1) := by decide +kernel
theorem d2_65 : decode prog_96_method_18_code 65 = .ok (.iinc 5 1, 3) := by decide +kernel
theorem d2_68 : decode prog_96_method_18_code 68 = .ok (.goto (-46), 3) := by decide +kernel
theorem d2_71 : decode prog_96_method_18_code 71 = .ok (.lload_n 3, 1) := by decide +kernel
theorem d2_72 : decode prog_96_method_18_code 72 = .ok (.ldc2_w 55, 3) := by decide +kernel
theorem d2_75 : decode prog_96_method_18_code 75 = .ok (.lcmp, 1) := by decide +kernel
theorem d2_76 : decode prog_96_method_18_code 76 = .ok (.ifCond .gt 7, 3) := by decide +kernel
theorem d2_83 : decode prog_96_method_18_code 83 = .ok (.ldc2_w 51, 3) := by decide +kernel
theorem d2_79 : decode prog_96_method_18_code 79 = .ok (.lload_n 3, 1) := by decide +kernel
theorem d2_80 : decode prog_96_method_18_code 80 = .ok (.goto 6, 3) := by decide +kernel
theorem d2_86 : decode prog_96_method_18_code 86 = .ok (.lreturn, 1) := by decide +kernel
def Q_rm2 (Z : State) (a1 : Addr) (p2 : Int32) (p3 : Int32) (f_a1 : Nat → Value) (h0 : Heap) (n0 : Nat) (v : Option Value) (h : Heap) (L : List Loc) : Prop := v = some (.long (own_u32 f_a1 p2 p3)) ∧ Fr n0 L ∧ h = h0
theorem ef_rm2 (m : MethodId) (x0 : Addr) (x1 : Int32) (x2 : Int32) : entryFrame m #[(.ref x0), (.int x1), (.int x2)] 6 = mkF m 0 #[.val (.ref x0), .val (.int x1), .val (.int x2), .unset, .unset, .unset] [] := by first | (simp [entryFrame, mkF, argsToLocals, Value.category]; done) | rfl
theorem pn_1 : plainName "com/example/comera/comera/sip/Syntax" = true := by first | (simp [plainName, overriddenIn]; done) | decide +kernel
set_option maxRecDepth 65536 in
set_option maxHeartbeats 40000000 in
theorem rm2 (l : Launch) (Z : State) (a0 : Array Value) (hw : ∀ d ∈ tables_1, d.before a0 Z = true) (ws : List Jvm.Cond) (a1 : Addr) (p2 : Int32) (p3 : Int32) (f_a1 : Nat → Value) (h0 : Heap) (n0 : Nat) (Z0 : n0 ≤ h0.size) (A_a1 : Ary Z h0 a1 .byte 16 f_a1) (hI : ∀ i, i < 16 → ∃ y, f_a1 i = Value.int y) (hp0 : ¬ p2 < 0) (hpe : p2.toNatClampNeg ≤ p3.toNatClampNeg) (hpe0 : ¬ p3 < 0) (hp16 : p3.toNatClampNeg ≤ 16) :
    MetFree l (⟨"com/example/comera/comera/sip/Syntax", "unsigned32", "([BII)J"⟩ : MethodName) (head1 (Jvm.Cond.code (⟨"com/example/comera/comera/sip/Syntax", "unsigned32", "([BII)J"⟩ : MethodName) prog_96_method_18_code 6 (some .long) :: ws) ({ frames := 0, cells := 0, slots := 0, locals := 0 } : Room)) (fun a U => a = #[(.ref a1), (.int p2), (.int p3)] ∧ Z.Warmed39 U.vm ∧ U.heap = h0) (fun _ _ _ _ _ => True) (fun _ U o U' => ∃ v L, o = .returned v ∧ Q_rm2 Z a1 p2 p3 f_a1 h0 n0 v U'.heap L ∧ FrameEnd U o U' L ({ frames := 0, cells := 0, slots := 0, locals := 0 } : Room).cells ({ frames := 0, cells := 0, slots := 0, locals := 0 } : Room).slots) := by
  refine MetFree.of_bodySF (plainFor_of_name pn_1) hisR ?_
  intro p e s m args below meth c s₁ Bd hml0 hP hK
  obtain ⟨rfl, hZ, hh⟩ := hP
  have hx := Bd.exec
  have hby := Bd.bytes
  have hml : c.maxLocals = 6 := hml0
  have hown : s.vm.findClass "com/example/comera/comera/sip/Syntax" = some m.cls := findClass_of_methodNamed Bd.named
  have hnm := (name_of_methodNamed Bd.named Bd.method).1
  have X0 : Stand p l e ({ frames := 0, cells := 0, slots := 0, locals := 0 } : Room) s m #[(.ref a1), (.int p2), (.int p3)] below meth c s₁ [] 0 0 := Stand.of_body Bd
  have e0 : s₁.heap = h0 := by rw [← hh, Bd.state]; rfl
  have N0 := Fr.nil n0
  show Run p e below s 0 0 (Q_rm2 Z a1 p2 p3 f_a1 h0 n0) (s₁.setTop (entryFrame m #[(.ref a1), (.int p2), (.int p3)] 6))
  refine Run.go (fun _ k => castTop (ef_rm2 m a1 p2 p3) k) ?_
  show Run p e below s 0 0 (Q_rm2 Z a1 p2 p3 f_a1 h0 n0) (s₁.setTop (mkF m 0 #[.val (.ref a1), .val (.int p2), .val (.int p3), .unset, .unset, .unset] []))
  refine Run.go (fun _ k => XS.iloadN X0.here hx rfl (hb hby d2_0) rfl  k) ?_
  show Run p e below s 0 0 (Q_rm2 Z a1 p2 p3 f_a1 h0 n0) (s₁.setTop (mkF m 1 #[.val (.ref a1), .val (.int p2), .val (.int p3), .unset, .unset, .unset] [(.int p3)]))
  refine Run.go (fun _ k => XS.iloadN X0.here hx rfl (hb hby d2_1) rfl  k) ?_
  show Run p e below s 0 0 (Q_rm2 Z a1 p2 p3 f_a1 h0 n0) (s₁.setTop (mkF m 2 #[.val (.ref a1), .val (.int p2), .val (.int p3), .unset, .unset, .unset] [(.int p2), (.int p3)]))
  by_cases hc1 : (p3 = p2)
  · refine Run.go (fun _ k => XS.icmpYes X0.here hx rfl (pc0 := 2) (pc' := 13) rfl (hb hby d2_2) rfl (teq hc1).1 (by decide) (by decide) k) ?_
    show Run p e below s 0 0 (Q_rm2 Z a1 p2 p3 f_a1 h0 n0) (s₁.setTop (mkF m 13 #[.val (.ref a1), .val (.int p2), .val (.int p3), .unset, .unset, .unset] []))
    refine Run.go (fun _ k => X0.ldc2Long hx hown (mvT hZ (hw _ (List.mem_of_getElem? (i := 22) rfl))) (g := (mkF m 13 #[.val (.ref a1), .val (.int p2), .val (.int p3), .unset, .unset, .unset] [])) rfl (hb hby d2_13) _ k) ?_
    show Run p e below s 0 0 (Q_rm2 Z a1 p2 p3 f_a1 h0 n0) (s₁.setTop (mkF m 16 #[.val (.ref a1), .val (.int p2), .val (.int p3), .unset, .unset, .unset] [(.long (-1 : Int64))]))
    refine Run.retJ X0 hx Bd.returns Bd.notSynchronized (hb hby d2_16) (by decide) (by decide) ?_
    show Q_rm2 Z a1 p2 p3 f_a1 h0 n0 _ s₁.heap _
    exact ⟨congrArg some (congrArg Value.long (show (-1 : Int64) = (own_u32 f_a1 p2 p3) from (own_u_a (Or.inl hc1)))), N0, e0⟩
  · refine Run.go (fun _ k => XS.icmpNo X0.here hx rfl (hb hby d2_2) rfl (feq hc1).1 k) ?_
    show Run p e below s 0 0 (Q_rm2 Z a1 p2 p3 f_a1 h0 n0) (s₁.setTop (mkF m 5 #[.val (.ref a1), .val (.int p2), .val (.int p3), .unset, .unset, .unset] []))
    refine Run.go (fun _ k => XS.iloadN X0.here hx rfl (hb hby d2_5) rfl  k) ?_
    show Run p e below s 0 0 (Q_rm2 Z a1 p2 p3 f_a1 h0 n0) (s₁.setTop (mkF m 6 #[.val (.ref a1), .val (.int p2), .val (.int p3), .unset, .unset, .unset] [(.int p3)]))
    refine Run.go (fun _ k => XS.iloadN X0.here hx rfl (hb hby d2_6) rfl  k) ?_
    show Run p e below s 0 0 (Q_rm2 Z a1 p2 p3 f_a1 h0 n0) (s₁.setTop (mkF m 7 #[.val (.ref a1), .val (.int p2), .val (.int p3), .unset, .unset, .unset] [(.int p2), (.int p3)]))
    refine Run.go (fun _ k => XS.isub X0.here hx rfl (hb hby d2_7) rfl k) ?_
    show Run p e below s 0 0 (Q_rm2 Z a1 p2 p3 f_a1 h0 n0) (s₁.setTop (mkF m 8 #[.val (.ref a1), .val (.int p2), .val (.int p3), .unset, .unset, .unset] [(.int (p3 - p2))]))
    refine Run.go (fun _ k => XS.bipush X0.here hx rfl (hb hby d2_8) k) ?_
    show Run p e below s 0 0 (Q_rm2 Z a1 p2 p3 f_a1 h0 n0) (s₁.setTop (mkF m 10 #[.val (.ref a1), .val (.int p2), .val (.int p3), .unset, .unset, .unset] [(.int (10 : Int32)), (.int (p3 - p2))]))
    by_cases hc2 : ((10 : Int32) < (p3 - p2))
    · refine Run.go (fun _ k => XS.icmpNo X0.here hx rfl (hb hby d2_10) rfl (tlt hc2).2.2.2 k) ?_
      show Run p e below s 0 0 (Q_rm2 Z a1 p2 p3 f_a1 h0 n0) (s₁.setTop (mkF m 13 #[.val (.ref a1), .val (.int p2), .val (.int p3), .unset, .unset, .unset] []))
      refine Run.go (fun _ k => X0.ldc2Long hx hown (mvT hZ (hw _ (List.mem_of_getElem? (i := 22) rfl))) (g := (mkF m 13 #[.val (.ref a1), .val (.int p2), .val (.int p3), .unset, .unset, .unset] [])) rfl (hb hby d2_13) _ k) ?_
      show Run p e below s 0 0 (Q_rm2 Z a1 p2 p3 f_a1 h0 n0) (s₁.setTop (mkF m 16 #[.val (.ref a1), .val (.int p2), .val (.int p3), .unset, .unset, .unset] [(.long (-1 : Int64))]))
      refine Run.retJ X0 hx Bd.returns Bd.notSynchronized (hb hby d2_16) (by decide) (by decide) ?_
      show Q_rm2 Z a1 p2 p3 f_a1 h0 n0 _ s₁.heap _
      exact ⟨congrArg some (congrArg Value.long (show (-1 : Int64) = (own_u32 f_a1 p2 p3) from (own_u_a (Or.inr hc2)))), N0, e0⟩
    · refine Run.go (fun _ k => XS.icmpYes X0.here hx rfl (pc0 := 10) (pc' := 17) rfl (hb hby d2_10) rfl (flt hc2).2.2.2 (by decide) (by decide) k) ?_
      show Run p e below s 0 0 (Q_rm2 Z a1 p2 p3 f_a1 h0 n0) (s₁.setTop (mkF m 17 #[.val (.ref a1), .val (.int p2), .val (.int p3), .unset, .unset, .unset] []))
      refine Run.go (fun _ k => XS.lconst X0.here hx rfl (hb hby d2_17) k) ?_
      show Run p e below s 0 0 (Q_rm2 Z a1 p2 p3 f_a1 h0 n0) (s₁.setTop (mkF m 18 #[.val (.ref a1), .val (.int p2), .val (.int p3), .unset, .unset, .unset] [(.long (0 : Int64))]))
      refine Run.go (fun _ k => XS.lstoreN X0.here hx rfl (hb hby d2_18) rfl (l' := #[.val (.ref a1), .val (.int p2), .val (.int p3), .val (.long (0 : Int64)), .second, .unset]) rfl k) ?_
      show Run p e below s 0 0 (Q_rm2 Z a1 p2 p3 f_a1 h0 n0) (s₁.setTop (mkF m 19 #[.val (.ref a1), .val (.int p2), .val (.int p3), .val (.long (0 : Int64)), .second, .unset] []))
      refine Run.go (fun _ k => XS.iloadN X0.here hx rfl (hb hby d2_19) rfl  k) ?_
      show Run p e below s 0 0 (Q_rm2 Z a1 p2 p3 f_a1 h0 n0) (s₁.setTop (mkF m 20 #[.val (.ref a1), .val (.int p2), .val (.int p3), .val (.long (0 : Int64)), .second, .unset] [(.int p2)]))
      refine Run.go (fun _ k => XS.istore X0.here hx rfl (hb hby d2_20) rfl (l' := #[.val (.ref a1), .val (.int p2), .val (.int p3), .val (.long (0 : Int64)), .second, .val (.int p2)]) rfl k) ?_
      show Run p e below s 0 0 (Q_rm2 Z a1 p2 p3 f_a1 h0 n0) (s₁.setTop (mkF m 22 #[.val (.ref a1), .val (.int p2), .val (.int p3), .val (.long (0 : Int64)), .second, .val (.int p2)] []))
      have LP3 : ∀ (kk : Nat) (acc : Int64) (i : Int32) (T4 : State) (L4 : List Loc) (X4 : Stand p l e ({ frames := 0, cells := 0, slots := 0, locals := 0 } : Room) s m #[(.ref a1), (.int p2), (.int p3)] below meth c T4 L4 0 0) (e4 : T4.heap = h0) (N4 : Fr n0 L4) (hi0 : ¬ i < 0) (hi1 : p2.toNatClampNeg ≤ i.toNatClampNeg) (hi2 : i.toNatClampNeg ≤ p3.toNatClampNeg) (hacc : own_acc f_a1 p2.toNatClampNeg (i.toNatClampNeg - p2.toNatClampNeg) = some acc) (hk : p3.toNatClampNeg - i.toNatClampNeg = kk), Run p e below s 0 0 (Q_rm2 Z a1 p2 p3 f_a1 h0 n0) (T4.setTop (mkF m 22 #[.val (.ref a1), .val (.int p2), .val (.int p3), .val (.long acc), .second, .val (.int i)] [])) := by
        intro kk
        induction kk using Nat.strongRecOn with
        | _ kk ihLP3 =>
          intro acc i T4 L4 X4 e4 N4 hi0 hi1 hi2 hacc hk
          show Run p e below s 0 0 (Q_rm2 Z a1 p2 p3 f_a1 h0 n0) (T4.setTop (mkF m 22 #[.val (.ref a1), .val (.int p2), .val (.int p3), .val (.long acc), .second, .val (.int i)] []))
          refine Run.go (fun _ k => XS.iload X4.here hx rfl (hb hby d2_22) rfl  k) ?_
          show Run p e below s 0 0 (Q_rm2 Z a1 p2 p3 f_a1 h0 n0) (T4.setTop (mkF m 24 #[.val (.ref a1), .val (.int p2), .val (.int p3), .val (.long acc), .second, .val (.int i)] [(.int i)]))
          refine Run.go (fun _ k => XS.iloadN X4.here hx rfl (hb hby d2_24) rfl  k) ?_
          show Run p e below s 0 0 (Q_rm2 Z a1 p2 p3 f_a1 h0 n0) (T4.setTop (mkF m 25 #[.val (.ref a1), .val (.int p2), .val (.int p3), .val (.long acc), .second, .val (.int i)] [(.int p3), (.int i)]))
          by_cases hc5 : (i < p3)
          · refine Run.go (fun _ k => XS.icmpNo X4.here hx rfl (hb hby d2_25) rfl (tlt hc5).2.1 k) ?_
            show Run p e below s 0 0 (Q_rm2 Z a1 p2 p3 f_a1 h0 n0) (T4.setTop (mkF m 28 #[.val (.ref a1), .val (.int p2), .val (.int p3), .val (.long acc), .second, .val (.int i)] []))
            refine Run.go (fun _ k => XS.aloadN X4.here hx rfl (hb hby d2_28) rfl rfl k) ?_
            show Run p e below s 0 0 (Q_rm2 Z a1 p2 p3 f_a1 h0 n0) (T4.setTop (mkF m 29 #[.val (.ref a1), .val (.int p2), .val (.int p3), .val (.long acc), .second, .val (.int i)] [(.ref a1)]))
            refine Run.go (fun _ k => XS.iload X4.here hx rfl (hb hby d2_29) rfl  k) ?_
            show Run p e below s 0 0 (Q_rm2 Z a1 p2 p3 f_a1 h0 n0) (T4.setTop (mkF m 31 #[.val (.ref a1), .val (.int p2), .val (.int p3), .val (.long acc), .second, .val (.int i)] [(.int i), (.ref a1)]))
            obtain ⟨e6, he6⟩ := hI (i.toNatClampNeg) (by have := own_lti hi0 hc5; omega)
            refine Run.go (fun _ k => ary_bget X4 hx hZ e4 A_a1 (j := i) hi0 (by have := own_lti hi0 hc5; omega) (g := (mkF m 31 #[.val (.ref a1), .val (.int p2), .val (.int p3), .val (.long acc), .second, .val (.int i)] [(.int i), (.ref a1)])) rfl rfl (hb hby d2_31) he6 _ k) ?_
            show Run p e below s 0 0 (Q_rm2 Z a1 p2 p3 f_a1 h0 n0) (T4.setTop (mkF m 32 #[.val (.ref a1), .val (.int p2), .val (.int p3), .val (.long acc), .second, .val (.int i)] [(.int e6)]))
            refine Run.go (fun _ k => XS.bipush X4.here hx rfl (hb hby d2_32) k) ?_
            show Run p e below s 0 0 (Q_rm2 Z a1 p2 p3 f_a1 h0 n0) (T4.setTop (mkF m 34 #[.val (.ref a1), .val (.int p2), .val (.int p3), .val (.long acc), .second, .val (.int i)] [(.int (48 : Int32)), (.int e6)]))
            by_cases hc7 : (e6 < (48 : Int32))
            · refine Run.go (fun _ k => XS.icmpYes X4.here hx rfl (pc0 := 34) (pc' := 46) rfl (hb hby d2_34) rfl (tlt hc7).1 (by decide) (by decide) k) ?_
              show Run p e below s 0 0 (Q_rm2 Z a1 p2 p3 f_a1 h0 n0) (T4.setTop (mkF m 46 #[.val (.ref a1), .val (.int p2), .val (.int p3), .val (.long acc), .second, .val (.int i)] []))
              refine Run.go (fun _ k => X4.ldc2Long hx hown (mvT hZ (hw _ (List.mem_of_getElem? (i := 22) rfl))) (g := (mkF m 46 #[.val (.ref a1), .val (.int p2), .val (.int p3), .val (.long acc), .second, .val (.int i)] [])) rfl (hb hby d2_46) _ k) ?_
              show Run p e below s 0 0 (Q_rm2 Z a1 p2 p3 f_a1 h0 n0) (T4.setTop (mkF m 49 #[.val (.ref a1), .val (.int p2), .val (.int p3), .val (.long acc), .second, .val (.int i)] [(.long (-1 : Int64))]))
              refine Run.retJ X4 hx Bd.returns Bd.notSynchronized (hb hby d2_49) (by decide) (by decide) ?_
              show Q_rm2 Z a1 p2 p3 f_a1 h0 n0 _ T4.heap _
              exact ⟨congrArg some (congrArg Value.long (show (-1 : Int64) = (own_u32 f_a1 p2 p3) from (own_u_b hc1 hc2 hi0 (own_lti hi0 hc5) hi1 hacc he6 (Or.inl hc7)))), N4, e4⟩
            · refine Run.go (fun _ k => XS.icmpNo X4.here hx rfl (hb hby d2_34) rfl (flt hc7).1 k) ?_
              show Run p e below s 0 0 (Q_rm2 Z a1 p2 p3 f_a1 h0 n0) (T4.setTop (mkF m 37 #[.val (.ref a1), .val (.int p2), .val (.int p3), .val (.long acc), .second, .val (.int i)] []))
              refine Run.go (fun _ k => XS.aloadN X4.here hx rfl (hb hby d2_37) rfl rfl k) ?_
              show Run p e below s 0 0 (Q_rm2 Z a1 p2 p3 f_a1 h0 n0) (T4.setTop (mkF m 38 #[.val (.ref a1), .val (.int p2), .val (.int p3), .val (.long acc), .second, .val (.int i)] [(.ref a1)]))
              refine Run.go (fun _ k => XS.iload X4.here hx rfl (hb hby d2_38) rfl  k) ?_
              show Run p e below s 0 0 (Q_rm2 Z a1 p2 p3 f_a1 h0 n0) (T4.setTop (mkF m 40 #[.val (.ref a1), .val (.int p2), .val (.int p3), .val (.long acc), .second, .val (.int i)] [(.int i), (.ref a1)]))
              refine Run.go (fun _ k => ary_bget X4 hx hZ e4 A_a1 (j := i) hi0 (by have := own_lti hi0 hc5; omega) (g := (mkF m 40 #[.val (.ref a1), .val (.int p2), .val (.int p3), .val (.long acc), .second, .val (.int i)] [(.int i), (.ref a1)])) rfl rfl (hb hby d2_40) he6 _ k) ?_
              show Run p e below s 0 0 (Q_rm2 Z a1 p2 p3 f_a1 h0 n0) (T4.setTop (mkF m 41 #[.val (.ref a1), .val (.int p2), .val (.int p3), .val (.long acc), .second, .val (.int i)] [(.int e6)]))
              refine Run.go (fun _ k => XS.bipush X4.here hx rfl (hb hby d2_41) k) ?_
              show Run p e below s 0 0 (Q_rm2 Z a1 p2 p3 f_a1 h0 n0) (T4.setTop (mkF m 43 #[.val (.ref a1), .val (.int p2), .val (.int p3), .val (.long acc), .second, .val (.int i)] [(.int (57 : Int32)), (.int e6)]))
              by_cases hc8 : ((57 : Int32) < e6)
              · refine Run.go (fun _ k => XS.icmpNo X4.here hx rfl (hb hby d2_43) rfl (tlt hc8).2.2.2 k) ?_
                show Run p e below s 0 0 (Q_rm2 Z a1 p2 p3 f_a1 h0 n0) (T4.setTop (mkF m 46 #[.val (.ref a1), .val (.int p2), .val (.int p3), .val (.long acc), .second, .val (.int i)] []))
                refine Run.go (fun _ k => X4.ldc2Long hx hown (mvT hZ (hw _ (List.mem_of_getElem? (i := 22) rfl))) (g := (mkF m 46 #[.val (.ref a1), .val (.int p2), .val (.int p3), .val (.long acc), .second, .val (.int i)] [])) rfl (hb hby d2_46) _ k) ?_
                show Run p e below s 0 0 (Q_rm2 Z a1 p2 p3 f_a1 h0 n0) (T4.setTop (mkF m 49 #[.val (.ref a1), .val (.int p2), .val (.int p3), .val (.long acc), .second, .val (.int i)] [(.long (-1 : Int64))]))
                refine Run.retJ X4 hx Bd.returns Bd.notSynchronized (hb hby d2_49) (by decide) (by decide) ?_
                show Q_rm2 Z a1 p2 p3 f_a1 h0 n0 _ T4.heap _
                exact ⟨congrArg some (congrArg Value.long (show (-1 : Int64) = (own_u32 f_a1 p2 p3) from (own_u_b hc1 hc2 hi0 (own_lti hi0 hc5) hi1 hacc he6 (Or.inr hc8)))), N4, e4⟩
              · refine Run.go (fun _ k => XS.icmpYes X4.here hx rfl (pc0 := 43) (pc' := 50) rfl (hb hby d2_43) rfl (flt hc8).2.2.2 (by decide) (by decide) k) ?_
                show Run p e below s 0 0 (Q_rm2 Z a1 p2 p3 f_a1 h0 n0) (T4.setTop (mkF m 50 #[.val (.ref a1), .val (.int p2), .val (.int p3), .val (.long acc), .second, .val (.int i)] []))
                refine Run.go (fun _ k => XS.lloadN X4.here hx rfl (hb hby d2_50) rfl  k) ?_
                show Run p e below s 0 0 (Q_rm2 Z a1 p2 p3 f_a1 h0 n0) (T4.setTop (mkF m 51 #[.val (.ref a1), .val (.int p2), .val (.int p3), .val (.long acc), .second, .val (.int i)] [(.long acc)]))
                refine Run.go (fun _ k => X4.ldc2Long hx hown (mvT hZ (hw _ (List.mem_of_getElem? (i := 25) rfl))) (g := (mkF m 51 #[.val (.ref a1), .val (.int p2), .val (.int p3), .val (.long acc), .second, .val (.int i)] [(.long acc)])) rfl (hb hby d2_51) _ k) ?_
                show Run p e below s 0 0 (Q_rm2 Z a1 p2 p3 f_a1 h0 n0) (T4.setTop (mkF m 54 #[.val (.ref a1), .val (.int p2), .val (.int p3), .val (.long acc), .second, .val (.int i)] [(.long (10 : Int64)), (.long acc)]))
                refine Run.go (fun _ k => XS.lmul X4.here hx rfl (hb hby d2_54) rfl k) ?_
                show Run p e below s 0 0 (Q_rm2 Z a1 p2 p3 f_a1 h0 n0) (T4.setTop (mkF m 55 #[.val (.ref a1), .val (.int p2), .val (.int p3), .val (.long acc), .second, .val (.int i)] [(.long (acc * (10 : Int64)))]))
                refine Run.go (fun _ k => XS.aloadN X4.here hx rfl (hb hby d2_55) rfl rfl k) ?_
                show Run p e below s 0 0 (Q_rm2 Z a1 p2 p3 f_a1 h0 n0) (T4.setTop (mkF m 56 #[.val (.ref a1), .val (.int p2), .val (.int p3), .val (.long acc), .second, .val (.int i)] [(.ref a1), (.long (acc * (10 : Int64)))]))
                refine Run.go (fun _ k => XS.iload X4.here hx rfl (hb hby d2_56) rfl  k) ?_
                show Run p e below s 0 0 (Q_rm2 Z a1 p2 p3 f_a1 h0 n0) (T4.setTop (mkF m 58 #[.val (.ref a1), .val (.int p2), .val (.int p3), .val (.long acc), .second, .val (.int i)] [(.int i), (.ref a1), (.long (acc * (10 : Int64)))]))
                refine Run.go (fun _ k => ary_bget X4 hx hZ e4 A_a1 (j := i) hi0 (by have := own_lti hi0 hc5; omega) (g := (mkF m 58 #[.val (.ref a1), .val (.int p2), .val (.int p3), .val (.long acc), .second, .val (.int i)] [(.int i), (.ref a1), (.long (acc * (10 : Int64)))])) rfl rfl (hb hby d2_58) he6 _ k) ?_
                show Run p e below s 0 0 (Q_rm2 Z a1 p2 p3 f_a1 h0 n0) (T4.setTop (mkF m 59 #[.val (.ref a1), .val (.int p2), .val (.int p3), .val (.long acc), .second, .val (.int i)] [(.int e6), (.long (acc * (10 : Int64)))]))
                refine Run.go (fun _ k => XS.bipush X4.here hx rfl (hb hby d2_59) k) ?_
                show Run p e below s 0 0 (Q_rm2 Z a1 p2 p3 f_a1 h0 n0) (T4.setTop (mkF m 61 #[.val (.ref a1), .val (.int p2), .val (.int p3), .val (.long acc), .second, .val (.int i)] [(.int (48 : Int32)), (.int e6), (.long (acc * (10 : Int64)))]))
                refine Run.go (fun _ k => XS.isub X4.here hx rfl (hb hby d2_61) rfl k) ?_
                show Run p e below s 0 0 (Q_rm2 Z a1 p2 p3 f_a1 h0 n0) (T4.setTop (mkF m 62 #[.val (.ref a1), .val (.int p2), .val (.int p3), .val (.long acc), .second, .val (.int i)] [(.int (e6 - (48 : Int32))), (.long (acc * (10 : Int64)))]))
                refine Run.go (fun _ k => XS.i2l X4.here hx rfl (hb hby d2_62) rfl k) ?_
                show Run p e below s 0 0 (Q_rm2 Z a1 p2 p3 f_a1 h0 n0) (T4.setTop (mkF m 63 #[.val (.ref a1), .val (.int p2), .val (.int p3), .val (.long acc), .second, .val (.int i)] [(.long ((e6 - (48 : Int32)).toInt64)), (.long (acc * (10 : Int64)))]))
                refine Run.go (fun _ k => XS.ladd X4.here hx rfl (hb hby d2_63) rfl k) ?_
                show Run p e below s 0 0 (Q_rm2 Z a1 p2 p3 f_a1 h0 n0) (T4.setTop (mkF m 64 #[.val (.ref a1), .val (.int p2), .val (.int p3), .val (.long acc), .second, .val (.int i)] [(.long ((acc * (10 : Int64)) + ((e6 - (48 : Int32)).toInt64)))]))
                refine Run.go (fun _ k => XS.lstoreN X4.here hx rfl (hb hby d2_64) rfl (l' := #[.val (.ref a1), .val (.int p2), .val (.int p3), .val (.long ((acc * (10 : Int64)) + ((e6 - (48 : Int32)).toInt64))), .second, .val (.int i)]) rfl k) ?_
                show Run p e below s 0 0 (Q_rm2 Z a1 p2 p3 f_a1 h0 n0) (T4.setTop (mkF m 65 #[.val (.ref a1), .val (.int p2), .val (.int p3), .val (.long ((acc * (10 : Int64)) + ((e6 - (48 : Int32)).toInt64))), .second, .val (.int i)] []))
                refine Run.go (fun _ k => XS.iinc X4.here hx rfl (hb hby d2_65) rfl (l' := #[.val (.ref a1), .val (.int p2), .val (.int p3), .val (.long ((acc * (10 : Int64)) + ((e6 - (48 : Int32)).toInt64))), .second, .val (.int (i + (1 : Int32)))]) rfl k) ?_
                show Run p e below s 0 0 (Q_rm2 Z a1 p2 p3 f_a1 h0 n0) (T4.setTop (mkF m 68 #[.val (.ref a1), .val (.int p2), .val (.int p3), .val (.long ((acc * (10 : Int64)) + ((e6 - (48 : Int32)).toInt64))), .second, .val (.int (i + (1 : Int32)))] []))
                refine Run.go (fun _ k => XS.goto X4.here hx rfl (pc0 := 68) (pc' := 22) rfl (hb hby d2_68) (by decide) (by decide) k) ?_
                show Run p e below s 0 0 (Q_rm2 Z a1 p2 p3 f_a1 h0 n0) (T4.setTop (mkF m 22 #[.val (.ref a1), .val (.int p2), .val (.int p3), .val (.long ((acc * (10 : Int64)) + ((e6 - (48 : Int32)).toInt64))), .second, .val (.int (i + (1 : Int32)))] []))
                exact ihLP3 (p3.toNatClampNeg - (i + (1 : Int32)).toNatClampNeg) (by rw [← hk, (own_succ hi0 (own_lti hi0 hc5)).1]; have := own_lti hi0 hc5; omega) ((acc * (10 : Int64)) + ((e6 - (48 : Int32)).toInt64)) (i + (1 : Int32)) _ _ X4 e4 N4 (own_succ hi0 (own_lti hi0 hc5)).2 (by rw [(own_succ hi0 (own_lti hi0 hc5)).1]; omega) (by rw [(own_succ hi0 (own_lti hi0 hc5)).1]; exact (own_lti hi0 hc5)) (own_acc_step hi0 (own_lti hi0 hc5) hi1 hacc he6 hc7 hc8) rfl
          · refine Run.go (fun _ k => XS.icmpYes X4.here hx rfl (pc0 := 25) (pc' := 71) rfl (hb hby d2_25) rfl (flt hc5).2.1 (by decide) (by decide) k) ?_
            show Run p e below s 0 0 (Q_rm2 Z a1 p2 p3 f_a1 h0 n0) (T4.setTop (mkF m 71 #[.val (.ref a1), .val (.int p2), .val (.int p3), .val (.long acc), .second, .val (.int i)] []))
            refine Run.go (fun _ k => XS.lloadN X4.here hx rfl (hb hby d2_71) rfl  k) ?_
            show Run p e below s 0 0 (Q_rm2 Z a1 p2 p3 f_a1 h0 n0) (T4.setTop (mkF m 72 #[.val (.ref a1), .val (.int p2), .val (.int p3), .val (.long acc), .second, .val (.int i)] [(.long acc)]))
            refine Run.go (fun _ k => X4.ldc2Long hx hown (mvT hZ (hw _ (List.mem_of_getElem? (i := 26) rfl))) (g := (mkF m 72 #[.val (.ref a1), .val (.int p2), .val (.int p3), .val (.long acc), .second, .val (.int i)] [(.long acc)])) rfl (hb hby d2_72) _ k) ?_
            show Run p e below s 0 0 (Q_rm2 Z a1 p2 p3 f_a1 h0 n0) (T4.setTop (mkF m 75 #[.val (.ref a1), .val (.int p2), .val (.int p3), .val (.long acc), .second, .val (.int i)] [(.long (4294967295 : Int64)), (.long acc)]))
            refine Run.go (fun _ k => XS.lcmp X4.here hx rfl (hb hby d2_75) rfl k) ?_
            show Run p e below s 0 0 (Q_rm2 Z a1 p2 p3 f_a1 h0 n0) (T4.setTop (mkF m 76 #[.val (.ref a1), .val (.int p2), .val (.int p3), .val (.long acc), .second, .val (.int i)] [(.int (lcmpW acc (4294967295 : Int64)))]))
            have J9 : ∀ (w10 : Int64) (hw10 : w10 = (if ((4294967295 : Int64) < acc) then (-1 : Int64) else acc)) (T11 : State) (L11 : List Loc) (X11 : Stand p l e ({ frames := 0, cells := 0, slots := 0, locals := 0 } : Room) s m #[(.ref a1), (.int p2), (.int p3)] below meth c T11 L11 0 0) (e11 : T11.heap = h0) (N11 : Fr n0 L11), Run p e below s 0 0 (Q_rm2 Z a1 p2 p3 f_a1 h0 n0) (T11.setTop (mkF m 86 #[.val (.ref a1), .val (.int p2), .val (.int p3), .val (.long acc), .second, .val (.int i)] [(.long w10)])) := by
              intro w10 hw10 T11 L11 X11 e11 N11
              show Run p e below s 0 0 (Q_rm2 Z a1 p2 p3 f_a1 h0 n0) (T11.setTop (mkF m 86 #[.val (.ref a1), .val (.int p2), .val (.int p3), .val (.long acc), .second, .val (.int i)] [(.long w10)]))
              refine Run.retJ X11 hx Bd.returns Bd.notSynchronized (hb hby d2_86) (by decide) (by decide) ?_
              show Q_rm2 Z a1 p2 p3 f_a1 h0 n0 _ T11.heap _
              exact ⟨congrArg some (congrArg Value.long (show w10 = (own_u32 f_a1 p2 p3) from (own_u_c hc1 hc2 hi0 hi2 (own_nlti hi0 hpe0 hc5) hacc hw10))), N11, e11⟩
            by_cases hc12 : ((4294967295 : Int64) < acc)
            · refine Run.go (fun _ k => XS.ifYes X4.here hx rfl (pc0 := 76) (pc' := 83) rfl (hb hby d2_76) rfl ((if0 _ _).trans (tlt ((lw_gt acc (4294967295 : Int64)).mpr hc12)).2.2.1) (by decide) (by decide) k) ?_
              show Run p e below s 0 0 (Q_rm2 Z a1 p2 p3 f_a1 h0 n0) (T4.setTop (mkF m 83 #[.val (.ref a1), .val (.int p2), .val (.int p3), .val (.long acc), .second, .val (.int i)] []))
              refine Run.go (fun _ k => X4.ldc2Long hx hown (mvT hZ (hw _ (List.mem_of_getElem? (i := 22) rfl))) (g := (mkF m 83 #[.val (.ref a1), .val (.int p2), .val (.int p3), .val (.long acc), .second, .val (.int i)] [])) rfl (hb hby d2_83) _ k) ?_
              show Run p e below s 0 0 (Q_rm2 Z a1 p2 p3 f_a1 h0 n0) (T4.setTop (mkF m 86 #[.val (.ref a1), .val (.int p2), .val (.int p3), .val (.long acc), .second, .val (.int i)] [(.long (-1 : Int64))]))
              exact J9 _ (by rw [if_pos hc12]) _ _ X4 e4 N4
            · refine Run.go (fun _ k => XS.ifNo X4.here hx rfl (hb hby d2_76) rfl ((if0 _ _).trans (flt (mt (lw_gt acc (4294967295 : Int64)).mp hc12)).2.2.1) k) ?_
              show Run p e below s 0 0 (Q_rm2 Z a1 p2 p3 f_a1 h0 n0) (T4.setTop (mkF m 79 #[.val (.ref a1), .val (.int p2), .val (.int p3), .val (.long acc), .second, .val (.int i)] []))
              refine Run.go (fun _ k => XS.lloadN X4.here hx rfl (hb hby d2_79) rfl  k) ?_
              show Run p e below s 0 0 (Q_rm2 Z a1 p2 p3 f_a1 h0 n0) (T4.setTop (mkF m 80 #[.val (.ref a1), .val (.int p2), .val (.int p3), .val (.long acc), .second, .val (.int i)] [(.long acc)]))
              refine Run.go (fun _ k => XS.goto X4.here hx rfl (pc0 := 80) (pc' := 86) rfl (hb hby d2_80) (by decide) (by decide) k) ?_
              show Run p e below s 0 0 (Q_rm2 Z a1 p2 p3 f_a1 h0 n0) (T4.setTop (mkF m 86 #[.val (.ref a1), .val (.int p2), .val (.int p3), .val (.long acc), .second, .val (.int i)] [(.long acc)]))
              exact J9 _ (by rw [if_neg hc12]) _ _ X4 e4 N4
      exact LP3 (p3.toNatClampNeg - p2.toNatClampNeg) (0 : Int64) p2 _ _ X0 e0 N0 hp0 (Nat.le_refl _) hpe (by rw [Nat.sub_self]; rfl) rfl
theorem own_s (x : Int32) : ¬ (x &&& (3 : Int32)) < 0 ∧ ¬ (3 : Int32) < (x &&& (3 : Int32)) := by
  have h := c_and x 3 (by decide)
  have e0 : (0 : Int32).toInt = 0 := rfl
  simp only [Int32.lt_iff_toInt_lt]
  omega
theorem own_ln (x : Int32) : ¬ (((x.toUInt32 >>> ((2 : Int32) &&& 31).toUInt32).toInt32) % (12 : Int32)) < 0 ∧ ¬ (11 : Int32) < (((x.toUInt32 >>> ((2 : Int32) &&& 31).toUInt32).toInt32) % (12 : Int32)) ∧ (((x.toUInt32 >>> ((2 : Int32) &&& 31).toUInt32).toInt32) % (12 : Int32)).toNatClampNeg < 12 := by
  have h := c_iushr x 2 2 (by decide) (by decide)
  have h2 := (c_irem ((x.toUInt32 >>> ((2 : Int32) &&& 31).toUInt32).toInt32) 12 12 rfl).1 (by omega)
  have e0 : (0 : Int32).toInt = 0 := rfl
  have e11 : (11 : Int32).toInt = 11 := rfl
  simp only [Int32.lt_iff_toInt_lt, Int32.toNatClampNeg]
  omega
theorem own_p (x : Int32) : ¬ (((x.toUInt32 >>> ((1 : Int32) &&& 31).toUInt32).toInt32) % (11 : Int32)) < 0 ∧ ¬ (10 : Int32) < (((x.toUInt32 >>> ((1 : Int32) &&& 31).toUInt32).toInt32) % (11 : Int32)) := by
  have h := c_iushr x 1 1 (by decide) (by decide)
  have h2 := (c_irem ((x.toUInt32 >>> ((1 : Int32) &&& 31).toUInt32).toInt32) 11 11 rfl).1 (by omega)
  have e0 : (0 : Int32).toInt = 0 := rfl
  have e11 : (10 : Int32).toInt = 10 := rfl
  simp only [Int32.lt_iff_toInt_lt]
  omega
theorem own_end {s n : Int32} (hs0 : ¬ s < 0) (hs3 : ¬ (3 : Int32) < s) (hl0 : ¬ n < 0) (hl11 : ¬ (11 : Int32) < n) : s.toNatClampNeg ≤ (s + n).toNatClampNeg ∧ ¬ (s + n) < 0 ∧ (s + n).toNatClampNeg ≤ 16 ∧ (s + n).toNatClampNeg = s.toNatClampNeg + n.toNatClampNeg := by
  have e0 : (0 : Int32).toInt = 0 := rfl
  have e3 : (3 : Int32).toInt = 3 := rfl
  have e11 : (11 : Int32).toInt = 11 := rfl
  have a1 := c_iadd s n
  have := rng32 (s + n)
  simp only [Int32.lt_iff_toInt_lt, Int32.toNatClampNeg] at *
  omega
theorem own_ixp {n p : Int32} (hl0 : ¬ n < 0) (hp0 : ¬ p < 0) (h : p < n) (h11 : ¬ (11 : Int32) < n) : ¬ ((n - (1 : Int32)) - p) < 0 ∧ ((n - (1 : Int32)) - p).toNatClampNeg < 12 ∧ ((n - (1 : Int32)) - p).toNatClampNeg = n.toNatClampNeg - 1 - p.toNatClampNeg := by
  have e0 : (0 : Int32).toInt = 0 := rfl
  have e1 : (1 : Int32).toInt = 1 := rfl
  have e11 : (11 : Int32).toInt = 11 := rfl
  have a2 := c_isub n 1
  have a4 := c_isub (n - 1) p
  have := rng32 n
  have := rng32 p
  have := rng32 (n - 1)
  have := rng32 ((n - 1) - p)
  simp only [Int32.lt_iff_toInt_lt, Int32.toNatClampNeg] at *
  omega

theorem own_cell_b (k s n : Int32) (v : Int64) (j p ib jk : Int32) (hib : ib.toInt8.toInt32 = ib) : (F_rm1 k s n v j p ib jk).toInt8.toInt32 = F_rm1 k s n v j p ib jk := by
  unfold F_rm1
  split
  · exact b_idem _
  · split
    · split
      · exact b_idem _
      · split
        · exact hib
        · exact b_idem _
    · exact b_idem _
theorem own_D (v : Int64) (j : Nat) (hj : j < 12) (hv : 0 ≤ v.toInt) : ((v / own_pw j) - ((v / own_pw j) / (10 : Int64)) * (10 : Int64)).toInt = (v.toInt / (10 ^ j : Nat)) % 10 ∧ (((48 : Int64) + ((v / own_pw j) - ((v / own_pw j) / (10 : Int64)) * (10 : Int64))).toInt32.toInt8.toInt32).toInt = 48 + (v.toInt / (10 ^ j : Nat)) % 10 := by
  have pp := own_pw_i j hj
  have hpos : 0 < 10 ^ j := Nat.pow_pos (by decide)
  have hne : own_pw j ≠ -1 := fun e => by rw [e] at pp; have e1 : (-1 : Int64).toInt = -1 := rfl; omega
  have d := (c_ldiv v (own_pw j) _ pp hne).1 hv
  have dn : 0 ≤ (v / own_pw j).toInt := by rw [d]; exact Int.ediv_nonneg hv (Int.natCast_nonneg _)
  have r := (c_lrem (v / own_pw j) 10 10 rfl).1 dn
  rw [d] at r
  refine ⟨r, ?_⟩
  generalize (v / own_pw j) - ((v / own_pw j) / (10 : Int64)) * (10 : Int64) = y at *
  have a := c_ladd 48 y
  have e48 : (48 : Int64).toInt = 48 := rfl
  have l := c_l2i ((48 : Int64) + y)
  have b := c_i2b ((48 : Int64) + y).toInt32
  have := rng64 ((48 : Int64) + y)
  have := rng32 ((48 : Int64) + y).toInt32
  generalize v.toInt / ((10 ^ j : Nat) : Int) = q at *
  omega
theorem own_pstep (W : Int) (m : Nat) : W / (10 ^ m : Nat) = (W / (10 ^ (m + 1) : Nat)) * 10 + (W / (10 ^ m : Nat)) % 10 := by
  have e : ((10 ^ (m + 1) : Nat) : Int) = ((10 ^ m : Nat) : Int) * 10 := by rw [Nat.pow_succ]; omega
  rw [e, ← Int.ediv_ediv_of_nonneg (Int.natCast_nonneg _)]
  generalize W / ((10 ^ m : Nat) : Int) = q
  omega
theorem own_scan (ff : Nat → Value) (S N : Nat) (W : Int) (hW : 0 ≤ W) (hW2 : W < (10 ^ N : Nat)) (hN : N ≤ 10) (M : Nat) (hM : M ≤ N) (hd : ∀ i, i < M → ∃ e, ff (S + i) = .int e ∧ e.toInt = 48 + (W / (10 ^ (N - 1 - i) : Nat)) % 10) : ∀ i, i ≤ M → ∃ a, own_acc ff S i = some a ∧ a.toInt = W / (10 ^ (N - i) : Nat) := by
  intro i
  induction i with
  | zero => intro _; exact ⟨0, rfl, by rw [Nat.sub_zero, Int.ediv_eq_zero_of_lt hW hW2]; rfl⟩
  | succ i ih =>
    intro hi
    obtain ⟨a, h1, h2⟩ := ih (by omega)
    obtain ⟨e, h3, h4⟩ := hd i (by omega)
    have st := own_pstep W (N - 1 - i)
    rw [show N - 1 - i + 1 = N - i from by omega] at st
    have hb : W / (10 ^ (N - i) : Nat) ≤ W := Int.ediv_le_self _ hW
    have hb0 : 0 ≤ W / (10 ^ (N - i) : Nat) := Int.ediv_nonneg hW (Int.natCast_nonneg _)
    have hp : (10 ^ N : Nat) ≤ 10 ^ 10 := Nat.pow_le_pow_right (by decide) hN
    have e10 : (10 ^ 10 : Nat) = 10000000000 := by decide
    have e48 : (48 : Int32).toInt = 48 := rfl
    have e57 : (57 : Int32).toInt = 57 := rfl
    have t10 : (10 : Int64).toInt = 10 := rfl
    have s1 := c_isub e 48
    have s2 := c_lmul a 10
    have s3 := c_ladd (a * (10 : Int64)) ((e - (48 : Int32)).toInt64)
    have s4 := c_i2l (e - (48 : Int32))
    have := rng32 (e - (48 : Int32))
    have := rng64 (a * (10 : Int64))
    have := rng64 (a * (10 : Int64) + ((e - (48 : Int32)).toInt64))
    refine ⟨a * (10 : Int64) + ((e - (48 : Int32)).toInt64), ?_, ?_⟩
    · rw [own_acc, h1]
      simp only []
      rw [h3, own_iv, if_neg]
      simp only [Int32.lt_iff_toInt_lt]
      generalize W / ((10 ^ (N - 1 - i) : Nat) : Int) = q at *
      omega
    · rw [show N - (i + 1) = N - 1 - i from by omega]
      rw [t10] at s2
      generalize W / ((10 ^ (N - 1 - i) : Nat) : Int) = q at *
      generalize W / ((10 ^ (N - i) : Nat) : Int) = q' at *
      omega
theorem own_fold (ff : Nat → Value) (s n : Int32) (hs0 : ¬ s < 0) (hs3 : ¬ (3 : Int32) < s) (hl0 : ¬ n < 0) (hl11 : ¬ (11 : Int32) < n) : ((s + n = s) ↔ n = 0) ∧ (s + n) - s = n ∧ (s + n).toNatClampNeg - s.toNatClampNeg = n.toNatClampNeg := by
  obtain ⟨-, -, -, q⟩ := own_end hs0 hs3 hl0 hl11
  have e0 : (0 : Int32).toInt = 0 := rfl
  have e3 : (3 : Int32).toInt = 3 := rfl
  have e11 : (11 : Int32).toInt = 11 := rfl
  have a1 := c_iadd s n
  have a2 := c_isub (s + n) s
  have := rng32 (s + n)
  have := rng32 ((s + n) - s)
  refine ⟨?_, Int32.toInt_inj.mp ?_, by omega⟩
  · rw [← Int32.toInt_inj, ← Int32.toInt_inj]
    simp only [Int32.lt_iff_toInt_lt] at *
    omega
  · simp only [Int32.lt_iff_toInt_lt] at *
    omega
theorem own_cellat (s n : Int32) (v : Int64) (j p ib jk : Int32) (hs0 : ¬ s < 0) (hs3 : ¬ (3 : Int32) < s) (hl0 : ¬ n < 0) (hl11 : ¬ (11 : Int32) < n) (i : Nat) (hi : i < n.toNatClampNeg) : F_rm1 (Int32.ofNat (s.toNatClampNeg + i)) s n v j p ib jk = (if (j = (0 : Int32)) then (((48 : Int64) + ((v / own_pw (n.toNatClampNeg - 1 - i)) - ((v / own_pw (n.toNatClampNeg - 1 - i)) / (10 : Int64)) * (10 : Int64))).toInt32.toInt8.toInt32) else (if (Int32.ofNat i = p) then ib else (((48 : Int64) + ((v / own_pw (n.toNatClampNeg - 1 - i)) - ((v / own_pw (n.toNatClampNeg - 1 - i)) / (10 : Int64)) * (10 : Int64))).toInt32.toInt8.toInt32))) := by
  have e0 : (0 : Int32).toInt = 0 := rfl
  have e3 : (3 : Int32).toInt = 3 := rfl
  have e11 : (11 : Int32).toInt = 11 := rfl
  have a1 := c_iadd s n
  have := rng32 (s + n)
  have b1 : s.toNatClampNeg ≤ 3 := by simp only [Int32.lt_iff_toInt_lt, Int32.toNatClampNeg] at *; omega
  have b2 : n.toNatClampNeg ≤ 11 := by simp only [Int32.lt_iff_toInt_lt, Int32.toNatClampNeg] at *; omega
  have k1 : (Int32.ofNat (s.toNatClampNeg + i)).toInt = (s.toNatClampNeg + i : Nat) := len_toInt (by omega)
  have k2 : (Int32.ofNat i).toInt = i := len_toInt (by omega)
  have n1 : ¬ (Int32.ofNat (s.toNatClampNeg + i)) < s := by
    simp only [Int32.lt_iff_toInt_lt, k1, Int32.toNatClampNeg] at *; omega
  have n2 : (Int32.ofNat (s.toNatClampNeg + i)) < s + n := by
    simp only [Int32.lt_iff_toInt_lt, k1, Int32.toNatClampNeg] at *; omega
  obtain ⟨-, -, x3, -, -, x6, -⟩ := own_ixc hs0 hs3 hl0 hl11 n1 n2
  have x7 : Int32.ofNat (s.toNatClampNeg + i) - s = Int32.ofNat i := by
    apply Int32.toInt_inj.mp
    rw [x6, k1, k2]
    simp only [Int32.lt_iff_toInt_lt, Int32.toNatClampNeg] at *; omega
  have x8 : (Int32.ofNat (s.toNatClampNeg + i)).toNatClampNeg - s.toNatClampNeg = i := by
    rw [show (Int32.ofNat (s.toNatClampNeg + i)).toNatClampNeg = s.toNatClampNeg + i from by rw [Int32.toNatClampNeg, k1]; omega]; omega
  rw [x8] at x3
  unfold F_rm1
  rw [if_neg n1, if_pos n2, x3, x7]

theorem own_digs (V d c : Int) (J N : Nat) (hV : 0 ≤ V) (hVN : V < (10 ^ N : Nat)) (hJ : J < N) (hd : d = (V / (10 ^ J : Nat)) % 10) (c0 : 0 ≤ c) (c9 : c ≤ 9) :
    0 ≤ V - d * (10 ^ J : Nat) + c * (10 ^ J : Nat) ∧ V - d * (10 ^ J : Nat) + c * (10 ^ J : Nat) < (10 ^ N : Nat) ∧ ((V - d * (10 ^ J : Nat) + c * (10 ^ J : Nat)) / (10 ^ J : Nat)) % 10 = c ∧
    ∀ j, j ≠ J → ((V - d * (10 ^ J : Nat) + c * (10 ^ J : Nat)) / (10 ^ j : Nat)) % 10 = (V / (10 ^ j : Nat)) % 10 := by
  have hP : 0 < 10 ^ J := Nat.pow_pos (by decide)
  have hPi : (0 : Int) < ((10 ^ J : Nat) : Int) := Int.natCast_pos.mpr hP
  have hKK : ((10 ^ N : Nat) : Int) = ((10 ^ J : Nat) : Int) * (10 * ((10 ^ (N - 1 - J) : Nat) : Int)) := by
    rw [show N = J + (1 + (N - 1 - J)) from by omega, Nat.pow_add, Nat.pow_add, show J + (1 + (N - 1 - J)) - 1 - J = N - 1 - J from by omega]
    push_cast
    rfl
  have hup : ∀ j, J < j → ((10 ^ j : Nat) : Int) = ((10 ^ J : Nat) : Int) * (10 * ((10 ^ (j - 1 - J) : Nat) : Int)) := by
    intro j hj
    rw [show j = J + (1 + (j - 1 - J)) from by omega, Nat.pow_add, Nat.pow_add, show J + (1 + (j - 1 - J)) - 1 - J = j - 1 - J from by omega]
    push_cast
    rfl
  have hdn : ∀ j, j < J → ((10 ^ J : Nat) : Int) = ((10 ^ j : Nat) : Int) * (10 * ((10 ^ (J - 1 - j) : Nat) : Int)) := by
    intro j hj
    rw [show J = j + (1 + (J - 1 - j)) from by omega, Nat.pow_add, Nat.pow_add, show j + (1 + (J - 1 - j)) - 1 - j = J - 1 - j from by omega]
    push_cast
    rfl
  have hW : V - d * (10 ^ J : Nat) + c * (10 ^ J : Nat) = V + ((10 ^ J : Nat) : Int) * (c - d) := by
    rw [Int.mul_sub, Int.mul_comm _ c, Int.mul_comm _ d]; omega
  rw [hW]
  generalize hPP : ((10 ^ J : Nat) : Int) = P at *
  have q1 : (V + P * (c - d)) / P = V / P + (c - d) := Int.add_mul_ediv_left _ _ (by omega)
  have q0 : 0 ≤ V / P := Int.ediv_nonneg hV (by omega)
  have w0 : 0 ≤ V + P * (c - d) := by
    have e := Int.mul_ediv_add_emod V P
    have r := Int.emod_nonneg V (show P ≠ 0 by omega)
    have m := Int.mul_nonneg (show 0 ≤ P by omega) (show 0 ≤ V / P + (c - d) by omega)
    rw [Int.mul_add] at m
    omega
  refine ⟨w0, ?_, ?_, fun j hj => ?_⟩
  · have hlt : V / P < 10 * ((10 ^ (N - 1 - J) : Nat) : Int) := by
      apply Int.ediv_lt_of_lt_mul (by omega)
      rw [Int.mul_comm, ← hKK]; exact hVN
    have : (V + P * (c - d)) / P < 10 * ((10 ^ (N - 1 - J) : Nat) : Int) := by
      rw [q1]
      generalize ((10 ^ (N - 1 - J) : Nat) : Int) = K at *
      omega
    have := Int.lt_mul_of_ediv_lt (show 0 < P by omega) this
    rw [hKK, Int.mul_comm P (10 * ((10 ^ (N - 1 - J) : Nat) : Int))]; exact this
  · rw [q1]; omega
  · rcases Nat.lt_or_gt_of_ne hj with h | h
    · rw [hdn j h, Int.mul_assoc, Int.add_mul_ediv_left _ _ (by have : 0 < 10 ^ j := Nat.pow_pos (by decide); have := Int.natCast_pos.mpr this; omega), Int.mul_assoc, Int.add_mul_emod_self_left]
    · rw [hup j h, ← Int.ediv_ediv_of_nonneg (by omega), ← Int.ediv_ediv_of_nonneg (by omega), ← Int.ediv_ediv_of_nonneg (by omega), ← Int.ediv_ediv_of_nonneg (by omega), q1]
      rw [show (V / P + (c - d)) / 10 = V / P / 10 from by omega]
theorem own_w64 (v : Int64) (ib : Int32) (j : Nat) (hj : j < 10) (hv : 0 ≤ v.toInt) (hv2 : v.toInt < 10000000000) (i0 : ¬ ib < (48 : Int32)) (i9 : ¬ (57 : Int32) < ib) :
    ((v - (((v / (own_pw j)) - ((v / (own_pw j)) / (10 : Int64)) * (10 : Int64)) * (own_pw j))) + (((ib - (48 : Int32)).toInt64) * (own_pw j))).toInt = v.toInt - ((v.toInt / (10 ^ j : Nat)) % 10) * (10 ^ j : Nat) + (ib.toInt - 48) * (10 ^ j : Nat) := by
  have D := (own_D v j (by omega) hv).1
  have pp := own_pw_i j (by omega)
  have hP : (10 ^ j : Nat) ≤ 10 ^ 9 := Nat.pow_le_pow_right (by decide) (by omega)
  have e9 : (10 ^ 9 : Nat) = 1000000000 := by decide
  have e48 : (48 : Int32).toInt = 48 := rfl
  have e57 : (57 : Int32).toInt = 57 := rfl
  generalize (v / (own_pw j)) - ((v / (own_pw j)) / (10 : Int64)) * (10 : Int64) = d at *
  have d0 : 0 ≤ d.toInt ∧ d.toInt ≤ 9 := by rw [D]; omega
  rw [← D]
  have s1 := c_isub ib 48
  have s2 := c_i2l (ib - 48)
  have := rng32 ib
  have := rng32 (ib - 48)
  simp only [Int32.lt_iff_toInt_lt] at i0 i9
  have c0 : 0 ≤ (ib - 48).toInt64.toInt ∧ (ib - 48).toInt64.toInt ≤ 9 ∧ (ib - 48).toInt64.toInt = ib.toInt - 48 := by omega
  rw [← c0.2.2]
  have m1 := c_lmul d (own_pw j)
  have m2 := c_lmul (ib - 48).toInt64 (own_pw j)
  rw [pp] at m1 m2
  have p0 : (0 : Int) ≤ ((10 ^ j : Nat) : Int) := Int.natCast_nonneg _
  have p9 : ((10 ^ j : Nat) : Int) ≤ 1000000000 := by rw [← show ((1000000000 : Nat) : Int) = 1000000000 from rfl, ← e9]; exact Int.ofNat_le.mpr hP
  generalize ((10 ^ j : Nat) : Int) = P at *
  have b1 := Int.mul_nonneg d0.1 p0
  have b2 := Int.mul_le_mul_of_nonneg_right d0.2 p0
  have b3 := Int.mul_nonneg c0.1 p0
  have b4 := Int.mul_le_mul_of_nonneg_right c0.2.1 p0
  have t1 := c_lsub v (d * own_pw j)
  have t2 := c_ladd (v - d * own_pw j) ((ib - 48).toInt64 * own_pw j)
  have := rng64 (d * own_pw j)
  have := rng64 ((ib - 48).toInt64 * own_pw j)
  have := rng64 (v - d * own_pw j)
  have := rng64 (v - d * own_pw j + (ib - 48).toInt64 * own_pw j)
  generalize d.toInt * P = X at *
  generalize (ib - 48).toInt64.toInt * P = Y at *
  omega
theorem own_final (ff : Nat → Value) (s n p ib inj jk : Int32) (v : Int64) (c : Prop) [Decidable c] (hs0 : ¬ s < 0) (hs3 : ¬ (3 : Int32) < s) (hl0 : ¬ n < 0) (hl11 : ¬ (11 : Int32) < n) (hp0 : ¬ p < 0) (hinj : inj = if c then (1 : Int32) else 0) (hcp : c → p < n)
    (hv0 : 0 ≤ v.toInt) (hv : v.toInt < (10 ^ n.toNatClampNeg : Nat)) (hcl : ∀ i, i < 16 → ff i = Value.int (F_rm1 (Int32.ofNat i) s n v inj p ib jk)) :
    own_u32 ff s (s + n) = (if (n = (0 : Int32)) then (-1 : Int64) else (if ((10 : Int32) < n) then (-1 : Int64) else (if c then (if (ib < (48 : Int32)) then (-1 : Int64) else (if ((57 : Int32) < ib) then (-1 : Int64) else (if ((4294967295 : Int64) < ((v - (((v / (own_pw ((n - (1 : Int32)) - p).toNatClampNeg)) - ((v / (own_pw ((n - (1 : Int32)) - p).toNatClampNeg)) / (10 : Int64)) * (10 : Int64)) * (own_pw ((n - (1 : Int32)) - p).toNatClampNeg))) + (((ib - (48 : Int32)).toInt64) * (own_pw ((n - (1 : Int32)) - p).toNatClampNeg)))) then (-1 : Int64) else ((v - (((v / (own_pw ((n - (1 : Int32)) - p).toNatClampNeg)) - ((v / (own_pw ((n - (1 : Int32)) - p).toNatClampNeg)) / (10 : Int64)) * (10 : Int64)) * (own_pw ((n - (1 : Int32)) - p).toNatClampNeg))) + (((ib - (48 : Int32)).toInt64) * (own_pw ((n - (1 : Int32)) - p).toNatClampNeg)))))) else (if ((4294967295 : Int64) < v) then (-1 : Int64) else v)))) := by
  obtain ⟨f1, f2, f3⟩ := own_fold ff s n hs0 hs3 hl0 hl11
  unfold own_u32
  by_cases n0 : n = 0
  · rw [if_pos (f1.mpr n0), if_pos n0]
  rw [if_neg (mt f1.mp n0), f2, if_neg n0]
  by_cases n10 : (10 : Int32) < n
  · rw [if_pos n10, if_pos n10]
  rw [if_neg n10, if_neg n10, f3]
  have e0 : (0 : Int32).toInt = 0 := rfl
  have e10 : (10 : Int32).toInt = 10 := rfl
  have e3 : (3 : Int32).toInt = 3 := rfl
  have hN : n.toNatClampNeg ≤ 10 ∧ 1 ≤ n.toNatClampNeg := by
    rw [← Int32.toInt_inj] at n0
    simp only [Int32.lt_iff_toInt_lt, Int32.toNatClampNeg] at *
    omega
  have hS : s.toNatClampNeg ≤ 3 := by
    simp only [Int32.lt_iff_toInt_lt, Int32.toNatClampNeg] at *
    omega
  have hat : ∀ i, i < n.toNatClampNeg → ff (s.toNatClampNeg + i) = Value.int (F_rm1 (Int32.ofNat (s.toNatClampNeg + i)) s n v inj p ib jk) := fun i hi => hcl _ (by omega)
  have hb : v.toInt < 10000000000 := by
    have hp : (10 ^ n.toNatClampNeg : Nat) ≤ 10 ^ 10 := Nat.pow_le_pow_right (by decide) hN.1
    have e : (10 ^ 10 : Nat) = 10000000000 := by decide
    omega
  by_cases hc : c
  · rw [if_pos hc]
    have pn := hcp hc
    have hpn : p.toNatClampNeg < n.toNatClampNeg := own_lti hp0 pn
    have hj1 : ¬ inj = (0 : Int32) := by rw [hinj, if_pos hc]; decide
    have dig : ∀ i, i < n.toNatClampNeg → i ≠ p.toNatClampNeg → ∃ e, ff (s.toNatClampNeg + i) = .int e ∧ e.toInt = 48 + (v.toInt / (10 ^ (n.toNatClampNeg - 1 - i) : Nat)) % 10 := by
      intro i hi hne
      have ne2 : ¬ (Int32.ofNat i = p) := fun e => by
        apply hne
        have k2 : (Int32.ofNat i).toInt = i := len_toInt (by omega)
        rw [← e, Int32.toNatClampNeg, k2]; omega
      refine ⟨_, hat i hi, ?_⟩
      rw [own_cellat s n v inj p ib jk hs0 hs3 hl0 hl11 i hi, if_neg hj1, if_neg ne2]
      exact (own_D v _ (by omega) hv0).2
    have digp : ff (s.toNatClampNeg + p.toNatClampNeg) = .int ib := by
      rw [hat _ hpn, own_cellat s n v inj p ib jk hs0 hs3 hl0 hl11 _ hpn, if_neg hj1, if_pos]
      apply Int32.toInt_inj.mp
      have k2 : (Int32.ofNat p.toNatClampNeg).toInt = p.toNatClampNeg := len_toInt (by omega)
      rw [k2]
      simp only [Int32.lt_iff_toInt_lt, Int32.toNatClampNeg] at *
      omega
    by_cases bad : ib < (48 : Int32) ∨ (57 : Int32) < ib
    · obtain ⟨a, h1, -⟩ := own_scan ff s.toNatClampNeg n.toNatClampNeg v.toInt hv0 hv hN.1 p.toNatClampNeg (by omega) (fun i hi => dig i (by omega) (by omega)) p.toNatClampNeg (Nat.le_refl _)
      have z : own_acc ff s.toNatClampNeg (p.toNatClampNeg + 1) = none := by
        rw [own_acc, h1]
        simp only []
        rw [digp, own_iv, if_pos bad]
      have z2 := own_acc_none z (n.toNatClampNeg - p.toNatClampNeg - 1)
      rw [show p.toNatClampNeg + 1 + (n.toNatClampNeg - p.toNatClampNeg - 1) = n.toNatClampNeg from by omega] at z2
      rw [z2]
      rcases bad with b1 | b1
      · rw [if_pos b1]
      · by_cases b2 : ib < (48 : Int32)
        · rw [if_pos b2]
        · rw [if_neg b2, if_pos b1]
    · have i0 : ¬ ib < (48 : Int32) := fun q => bad (Or.inl q)
      have i9 : ¬ (57 : Int32) < ib := fun q => bad (Or.inr q)
      rw [if_neg i0, if_neg i9]
      have ix := (own_ixp hl0 hp0 pn hl11).2.2
      rw [ix]
      have w := own_w64 v ib (n.toNatClampNeg - 1 - p.toNatClampNeg) (by omega) hv0 hb i0 i9
      have cc : 0 ≤ ib.toInt - 48 ∧ ib.toInt - 48 ≤ 9 := by
        have e48 : (48 : Int32).toInt = 48 := rfl
        have e57 : (57 : Int32).toInt = 57 := rfl
        simp only [Int32.lt_iff_toInt_lt] at i0 i9
        omega
      obtain ⟨g1, g2, g3, g4⟩ := own_digs v.toInt _ (ib.toInt - 48) (n.toNatClampNeg - 1 - p.toNatClampNeg) n.toNatClampNeg hv0 hv (by omega) rfl cc.1 cc.2
      rw [← w] at g1 g2 g3 g4
      generalize ((v - (((v / (own_pw (n.toNatClampNeg - 1 - p.toNatClampNeg))) - ((v / (own_pw (n.toNatClampNeg - 1 - p.toNatClampNeg))) / (10 : Int64)) * (10 : Int64)) * (own_pw (n.toNatClampNeg - 1 - p.toNatClampNeg)))) + (((ib - (48 : Int32)).toInt64) * (own_pw (n.toNatClampNeg - 1 - p.toNatClampNeg)))) = y at *
      obtain ⟨a, h1, h2⟩ := own_scan ff s.toNatClampNeg n.toNatClampNeg y.toInt g1 g2 hN.1 n.toNatClampNeg (Nat.le_refl _) (fun i hi => by
        by_cases q : i = p.toNatClampNeg
        · subst q; exact ⟨ib, digp, by rw [g3]; omega⟩
        · obtain ⟨e, u1, u2⟩ := dig i hi q
          exact ⟨e, u1, by rw [g4 _ (by omega)]; exact u2⟩) n.toNatClampNeg (Nat.le_refl _)
      rw [Nat.sub_self, Nat.pow_zero, show ((1 : Nat) : Int) = 1 from rfl, Int.ediv_one] at h2
      rw [h1, Int64.toInt_inj.mp h2]
  · rw [if_neg hc]
    have hj0 : inj = (0 : Int32) := by rw [hinj, if_neg hc]
    obtain ⟨a, h1, h2⟩ := own_scan ff s.toNatClampNeg n.toNatClampNeg v.toInt hv0 hv hN.1 n.toNatClampNeg (Nat.le_refl _) (fun i hi => by
      refine ⟨_, hat i hi, ?_⟩
      rw [own_cellat s n v inj p ib jk hs0 hs3 hl0 hl11 i hi, if_pos hj0]
      exact (own_D v _ (by omega) hv0).2) n.toNatClampNeg (Nat.le_refl _)
    rw [Nat.sub_self, Nat.pow_zero, show ((1 : Nat) : Int) = 1 from rfl, Int.ediv_one] at h2
    rw [h1, Int64.toInt_inj.mp h2]
theorem own_vb (x : Int64) (n : Nat) (hn : n < 12) : 0 ≤ ((x &&& (9223372036854775807 : Int64)) - ((x &&& (9223372036854775807 : Int64)) / (own_pw n)) * (own_pw n)).toInt ∧ ((x &&& (9223372036854775807 : Int64)) - ((x &&& (9223372036854775807 : Int64)) / (own_pw n)) * (own_pw n)).toInt < (10 ^ n : Nat) := by
  have h := (c_andSL x 9223372036854775807).2.2 (by decide)
  have r := (c_lrem (x &&& (9223372036854775807 : Int64)) (own_pw n) _ (own_pw_i n hn)).1 h
  have hp : 0 < 10 ^ n := Nat.pow_pos (by decide)
  have hp2 := Int.natCast_pos.mpr hp
  rw [r]
  exact ⟨Int.emod_nonneg _ (by omega), Int.emod_lt_of_pos _ hp2⟩

theorem pd_0 : parseMethodDescriptor "(IIIJ[JZIBI)B" = some ⟨[.int, .int, .int, .long, (.array .long), .boolean, .int, .byte, .int], some .byte⟩ := by decide +kernel
theorem pd_1 : parseMethodDescriptor "([BII)J" = some ⟨[(.array .byte), .int, .int], some .long⟩ := by decide +kernel
def Q_rm0 (Z : State) (q1 : Int64) (p2 : Int32) (p3 : Int32) (p4 : Int32) (p5 : Int32) (h0 : Heap) (n0 : Nat) (v : Option Value) (h : Heap) (L : List Loc) : Prop := v = some (.int 1) ∧ Fr n0 L
theorem ef_rm0 (m : MethodId) (x0 : Int64) (x1 : Int32) (x2 : Int32) (x3 : Int32) (x4 : Int32) : entryFrame m #[(.long x0), (.int x1), (.int x2), (.int x3), (.int x4)] maxLocals = mkF m 0 #[.val (.long x0), .second, .val (.int x1), .val (.int x2), .val (.int x3), .val (.int x4), .unset, .unset, .unset, .unset, .unset, .unset, .unset, .unset, .unset, .unset, .unset, .unset, .unset, .unset, .unset, .unset, .unset] [] := by first | (simp [entryFrame, mkF, argsToLocals, Value.category, maxLocals]; done) | rfl
set_option maxRecDepth 65536 in
set_option maxHeartbeats 40000000 in
theorem rm0 (l : Launch) (Z : State) (a0 : Array Value) (hw : ∀ d ∈ tables_1, d.before a0 Z = true) (ws : List Jvm.Cond) (q1 : Int64) (p2 : Int32) (p3 : Int32) (p4 : Int32) (p5 : Int32) (h0 : Heap) (n0 : Nat) (Z0 : n0 ≤ h0.size)  :
    MetFree l x (head1 (Jvm.Cond.code x code maxLocals ret :: ws) room_1) (fun a U => a = #[(.long q1), (.int p2), (.int p3), (.int p4), (.int p5)] ∧ Z.Warmed39 U.vm ∧ U.heap = h0) (fun _ _ _ _ _ => True) (fun _ U o U' => ∃ v L, o = .returned v ∧ Q_rm0 Z q1 p2 p3 p4 p5 h0 n0 v U'.heap L ∧ FrameEnd U o U' L 2 28) := by
  refine MetFree.of_bodySF (plainFor_of_name pn_0) hisR ?_
  intro p e s m args below meth c s₁ Bd hml0 hP hK
  obtain ⟨rfl, hZ, hh⟩ := hP
  have hx := Bd.exec
  have hby := Bd.bytes
  have hml : c.maxLocals = 23 := hml0
  have hown : s.vm.findClass "com/example/comera/comera/sip/SyntaxUnsigned32PinLaw" = some m.cls := findClass_of_methodNamed Bd.named
  have hnm := (name_of_methodNamed Bd.named Bd.method).1
  have X0 : Stand p l e room_1 s m #[(.long q1), (.int p2), (.int p3), (.int p4), (.int p5)] below meth c s₁ [] 0 0 := Stand.of_body Bd
  have e0 : s₁.heap = h0 := by rw [← hh, Bd.state]; rfl
  have N0 := Fr.nil n0
  show Run p e below s 2 28 (Q_rm0 Z q1 p2 p3 p4 p5 h0 n0) (s₁.setTop (entryFrame m #[(.long q1), (.int p2), (.int p3), (.int p4), (.int p5)] maxLocals))
  refine Run.go (fun _ k => castTop (ef_rm0 m q1 p2 p3 p4 p5) k) ?_
  show Run p e below s 2 28 (Q_rm0 Z q1 p2 p3 p4 p5 h0 n0) (s₁.setTop (mkF m 0 #[.val (.long q1), .second, .val (.int p2), .val (.int p3), .val (.int p4), .val (.int p5), .unset, .unset, .unset, .unset, .unset, .unset, .unset, .unset, .unset, .unset, .unset, .unset, .unset, .unset, .unset, .unset, .unset] []))
  refine Run.go (fun _ k => XS.bipush X0.here hx rfl (hb hby at_0) k) ?_
  show Run p e below s 2 28 (Q_rm0 Z q1 p2 p3 p4 p5 h0 n0) (s₁.setTop (mkF m 2 #[.val (.long q1), .second, .val (.int p2), .val (.int p3), .val (.int p4), .val (.int p5), .unset, .unset, .unset, .unset, .unset, .unset, .unset, .unset, .unset, .unset, .unset, .unset, .unset, .unset, .unset, .unset, .unset] [(.int (12 : Int32))]))
  obtain ⟨T6, h6, k6, X6, e6, E6, A6, st6⟩ := newP X0 hx hZ (hw _ (List.mem_of_getElem? (i := 0) rfl)) e0 (g := (mkF m 2 #[.val (.long q1), .second, .val (.int p2), .val (.int p3), .val (.int p4), .val (.int p5), .unset, .unset, .unset, .unset, .unset, .unset, .unset, .unset, .unset, .unset, .unset, .unset, .unset, .unset, .unset, .unset, .unset] [(.int (12 : Int32))])) rfl (hb hby at_2) rfl (by decide) (cap := 12) (by decide) (by decide) (by decide) (by decide)
  obtain ⟨pw, g6⟩ : ∃ z, z = h0.size := ⟨_, rfl⟩
  rw [← g6] at A6 st6
  have g_pw : n0 ≤ pw := Nat.le_trans Z0 (Nat.le_of_eq g6.symm)
  have Z6 : n0 ≤ h6.size := Nat.le_trans Z0 E6.1
  have fx7 : Ary Z h6 pw .long 12 (fun _ => (.long (0 : Int64))) := Ary.new A6 (by decide)
  obtain ⟨ff8, hff8⟩ : ∃ f : Nat → Value, f = (fun _ => (.long (0 : Int64))) := ⟨_, rfl⟩
  rw [← hff8] at fx7
  refine Run.go st6 ?_
  show Run p e below s 2 28 (Q_rm0 Z q1 p2 p3 p4 p5 h0 n0) (T6.setTop (mkF m 4 #[.val (.long q1), .second, .val (.int p2), .val (.int p3), .val (.int p4), .val (.int p5), .unset, .unset, .unset, .unset, .unset, .unset, .unset, .unset, .unset, .unset, .unset, .unset, .unset, .unset, .unset, .unset, .unset] [(.ref pw)]))
  refine Run.go (fun _ k => XS.dup X6.here hx rfl (hb hby at_4) rfl rfl k) ?_
  show Run p e below s 2 28 (Q_rm0 Z q1 p2 p3 p4 p5 h0 n0) (T6.setTop (mkF m 5 #[.val (.long q1), .second, .val (.int p2), .val (.int p3), .val (.int p4), .val (.int p5), .unset, .unset, .unset, .unset, .unset, .unset, .unset, .unset, .unset, .unset, .unset, .unset, .unset, .unset, .unset, .unset, .unset] [(.ref pw), (.ref pw)]))
  refine Run.go (fun _ k => XS.iconst X6.here hx rfl (hb hby at_5) k) ?_
  show Run p e below s 2 28 (Q_rm0 Z q1 p2 p3 p4 p5 h0 n0) (T6.setTop (mkF m 6 #[.val (.long q1), .second, .val (.int p2), .val (.int p3), .val (.int p4), .val (.int p5), .unset, .unset, .unset, .unset, .unset, .unset, .unset, .unset, .unset, .unset, .unset, .unset, .unset, .unset, .unset, .unset, .unset] [(.int (0 : Int32)), (.ref pw), (.ref pw)]))
  refine Run.go (fun _ k => XS.lconst X6.here hx rfl (hb hby at_6) k) ?_
  show Run p e below s 2 28 (Q_rm0 Z q1 p2 p3 p4 p5 h0 n0) (T6.setTop (mkF m 7 #[.val (.long q1), .second, .val (.int p2), .val (.int p3), .val (.int p4), .val (.int p5), .unset, .unset, .unset, .unset, .unset, .unset, .unset, .unset, .unset, .unset, .unset, .unset, .unset, .unset, .unset, .unset, .unset] [(.long (1 : Int64)), (.int (0 : Int32)), (.ref pw), (.ref pw)]))
  obtain ⟨T9, h9, X9, e9, W9, st9⟩ := ary_lset X6 hx hZ e6 fx7 (j := (0 : Int32)) (by decide) (by decide) (g := (mkF m 7 #[.val (.long q1), .second, .val (.int p2), .val (.int p3), .val (.int p4), .val (.int p5), .unset, .unset, .unset, .unset, .unset, .unset, .unset, .unset, .unset, .unset, .unset, .unset, .unset, .unset, .unset, .unset, .unset] [(.long (1 : Int64)), (.int (0 : Int32)), (.ref pw), (.ref pw)])) rfl rfl (hb hby at_7)
  have N9 := Fr.snoc X9 N0 g_pw
  have Z9 : n0 ≤ h9.size := Nat.le_trans Z6 (Keep.of_wr W9).1
  obtain ⟨Lg9, Xg9, Ng9⟩ := Stand_gen X9 N9
  have fx10 : Ary Z h9 pw .long 12 (fun i => if i = 0 then (.long (1 : Int64)) else ff8 i) := fx7.same W9
  obtain ⟨ff11, hff11⟩ : ∃ f : Nat → Value, f = (fun i => if i = 0 then (.long (1 : Int64)) else ff8 i) := ⟨_, rfl⟩
  rw [← hff11] at fx10
  refine Run.go st9 ?_
  show Run p e below s 2 28 (Q_rm0 Z q1 p2 p3 p4 p5 h0 n0) (T9.setTop (mkF m 8 #[.val (.long q1), .second, .val (.int p2), .val (.int p3), .val (.int p4), .val (.int p5), .unset, .unset, .unset, .unset, .unset, .unset, .unset, .unset, .unset, .unset, .unset, .unset, .unset, .unset, .unset, .unset, .unset] [(.ref pw)]))
  refine Run.go (fun _ k => XS.dup Xg9.here hx rfl (hb hby at_8) rfl rfl k) ?_
  show Run p e below s 2 28 (Q_rm0 Z q1 p2 p3 p4 p5 h0 n0) (T9.setTop (mkF m 9 #[.val (.long q1), .second, .val (.int p2), .val (.int p3), .val (.int p4), .val (.int p5), .unset, .unset, .unset, .unset, .unset, .unset, .unset, .unset, .unset, .unset, .unset, .unset, .unset, .unset, .unset, .unset, .unset] [(.ref pw), (.ref pw)]))
  refine Run.go (fun _ k => XS.iconst Xg9.here hx rfl (hb hby at_9) k) ?_
  show Run p e below s 2 28 (Q_rm0 Z q1 p2 p3 p4 p5 h0 n0) (T9.setTop (mkF m 10 #[.val (.long q1), .second, .val (.int p2), .val (.int p3), .val (.int p4), .val (.int p5), .unset, .unset, .unset, .unset, .unset, .unset, .unset, .unset, .unset, .unset, .unset, .unset, .unset, .unset, .unset, .unset, .unset] [(.int (1 : Int32)), (.ref pw), (.ref pw)]))
  refine Run.go (fun _ k => Xg9.ldc2Long hx hown (mvT hZ (hw _ (List.mem_of_getElem? (i := 1) rfl))) (g := (mkF m 10 #[.val (.long q1), .second, .val (.int p2), .val (.int p3), .val (.int p4), .val (.int p5), .unset, .unset, .unset, .unset, .unset, .unset, .unset, .unset, .unset, .unset, .unset, .unset, .unset, .unset, .unset, .unset, .unset] [(.int (1 : Int32)), (.ref pw), (.ref pw)])) rfl (hb hby at_10) _ k) ?_
  show Run p e below s 2 28 (Q_rm0 Z q1 p2 p3 p4 p5 h0 n0) (T9.setTop (mkF m 13 #[.val (.long q1), .second, .val (.int p2), .val (.int p3), .val (.int p4), .val (.int p5), .unset, .unset, .unset, .unset, .unset, .unset, .unset, .unset, .unset, .unset, .unset, .unset, .unset, .unset, .unset, .unset, .unset] [(.long (10 : Int64)), (.int (1 : Int32)), (.ref pw), (.ref pw)]))
  obtain ⟨T12, h12, X12, e12, W12, st12⟩ := ary_lset Xg9 hx hZ e9 fx10 (j := (1 : Int32)) (by decide) (by decide) (g := (mkF m 13 #[.val (.long q1), .second, .val (.int p2), .val (.int p3), .val (.int p4), .val (.int p5), .unset, .unset, .unset, .unset, .unset, .unset, .unset, .unset, .unset, .unset, .unset, .unset, .unset, .unset, .unset, .unset, .unset] [(.long (10 : Int64)), (.int (1 : Int32)), (.ref pw), (.ref pw)])) rfl rfl (hb hby at_13)
  have N12 := Fr.snoc X12 Ng9 g_pw
  have Z12 : n0 ≤ h12.size := Nat.le_trans Z9 (Keep.of_wr W12).1
  obtain ⟨Lg12, Xg12, Ng12⟩ := Stand_gen X12 N12
  have fx13 : Ary Z h12 pw .long 12 (fun i => if i = 1 then (.long (10 : Int64)) else ff11 i) := fx10.same W12
  obtain ⟨ff14, hff14⟩ : ∃ f : Nat → Value, f = (fun i => if i = 1 then (.long (10 : Int64)) else ff11 i) := ⟨_, rfl⟩
  rw [← hff14] at fx13
  refine Run.go st12 ?_
  show Run p e below s 2 28 (Q_rm0 Z q1 p2 p3 p4 p5 h0 n0) (T12.setTop (mkF m 14 #[.val (.long q1), .second, .val (.int p2), .val (.int p3), .val (.int p4), .val (.int p5), .unset, .unset, .unset, .unset, .unset, .unset, .unset, .unset, .unset, .unset, .unset, .unset, .unset, .unset, .unset, .unset, .unset] [(.ref pw)]))
  refine Run.go (fun _ k => XS.dup Xg12.here hx rfl (hb hby at_14) rfl rfl k) ?_
  show Run p e below s 2 28 (Q_rm0 Z q1 p2 p3 p4 p5 h0 n0) (T12.setTop (mkF m 15 #[.val (.long q1), .second, .val (.int p2), .val (.int p3), .val (.int p4), .val (.int p5), .unset, .unset, .unset, .unset, .unset, .unset, .unset, .unset, .unset, .unset, .unset, .unset, .unset, .unset, .unset, .unset, .unset] [(.ref pw), (.ref pw)]))
  refine Run.go (fun _ k => XS.iconst Xg12.here hx rfl (hb hby at_15) k) ?_
  show Run p e below s 2 28 (Q_rm0 Z q1 p2 p3 p4 p5 h0 n0) (T12.setTop (mkF m 16 #[.val (.long q1), .second, .val (.int p2), .val (.int p3), .val (.int p4), .val (.int p5), .unset, .unset, .unset, .unset, .unset, .unset, .unset, .unset, .unset, .unset, .unset, .unset, .unset, .unset, .unset, .unset, .unset] [(.int (2 : Int32)), (.ref pw), (.ref pw)]))
  refine Run.go (fun _ k => Xg12.ldc2Long hx hown (mvT hZ (hw _ (List.mem_of_getElem? (i := 2) rfl))) (g := (mkF m 16 #[.val (.long q1), .second, .val (.int p2), .val (.int p3), .val (.int p4), .val (.int p5), .unset, .unset, .unset, .unset, .unset, .unset, .unset, .unset, .unset, .unset, .unset, .unset, .unset, .unset, .unset, .unset, .unset] [(.int (2 : Int32)), (.ref pw), (.ref pw)])) rfl (hb hby at_16) _ k) ?_
  show Run p e below s 2 28 (Q_rm0 Z q1 p2 p3 p4 p5 h0 n0) (T12.setTop (mkF m 19 #[.val (.long q1), .second, .val (.int p2), .val (.int p3), .val (.int p4), .val (.int p5), .unset, .unset, .unset, .unset, .unset, .unset, .unset, .unset, .unset, .unset, .unset, .unset, .unset, .unset, .unset, .unset, .unset] [(.long (100 : Int64)), (.int (2 : Int32)), (.ref pw), (.ref pw)]))
  obtain ⟨T15, h15, X15, e15, W15, st15⟩ := ary_lset Xg12 hx hZ e12 fx13 (j := (2 : Int32)) (by decide) (by decide) (g := (mkF m 19 #[.val (.long q1), .second, .val (.int p2), .val (.int p3), .val (.int p4), .val (.int p5), .unset, .unset, .unset, .unset, .unset, .unset, .unset, .unset, .unset, .unset, .unset, .unset, .unset, .unset, .unset, .unset, .unset] [(.long (100 : Int64)), (.int (2 : Int32)), (.ref pw), (.ref pw)])) rfl rfl (hb hby at_19)
  have N15 := Fr.snoc X15 Ng12 g_pw
  have Z15 : n0 ≤ h15.size := Nat.le_trans Z12 (Keep.of_wr W15).1
  obtain ⟨Lg15, Xg15, Ng15⟩ := Stand_gen X15 N15
  have fx16 : Ary Z h15 pw .long 12 (fun i => if i = 2 then (.long (100 : Int64)) else ff14 i) := fx13.same W15
  obtain ⟨ff17, hff17⟩ : ∃ f : Nat → Value, f = (fun i => if i = 2 then (.long (100 : Int64)) else ff14 i) := ⟨_, rfl⟩
  rw [← hff17] at fx16
  refine Run.go st15 ?_
  show Run p e below s 2 28 (Q_rm0 Z q1 p2 p3 p4 p5 h0 n0) (T15.setTop (mkF m 20 #[.val (.long q1), .second, .val (.int p2), .val (.int p3), .val (.int p4), .val (.int p5), .unset, .unset, .unset, .unset, .unset, .unset, .unset, .unset, .unset, .unset, .unset, .unset, .unset, .unset, .unset, .unset, .unset] [(.ref pw)]))
  refine Run.go (fun _ k => XS.dup Xg15.here hx rfl (hb hby at_20) rfl rfl k) ?_
  show Run p e below s 2 28 (Q_rm0 Z q1 p2 p3 p4 p5 h0 n0) (T15.setTop (mkF m 21 #[.val (.long q1), .second, .val (.int p2), .val (.int p3), .val (.int p4), .val (.int p5), .unset, .unset, .unset, .unset, .unset, .unset, .unset, .unset, .unset, .unset, .unset, .unset, .unset, .unset, .unset, .unset, .unset] [(.ref pw), (.ref pw)]))
  refine Run.go (fun _ k => XS.iconst Xg15.here hx rfl (hb hby at_21) k) ?_
  show Run p e below s 2 28 (Q_rm0 Z q1 p2 p3 p4 p5 h0 n0) (T15.setTop (mkF m 22 #[.val (.long q1), .second, .val (.int p2), .val (.int p3), .val (.int p4), .val (.int p5), .unset, .unset, .unset, .unset, .unset, .unset, .unset, .unset, .unset, .unset, .unset, .unset, .unset, .unset, .unset, .unset, .unset] [(.int (3 : Int32)), (.ref pw), (.ref pw)]))
  refine Run.go (fun _ k => Xg15.ldc2Long hx hown (mvT hZ (hw _ (List.mem_of_getElem? (i := 3) rfl))) (g := (mkF m 22 #[.val (.long q1), .second, .val (.int p2), .val (.int p3), .val (.int p4), .val (.int p5), .unset, .unset, .unset, .unset, .unset, .unset, .unset, .unset, .unset, .unset, .unset, .unset, .unset, .unset, .unset, .unset, .unset] [(.int (3 : Int32)), (.ref pw), (.ref pw)])) rfl (hb hby at_22) _ k) ?_
  show Run p e below s 2 28 (Q_rm0 Z q1 p2 p3 p4 p5 h0 n0) (T15.setTop (mkF m 25 #[.val (.long q1), .second, .val (.int p2), .val (.int p3), .val (.int p4), .val (.int p5), .unset, .unset, .unset, .unset, .unset, .unset, .unset, .unset, .unset, .unset, .unset, .unset, .unset, .unset, .unset, .unset, .unset] [(.long (1000 : Int64)), (.int (3 : Int32)), (.ref pw), (.ref pw)]))
  obtain ⟨T18, h18, X18, e18, W18, st18⟩ := ary_lset Xg15 hx hZ e15 fx16 (j := (3 : Int32)) (by decide) (by decide) (g := (mkF m 25 #[.val (.long q1), .second, .val (.int p2), .val (.int p3), .val (.int p4), .val (.int p5), .unset, .unset, .unset, .unset, .unset, .unset, .unset, .unset, .unset, .unset, .unset, .unset, .unset, .unset, .unset, .unset, .unset] [(.long (1000 : Int64)), (.int (3 : Int32)), (.ref pw), (.ref pw)])) rfl rfl (hb hby at_25)
  have N18 := Fr.snoc X18 Ng15 g_pw
  have Z18 : n0 ≤ h18.size := Nat.le_trans Z15 (Keep.of_wr W18).1
  obtain ⟨Lg18, Xg18, Ng18⟩ := Stand_gen X18 N18
  have fx19 : Ary Z h18 pw .long 12 (fun i => if i = 3 then (.long (1000 : Int64)) else ff17 i) := fx16.same W18
  obtain ⟨ff20, hff20⟩ : ∃ f : Nat → Value, f = (fun i => if i = 3 then (.long (1000 : Int64)) else ff17 i) := ⟨_, rfl⟩
  rw [← hff20] at fx19
  refine Run.go st18 ?_
  show Run p e below s 2 28 (Q_rm0 Z q1 p2 p3 p4 p5 h0 n0) (T18.setTop (mkF m 26 #[.val (.long q1), .second, .val (.int p2), .val (.int p3), .val (.int p4), .val (.int p5), .unset, .unset, .unset, .unset, .unset, .unset, .unset, .unset, .unset, .unset, .unset, .unset, .unset, .unset, .unset, .unset, .unset] [(.ref pw)]))
  refine Run.go (fun _ k => XS.dup Xg18.here hx rfl (hb hby at_26) rfl rfl k) ?_
  show Run p e below s 2 28 (Q_rm0 Z q1 p2 p3 p4 p5 h0 n0) (T18.setTop (mkF m 27 #[.val (.long q1), .second, .val (.int p2), .val (.int p3), .val (.int p4), .val (.int p5), .unset, .unset, .unset, .unset, .unset, .unset, .unset, .unset, .unset, .unset, .unset, .unset, .unset, .unset, .unset, .unset, .unset] [(.ref pw), (.ref pw)]))
  refine Run.go (fun _ k => XS.iconst Xg18.here hx rfl (hb hby at_27) k) ?_
  show Run p e below s 2 28 (Q_rm0 Z q1 p2 p3 p4 p5 h0 n0) (T18.setTop (mkF m 28 #[.val (.long q1), .second, .val (.int p2), .val (.int p3), .val (.int p4), .val (.int p5), .unset, .unset, .unset, .unset, .unset, .unset, .unset, .unset, .unset, .unset, .unset, .unset, .unset, .unset, .unset, .unset, .unset] [(.int (4 : Int32)), (.ref pw), (.ref pw)]))
  refine Run.go (fun _ k => Xg18.ldc2Long hx hown (mvT hZ (hw _ (List.mem_of_getElem? (i := 4) rfl))) (g := (mkF m 28 #[.val (.long q1), .second, .val (.int p2), .val (.int p3), .val (.int p4), .val (.int p5), .unset, .unset, .unset, .unset, .unset, .unset, .unset, .unset, .unset, .unset, .unset, .unset, .unset, .unset, .unset, .unset, .unset] [(.int (4 : Int32)), (.ref pw), (.ref pw)])) rfl (hb hby at_28) _ k) ?_
  show Run p e below s 2 28 (Q_rm0 Z q1 p2 p3 p4 p5 h0 n0) (T18.setTop (mkF m 31 #[.val (.long q1), .second, .val (.int p2), .val (.int p3), .val (.int p4), .val (.int p5), .unset, .unset, .unset, .unset, .unset, .unset, .unset, .unset, .unset, .unset, .unset, .unset, .unset, .unset, .unset, .unset, .unset] [(.long (10000 : Int64)), (.int (4 : Int32)), (.ref pw), (.ref pw)]))
  obtain ⟨T21, h21, X21, e21, W21, st21⟩ := ary_lset Xg18 hx hZ e18 fx19 (j := (4 : Int32)) (by decide) (by decide) (g := (mkF m 31 #[.val (.long q1), .second, .val (.int p2), .val (.int p3), .val (.int p4), .val (.int p5), .unset, .unset, .unset, .unset, .unset, .unset, .unset, .unset, .unset, .unset, .unset, .unset, .unset, .unset, .unset, .unset, .unset] [(.long (10000 : Int64)), (.int (4 : Int32)), (.ref pw), (.ref pw)])) rfl rfl (hb hby at_31)
  have N21 := Fr.snoc X21 Ng18 g_pw
  have Z21 : n0 ≤ h21.size := Nat.le_trans Z18 (Keep.of_wr W21).1
  obtain ⟨Lg21, Xg21, Ng21⟩ := Stand_gen X21 N21
  have fx22 : Ary Z h21 pw .long 12 (fun i => if i = 4 then (.long (10000 : Int64)) else ff20 i) := fx19.same W21
  obtain ⟨ff23, hff23⟩ : ∃ f : Nat → Value, f = (fun i => if i = 4 then (.long (10000 : Int64)) else ff20 i) := ⟨_, rfl⟩
  rw [← hff23] at fx22
  refine Run.go st21 ?_
  show Run p e below s 2 28 (Q_rm0 Z q1 p2 p3 p4 p5 h0 n0) (T21.setTop (mkF m 32 #[.val (.long q1), .second, .val (.int p2), .val (.int p3), .val (.int p4), .val (.int p5), .unset, .unset, .unset, .unset, .unset, .unset, .unset, .unset, .unset, .unset, .unset, .unset, .unset, .unset, .unset, .unset, .unset] [(.ref pw)]))
  refine Run.go (fun _ k => XS.dup Xg21.here hx rfl (hb hby at_32) rfl rfl k) ?_
  show Run p e below s 2 28 (Q_rm0 Z q1 p2 p3 p4 p5 h0 n0) (T21.setTop (mkF m 33 #[.val (.long q1), .second, .val (.int p2), .val (.int p3), .val (.int p4), .val (.int p5), .unset, .unset, .unset, .unset, .unset, .unset, .unset, .unset, .unset, .unset, .unset, .unset, .unset, .unset, .unset, .unset, .unset] [(.ref pw), (.ref pw)]))
  refine Run.go (fun _ k => XS.iconst Xg21.here hx rfl (hb hby at_33) k) ?_
  show Run p e below s 2 28 (Q_rm0 Z q1 p2 p3 p4 p5 h0 n0) (T21.setTop (mkF m 34 #[.val (.long q1), .second, .val (.int p2), .val (.int p3), .val (.int p4), .val (.int p5), .unset, .unset, .unset, .unset, .unset, .unset, .unset, .unset, .unset, .unset, .unset, .unset, .unset, .unset, .unset, .unset, .unset] [(.int (5 : Int32)), (.ref pw), (.ref pw)]))
  refine Run.go (fun _ k => Xg21.ldc2Long hx hown (mvT hZ (hw _ (List.mem_of_getElem? (i := 5) rfl))) (g := (mkF m 34 #[.val (.long q1), .second, .val (.int p2), .val (.int p3), .val (.int p4), .val (.int p5), .unset, .unset, .unset, .unset, .unset, .unset, .unset, .unset, .unset, .unset, .unset, .unset, .unset, .unset, .unset, .unset, .unset] [(.int (5 : Int32)), (.ref pw), (.ref pw)])) rfl (hb hby at_34) _ k) ?_
  show Run p e below s 2 28 (Q_rm0 Z q1 p2 p3 p4 p5 h0 n0) (T21.setTop (mkF m 37 #[.val (.long q1), .second, .val (.int p2), .val (.int p3), .val (.int p4), .val (.int p5), .unset, .unset, .unset, .unset, .unset, .unset, .unset, .unset, .unset, .unset, .unset, .unset, .unset, .unset, .unset, .unset, .unset] [(.long (100000 : Int64)), (.int (5 : Int32)), (.ref pw), (.ref pw)]))
  obtain ⟨T24, h24, X24, e24, W24, st24⟩ := ary_lset Xg21 hx hZ e21 fx22 (j := (5 : Int32)) (by decide) (by decide) (g := (mkF m 37 #[.val (.long q1), .second, .val (.int p2), .val (.int p3), .val (.int p4), .val (.int p5), .unset, .unset, .unset, .unset, .unset, .unset, .unset, .unset, .unset, .unset, .unset, .unset, .unset, .unset, .unset, .unset, .unset] [(.long (100000 : Int64)), (.int (5 : Int32)), (.ref pw), (.ref pw)])) rfl rfl (hb hby at_37)
  have N24 := Fr.snoc X24 Ng21 g_pw
  have Z24 : n0 ≤ h24.size := Nat.le_trans Z21 (Keep.of_wr W24).1
  obtain ⟨Lg24, Xg24, Ng24⟩ := Stand_gen X24 N24
  have fx25 : Ary Z h24 pw .long 12 (fun i => if i = 5 then (.long (100000 : Int64)) else ff23 i) := fx22.same W24
  obtain ⟨ff26, hff26⟩ : ∃ f : Nat → Value, f = (fun i => if i = 5 then (.long (100000 : Int64)) else ff23 i) := ⟨_, rfl⟩
  rw [← hff26] at fx25
  refine Run.go st24 ?_
  show Run p e below s 2 28 (Q_rm0 Z q1 p2 p3 p4 p5 h0 n0) (T24.setTop (mkF m 38 #[.val (.long q1), .second, .val (.int p2), .val (.int p3), .val (.int p4), .val (.int p5), .unset, .unset, .unset, .unset, .unset, .unset, .unset, .unset, .unset, .unset, .unset, .unset, .unset, .unset, .unset, .unset, .unset] [(.ref pw)]))
  refine Run.go (fun _ k => XS.dup Xg24.here hx rfl (hb hby at_38) rfl rfl k) ?_
  show Run p e below s 2 28 (Q_rm0 Z q1 p2 p3 p4 p5 h0 n0) (T24.setTop (mkF m 39 #[.val (.long q1), .second, .val (.int p2), .val (.int p3), .val (.int p4), .val (.int p5), .unset, .unset, .unset, .unset, .unset, .unset, .unset, .unset, .unset, .unset, .unset, .unset, .unset, .unset, .unset, .unset, .unset] [(.ref pw), (.ref pw)]))
  refine Run.go (fun _ k => XS.bipush Xg24.here hx rfl (hb hby at_39) k) ?_
  show Run p e below s 2 28 (Q_rm0 Z q1 p2 p3 p4 p5 h0 n0) (T24.setTop (mkF m 41 #[.val (.long q1), .second, .val (.int p2), .val (.int p3), .val (.int p4), .val (.int p5), .unset, .unset, .unset, .unset, .unset, .unset, .unset, .unset, .unset, .unset, .unset, .unset, .unset, .unset, .unset, .unset, .unset] [(.int (6 : Int32)), (.ref pw), (.ref pw)]))
  refine Run.go (fun _ k => Xg24.ldc2Long hx hown (mvT hZ (hw _ (List.mem_of_getElem? (i := 6) rfl))) (g := (mkF m 41 #[.val (.long q1), .second, .val (.int p2), .val (.int p3), .val (.int p4), .val (.int p5), .unset, .unset, .unset, .unset, .unset, .unset, .unset, .unset, .unset, .unset, .unset, .unset, .unset, .unset, .unset, .unset, .unset] [(.int (6 : Int32)), (.ref pw), (.ref pw)])) rfl (hb hby at_41) _ k) ?_
  show Run p e below s 2 28 (Q_rm0 Z q1 p2 p3 p4 p5 h0 n0) (T24.setTop (mkF m 44 #[.val (.long q1), .second, .val (.int p2), .val (.int p3), .val (.int p4), .val (.int p5), .unset, .unset, .unset, .unset, .unset, .unset, .unset, .unset, .unset, .unset, .unset, .unset, .unset, .unset, .unset, .unset, .unset] [(.long (1000000 : Int64)), (.int (6 : Int32)), (.ref pw), (.ref pw)]))
  obtain ⟨T27, h27, X27, e27, W27, st27⟩ := ary_lset Xg24 hx hZ e24 fx25 (j := (6 : Int32)) (by decide) (by decide) (g := (mkF m 44 #[.val (.long q1), .second, .val (.int p2), .val (.int p3), .val (.int p4), .val (.int p5), .unset, .unset, .unset, .unset, .unset, .unset, .unset, .unset, .unset, .unset, .unset, .unset, .unset, .unset, .unset, .unset, .unset] [(.long (1000000 : Int64)), (.int (6 : Int32)), (.ref pw), (.ref pw)])) rfl rfl (hb hby at_44)
  have N27 := Fr.snoc X27 Ng24 g_pw
  have Z27 : n0 ≤ h27.size := Nat.le_trans Z24 (Keep.of_wr W27).1
  obtain ⟨Lg27, Xg27, Ng27⟩ := Stand_gen X27 N27
  have fx28 : Ary Z h27 pw .long 12 (fun i => if i = 6 then (.long (1000000 : Int64)) else ff26 i) := fx25.same W27
  obtain ⟨ff29, hff29⟩ : ∃ f : Nat → Value, f = (fun i => if i = 6 then (.long (1000000 : Int64)) else ff26 i) := ⟨_, rfl⟩
  rw [← hff29] at fx28
  refine Run.go st27 ?_
  show Run p e below s 2 28 (Q_rm0 Z q1 p2 p3 p4 p5 h0 n0) (T27.setTop (mkF m 45 #[.val (.long q1), .second, .val (.int p2), .val (.int p3), .val (.int p4), .val (.int p5), .unset, .unset, .unset, .unset, .unset, .unset, .unset, .unset, .unset, .unset, .unset, .unset, .unset, .unset, .unset, .unset, .unset] [(.ref pw)]))
  refine Run.go (fun _ k => XS.dup Xg27.here hx rfl (hb hby at_45) rfl rfl k) ?_
  show Run p e below s 2 28 (Q_rm0 Z q1 p2 p3 p4 p5 h0 n0) (T27.setTop (mkF m 46 #[.val (.long q1), .second, .val (.int p2), .val (.int p3), .val (.int p4), .val (.int p5), .unset, .unset, .unset, .unset, .unset, .unset, .unset, .unset, .unset, .unset, .unset, .unset, .unset, .unset, .unset, .unset, .unset] [(.ref pw), (.ref pw)]))
  refine Run.go (fun _ k => XS.bipush Xg27.here hx rfl (hb hby at_46) k) ?_
  show Run p e below s 2 28 (Q_rm0 Z q1 p2 p3 p4 p5 h0 n0) (T27.setTop (mkF m 48 #[.val (.long q1), .second, .val (.int p2), .val (.int p3), .val (.int p4), .val (.int p5), .unset, .unset, .unset, .unset, .unset, .unset, .unset, .unset, .unset, .unset, .unset, .unset, .unset, .unset, .unset, .unset, .unset] [(.int (7 : Int32)), (.ref pw), (.ref pw)]))
  refine Run.go (fun _ k => Xg27.ldc2Long hx hown (mvT hZ (hw _ (List.mem_of_getElem? (i := 7) rfl))) (g := (mkF m 48 #[.val (.long q1), .second, .val (.int p2), .val (.int p3), .val (.int p4), .val (.int p5), .unset, .unset, .unset, .unset, .unset, .unset, .unset, .unset, .unset, .unset, .unset, .unset, .unset, .unset, .unset, .unset, .unset] [(.int (7 : Int32)), (.ref pw), (.ref pw)])) rfl (hb hby at_48) _ k) ?_
  show Run p e below s 2 28 (Q_rm0 Z q1 p2 p3 p4 p5 h0 n0) (T27.setTop (mkF m 51 #[.val (.long q1), .second, .val (.int p2), .val (.int p3), .val (.int p4), .val (.int p5), .unset, .unset, .unset, .unset, .unset, .unset, .unset, .unset, .unset, .unset, .unset, .unset, .unset, .unset, .unset, .unset, .unset] [(.long (10000000 : Int64)), (.int (7 : Int32)), (.ref pw), (.ref pw)]))
  obtain ⟨T30, h30, X30, e30, W30, st30⟩ := ary_lset Xg27 hx hZ e27 fx28 (j := (7 : Int32)) (by decide) (by decide) (g := (mkF m 51 #[.val (.long q1), .second, .val (.int p2), .val (.int p3), .val (.int p4), .val (.int p5), .unset, .unset, .unset, .unset, .unset, .unset, .unset, .unset, .unset, .unset, .unset, .unset, .unset, .unset, .unset, .unset, .unset] [(.long (10000000 : Int64)), (.int (7 : Int32)), (.ref pw), (.ref pw)])) rfl rfl (hb hby at_51)
  have N30 := Fr.snoc X30 Ng27 g_pw
  have Z30 : n0 ≤ h30.size := Nat.le_trans Z27 (Keep.of_wr W30).1
  obtain ⟨Lg30, Xg30, Ng30⟩ := Stand_gen X30 N30
  have fx31 : Ary Z h30 pw .long 12 (fun i => if i = 7 then (.long (10000000 : Int64)) else ff29 i) := fx28.same W30
  obtain ⟨ff32, hff32⟩ : ∃ f : Nat → Value, f = (fun i => if i = 7 then (.long (10000000 : Int64)) else ff29 i) := ⟨_, rfl⟩
  rw [← hff32] at fx31
  refine Run.go st30 ?_
  show Run p e below s 2 28 (Q_rm0 Z q1 p2 p3 p4 p5 h0 n0) (T30.setTop (mkF m 52 #[.val (.long q1), .second, .val (.int p2), .val (.int p3), .val (.int p4), .val (.int p5), .unset, .unset, .unset, .unset, .unset, .unset, .unset, .unset, .unset, .unset, .unset, .unset, .unset, .unset, .unset, .unset, .unset] [(.ref pw)]))
  refine Run.go (fun _ k => XS.dup Xg30.here hx rfl (hb hby at_52) rfl rfl k) ?_
  show Run p e below s 2 28 (Q_rm0 Z q1 p2 p3 p4 p5 h0 n0) (T30.setTop (mkF m 53 #[.val (.long q1), .second, .val (.int p2), .val (.int p3), .val (.int p4), .val (.int p5), .unset, .unset, .unset, .unset, .unset, .unset, .unset, .unset, .unset, .unset, .unset, .unset, .unset, .unset, .unset, .unset, .unset] [(.ref pw), (.ref pw)]))
  refine Run.go (fun _ k => XS.bipush Xg30.here hx rfl (hb hby at_53) k) ?_
  show Run p e below s 2 28 (Q_rm0 Z q1 p2 p3 p4 p5 h0 n0) (T30.setTop (mkF m 55 #[.val (.long q1), .second, .val (.int p2), .val (.int p3), .val (.int p4), .val (.int p5), .unset, .unset, .unset, .unset, .unset, .unset, .unset, .unset, .unset, .unset, .unset, .unset, .unset, .unset, .unset, .unset, .unset] [(.int (8 : Int32)), (.ref pw), (.ref pw)]))
  refine Run.go (fun _ k => Xg30.ldc2Long hx hown (mvT hZ (hw _ (List.mem_of_getElem? (i := 8) rfl))) (g := (mkF m 55 #[.val (.long q1), .second, .val (.int p2), .val (.int p3), .val (.int p4), .val (.int p5), .unset, .unset, .unset, .unset, .unset, .unset, .unset, .unset, .unset, .unset, .unset, .unset, .unset, .unset, .unset, .unset, .unset] [(.int (8 : Int32)), (.ref pw), (.ref pw)])) rfl (hb hby at_55) _ k) ?_
  show Run p e below s 2 28 (Q_rm0 Z q1 p2 p3 p4 p5 h0 n0) (T30.setTop (mkF m 58 #[.val (.long q1), .second, .val (.int p2), .val (.int p3), .val (.int p4), .val (.int p5), .unset, .unset, .unset, .unset, .unset, .unset, .unset, .unset, .unset, .unset, .unset, .unset, .unset, .unset, .unset, .unset, .unset] [(.long (100000000 : Int64)), (.int (8 : Int32)), (.ref pw), (.ref pw)]))
  obtain ⟨T33, h33, X33, e33, W33, st33⟩ := ary_lset Xg30 hx hZ e30 fx31 (j := (8 : Int32)) (by decide) (by decide) (g := (mkF m 58 #[.val (.long q1), .second, .val (.int p2), .val (.int p3), .val (.int p4), .val (.int p5), .unset, .unset, .unset, .unset, .unset, .unset, .unset, .unset, .unset, .unset, .unset, .unset, .unset, .unset, .unset, .unset, .unset] [(.long (100000000 : Int64)), (.int (8 : Int32)), (.ref pw), (.ref pw)])) rfl rfl (hb hby at_58)
  have N33 := Fr.snoc X33 Ng30 g_pw
  have Z33 : n0 ≤ h33.size := Nat.le_trans Z30 (Keep.of_wr W33).1
  obtain ⟨Lg33, Xg33, Ng33⟩ := Stand_gen X33 N33
  have fx34 : Ary Z h33 pw .long 12 (fun i => if i = 8 then (.long (100000000 : Int64)) else ff32 i) := fx31.same W33
  obtain ⟨ff35, hff35⟩ : ∃ f : Nat → Value, f = (fun i => if i = 8 then (.long (100000000 : Int64)) else ff32 i) := ⟨_, rfl⟩
  rw [← hff35] at fx34
  refine Run.go st33 ?_
  show Run p e below s 2 28 (Q_rm0 Z q1 p2 p3 p4 p5 h0 n0) (T33.setTop (mkF m 59 #[.val (.long q1), .second, .val (.int p2), .val (.int p3), .val (.int p4), .val (.int p5), .unset, .unset, .unset, .unset, .unset, .unset, .unset, .unset, .unset, .unset, .unset, .unset, .unset, .unset, .unset, .unset, .unset] [(.ref pw)]))
  refine Run.go (fun _ k => XS.dup Xg33.here hx rfl (hb hby at_59) rfl rfl k) ?_
  show Run p e below s 2 28 (Q_rm0 Z q1 p2 p3 p4 p5 h0 n0) (T33.setTop (mkF m 60 #[.val (.long q1), .second, .val (.int p2), .val (.int p3), .val (.int p4), .val (.int p5), .unset, .unset, .unset, .unset, .unset, .unset, .unset, .unset, .unset, .unset, .unset, .unset, .unset, .unset, .unset, .unset, .unset] [(.ref pw), (.ref pw)]))
  refine Run.go (fun _ k => XS.bipush Xg33.here hx rfl (hb hby at_60) k) ?_
  show Run p e below s 2 28 (Q_rm0 Z q1 p2 p3 p4 p5 h0 n0) (T33.setTop (mkF m 62 #[.val (.long q1), .second, .val (.int p2), .val (.int p3), .val (.int p4), .val (.int p5), .unset, .unset, .unset, .unset, .unset, .unset, .unset, .unset, .unset, .unset, .unset, .unset, .unset, .unset, .unset, .unset, .unset] [(.int (9 : Int32)), (.ref pw), (.ref pw)]))
  refine Run.go (fun _ k => Xg33.ldc2Long hx hown (mvT hZ (hw _ (List.mem_of_getElem? (i := 9) rfl))) (g := (mkF m 62 #[.val (.long q1), .second, .val (.int p2), .val (.int p3), .val (.int p4), .val (.int p5), .unset, .unset, .unset, .unset, .unset, .unset, .unset, .unset, .unset, .unset, .unset, .unset, .unset, .unset, .unset, .unset, .unset] [(.int (9 : Int32)), (.ref pw), (.ref pw)])) rfl (hb hby at_62) _ k) ?_
  show Run p e below s 2 28 (Q_rm0 Z q1 p2 p3 p4 p5 h0 n0) (T33.setTop (mkF m 65 #[.val (.long q1), .second, .val (.int p2), .val (.int p3), .val (.int p4), .val (.int p5), .unset, .unset, .unset, .unset, .unset, .unset, .unset, .unset, .unset, .unset, .unset, .unset, .unset, .unset, .unset, .unset, .unset] [(.long (1000000000 : Int64)), (.int (9 : Int32)), (.ref pw), (.ref pw)]))
  obtain ⟨T36, h36, X36, e36, W36, st36⟩ := ary_lset Xg33 hx hZ e33 fx34 (j := (9 : Int32)) (by decide) (by decide) (g := (mkF m 65 #[.val (.long q1), .second, .val (.int p2), .val (.int p3), .val (.int p4), .val (.int p5), .unset, .unset, .unset, .unset, .unset, .unset, .unset, .unset, .unset, .unset, .unset, .unset, .unset, .unset, .unset, .unset, .unset] [(.long (1000000000 : Int64)), (.int (9 : Int32)), (.ref pw), (.ref pw)])) rfl rfl (hb hby at_65)
  have N36 := Fr.snoc X36 Ng33 g_pw
  have Z36 : n0 ≤ h36.size := Nat.le_trans Z33 (Keep.of_wr W36).1
  obtain ⟨Lg36, Xg36, Ng36⟩ := Stand_gen X36 N36
  have fx37 : Ary Z h36 pw .long 12 (fun i => if i = 9 then (.long (1000000000 : Int64)) else ff35 i) := fx34.same W36
  obtain ⟨ff38, hff38⟩ : ∃ f : Nat → Value, f = (fun i => if i = 9 then (.long (1000000000 : Int64)) else ff35 i) := ⟨_, rfl⟩
  rw [← hff38] at fx37
  refine Run.go st36 ?_
  show Run p e below s 2 28 (Q_rm0 Z q1 p2 p3 p4 p5 h0 n0) (T36.setTop (mkF m 66 #[.val (.long q1), .second, .val (.int p2), .val (.int p3), .val (.int p4), .val (.int p5), .unset, .unset, .unset, .unset, .unset, .unset, .unset, .unset, .unset, .unset, .unset, .unset, .unset, .unset, .unset, .unset, .unset] [(.ref pw)]))
  refine Run.go (fun _ k => XS.dup Xg36.here hx rfl (hb hby at_66) rfl rfl k) ?_
  show Run p e below s 2 28 (Q_rm0 Z q1 p2 p3 p4 p5 h0 n0) (T36.setTop (mkF m 67 #[.val (.long q1), .second, .val (.int p2), .val (.int p3), .val (.int p4), .val (.int p5), .unset, .unset, .unset, .unset, .unset, .unset, .unset, .unset, .unset, .unset, .unset, .unset, .unset, .unset, .unset, .unset, .unset] [(.ref pw), (.ref pw)]))
  refine Run.go (fun _ k => XS.bipush Xg36.here hx rfl (hb hby at_67) k) ?_
  show Run p e below s 2 28 (Q_rm0 Z q1 p2 p3 p4 p5 h0 n0) (T36.setTop (mkF m 69 #[.val (.long q1), .second, .val (.int p2), .val (.int p3), .val (.int p4), .val (.int p5), .unset, .unset, .unset, .unset, .unset, .unset, .unset, .unset, .unset, .unset, .unset, .unset, .unset, .unset, .unset, .unset, .unset] [(.int (10 : Int32)), (.ref pw), (.ref pw)]))
  refine Run.go (fun _ k => Xg36.ldc2Long hx hown (mvT hZ (hw _ (List.mem_of_getElem? (i := 10) rfl))) (g := (mkF m 69 #[.val (.long q1), .second, .val (.int p2), .val (.int p3), .val (.int p4), .val (.int p5), .unset, .unset, .unset, .unset, .unset, .unset, .unset, .unset, .unset, .unset, .unset, .unset, .unset, .unset, .unset, .unset, .unset] [(.int (10 : Int32)), (.ref pw), (.ref pw)])) rfl (hb hby at_69) _ k) ?_
  show Run p e below s 2 28 (Q_rm0 Z q1 p2 p3 p4 p5 h0 n0) (T36.setTop (mkF m 72 #[.val (.long q1), .second, .val (.int p2), .val (.int p3), .val (.int p4), .val (.int p5), .unset, .unset, .unset, .unset, .unset, .unset, .unset, .unset, .unset, .unset, .unset, .unset, .unset, .unset, .unset, .unset, .unset] [(.long (10000000000 : Int64)), (.int (10 : Int32)), (.ref pw), (.ref pw)]))
  obtain ⟨T39, h39, X39, e39, W39, st39⟩ := ary_lset Xg36 hx hZ e36 fx37 (j := (10 : Int32)) (by decide) (by decide) (g := (mkF m 72 #[.val (.long q1), .second, .val (.int p2), .val (.int p3), .val (.int p4), .val (.int p5), .unset, .unset, .unset, .unset, .unset, .unset, .unset, .unset, .unset, .unset, .unset, .unset, .unset, .unset, .unset, .unset, .unset] [(.long (10000000000 : Int64)), (.int (10 : Int32)), (.ref pw), (.ref pw)])) rfl rfl (hb hby at_72)
  have N39 := Fr.snoc X39 Ng36 g_pw
  have Z39 : n0 ≤ h39.size := Nat.le_trans Z36 (Keep.of_wr W39).1
  obtain ⟨Lg39, Xg39, Ng39⟩ := Stand_gen X39 N39
  have fx40 : Ary Z h39 pw .long 12 (fun i => if i = 10 then (.long (10000000000 : Int64)) else ff38 i) := fx37.same W39
  obtain ⟨ff41, hff41⟩ : ∃ f : Nat → Value, f = (fun i => if i = 10 then (.long (10000000000 : Int64)) else ff38 i) := ⟨_, rfl⟩
  rw [← hff41] at fx40
  refine Run.go st39 ?_
  show Run p e below s 2 28 (Q_rm0 Z q1 p2 p3 p4 p5 h0 n0) (T39.setTop (mkF m 73 #[.val (.long q1), .second, .val (.int p2), .val (.int p3), .val (.int p4), .val (.int p5), .unset, .unset, .unset, .unset, .unset, .unset, .unset, .unset, .unset, .unset, .unset, .unset, .unset, .unset, .unset, .unset, .unset] [(.ref pw)]))
  refine Run.go (fun _ k => XS.dup Xg39.here hx rfl (hb hby at_73) rfl rfl k) ?_
  show Run p e below s 2 28 (Q_rm0 Z q1 p2 p3 p4 p5 h0 n0) (T39.setTop (mkF m 74 #[.val (.long q1), .second, .val (.int p2), .val (.int p3), .val (.int p4), .val (.int p5), .unset, .unset, .unset, .unset, .unset, .unset, .unset, .unset, .unset, .unset, .unset, .unset, .unset, .unset, .unset, .unset, .unset] [(.ref pw), (.ref pw)]))
  refine Run.go (fun _ k => XS.bipush Xg39.here hx rfl (hb hby at_74) k) ?_
  show Run p e below s 2 28 (Q_rm0 Z q1 p2 p3 p4 p5 h0 n0) (T39.setTop (mkF m 76 #[.val (.long q1), .second, .val (.int p2), .val (.int p3), .val (.int p4), .val (.int p5), .unset, .unset, .unset, .unset, .unset, .unset, .unset, .unset, .unset, .unset, .unset, .unset, .unset, .unset, .unset, .unset, .unset] [(.int (11 : Int32)), (.ref pw), (.ref pw)]))
  refine Run.go (fun _ k => Xg39.ldc2Long hx hown (mvT hZ (hw _ (List.mem_of_getElem? (i := 11) rfl))) (g := (mkF m 76 #[.val (.long q1), .second, .val (.int p2), .val (.int p3), .val (.int p4), .val (.int p5), .unset, .unset, .unset, .unset, .unset, .unset, .unset, .unset, .unset, .unset, .unset, .unset, .unset, .unset, .unset, .unset, .unset] [(.int (11 : Int32)), (.ref pw), (.ref pw)])) rfl (hb hby at_76) _ k) ?_
  show Run p e below s 2 28 (Q_rm0 Z q1 p2 p3 p4 p5 h0 n0) (T39.setTop (mkF m 79 #[.val (.long q1), .second, .val (.int p2), .val (.int p3), .val (.int p4), .val (.int p5), .unset, .unset, .unset, .unset, .unset, .unset, .unset, .unset, .unset, .unset, .unset, .unset, .unset, .unset, .unset, .unset, .unset] [(.long (100000000000 : Int64)), (.int (11 : Int32)), (.ref pw), (.ref pw)]))
  obtain ⟨T42, h42, X42, e42, W42, st42⟩ := ary_lset Xg39 hx hZ e39 fx40 (j := (11 : Int32)) (by decide) (by decide) (g := (mkF m 79 #[.val (.long q1), .second, .val (.int p2), .val (.int p3), .val (.int p4), .val (.int p5), .unset, .unset, .unset, .unset, .unset, .unset, .unset, .unset, .unset, .unset, .unset, .unset, .unset, .unset, .unset, .unset, .unset] [(.long (100000000000 : Int64)), (.int (11 : Int32)), (.ref pw), (.ref pw)])) rfl rfl (hb hby at_79)
  have N42 := Fr.snoc X42 Ng39 g_pw
  have Z42 : n0 ≤ h42.size := Nat.le_trans Z39 (Keep.of_wr W42).1
  obtain ⟨Lg42, Xg42, Ng42⟩ := Stand_gen X42 N42
  have fx43 : Ary Z h42 pw .long 12 (fun i => if i = 11 then (.long (100000000000 : Int64)) else ff41 i) := fx40.same W42
  obtain ⟨ff44, hff44⟩ : ∃ f : Nat → Value, f = (fun i => if i = 11 then (.long (100000000000 : Int64)) else ff41 i) := ⟨_, rfl⟩
  rw [← hff44] at fx43
  refine Run.go st42 ?_
  show Run p e below s 2 28 (Q_rm0 Z q1 p2 p3 p4 p5 h0 n0) (T42.setTop (mkF m 80 #[.val (.long q1), .second, .val (.int p2), .val (.int p3), .val (.int p4), .val (.int p5), .unset, .unset, .unset, .unset, .unset, .unset, .unset, .unset, .unset, .unset, .unset, .unset, .unset, .unset, .unset, .unset, .unset] [(.ref pw)]))
  refine Run.go (fun _ k => XS.astore Xg42.here hx rfl (hb hby at_80) rfl rfl (l' := #[.val (.long q1), .second, .val (.int p2), .val (.int p3), .val (.int p4), .val (.int p5), .val (.ref pw), .unset, .unset, .unset, .unset, .unset, .unset, .unset, .unset, .unset, .unset, .unset, .unset, .unset, .unset, .unset, .unset]) rfl k) ?_
  show Run p e below s 2 28 (Q_rm0 Z q1 p2 p3 p4 p5 h0 n0) (T42.setTop (mkF m 82 #[.val (.long q1), .second, .val (.int p2), .val (.int p3), .val (.int p4), .val (.int p5), .val (.ref pw), .unset, .unset, .unset, .unset, .unset, .unset, .unset, .unset, .unset, .unset, .unset, .unset, .unset, .unset, .unset, .unset] []))
  have hpw : ∀ i, i < 12 → ff44 i = Value.long (own_pw i) := fun i hi => match i, hi with
    | 0, _ => (upd_miss hff44 (by decide) (upd_miss hff41 (by decide) (upd_miss hff38 (by decide) (upd_miss hff35 (by decide) (upd_miss hff32 (by decide) (upd_miss hff29 (by decide) (upd_miss hff26 (by decide) (upd_miss hff23 (by decide) (upd_miss hff20 (by decide) (upd_miss hff17 (by decide) (upd_miss hff14 (by decide) (upd_hit hff11)))))))))))).trans (congrArg Value.long (by decide))
    | 1, _ => (upd_miss hff44 (by decide) (upd_miss hff41 (by decide) (upd_miss hff38 (by decide) (upd_miss hff35 (by decide) (upd_miss hff32 (by decide) (upd_miss hff29 (by decide) (upd_miss hff26 (by decide) (upd_miss hff23 (by decide) (upd_miss hff20 (by decide) (upd_miss hff17 (by decide) (upd_hit hff14))))))))))).trans (congrArg Value.long (by decide))
    | 2, _ => (upd_miss hff44 (by decide) (upd_miss hff41 (by decide) (upd_miss hff38 (by decide) (upd_miss hff35 (by decide) (upd_miss hff32 (by decide) (upd_miss hff29 (by decide) (upd_miss hff26 (by decide) (upd_miss hff23 (by decide) (upd_miss hff20 (by decide) (upd_hit hff17)))))))))).trans (congrArg Value.long (by decide))
    | 3, _ => (upd_miss hff44 (by decide) (upd_miss hff41 (by decide) (upd_miss hff38 (by decide) (upd_miss hff35 (by decide) (upd_miss hff32 (by decide) (upd_miss hff29 (by decide) (upd_miss hff26 (by decide) (upd_miss hff23 (by decide) (upd_hit hff20))))))))).trans (congrArg Value.long (by decide))
    | 4, _ => (upd_miss hff44 (by decide) (upd_miss hff41 (by decide) (upd_miss hff38 (by decide) (upd_miss hff35 (by decide) (upd_miss hff32 (by decide) (upd_miss hff29 (by decide) (upd_miss hff26 (by decide) (upd_hit hff23)))))))).trans (congrArg Value.long (by decide))
    | 5, _ => (upd_miss hff44 (by decide) (upd_miss hff41 (by decide) (upd_miss hff38 (by decide) (upd_miss hff35 (by decide) (upd_miss hff32 (by decide) (upd_miss hff29 (by decide) (upd_hit hff26))))))).trans (congrArg Value.long (by decide))
    | 6, _ => (upd_miss hff44 (by decide) (upd_miss hff41 (by decide) (upd_miss hff38 (by decide) (upd_miss hff35 (by decide) (upd_miss hff32 (by decide) (upd_hit hff29)))))).trans (congrArg Value.long (by decide))
    | 7, _ => (upd_miss hff44 (by decide) (upd_miss hff41 (by decide) (upd_miss hff38 (by decide) (upd_miss hff35 (by decide) (upd_hit hff32))))).trans (congrArg Value.long (by decide))
    | 8, _ => (upd_miss hff44 (by decide) (upd_miss hff41 (by decide) (upd_miss hff38 (by decide) (upd_hit hff35)))).trans (congrArg Value.long (by decide))
    | 9, _ => (upd_miss hff44 (by decide) (upd_miss hff41 (by decide) (upd_hit hff38))).trans (congrArg Value.long (by decide))
    | 10, _ => (upd_miss hff44 (by decide) (upd_hit hff41)).trans (congrArg Value.long (by decide))
    | 11, _ => (upd_hit hff44).trans (congrArg Value.long (by decide))
  refine Run.go (fun _ k => XS.iloadN Xg42.here hx rfl (hb hby at_82) rfl  k) ?_
  show Run p e below s 2 28 (Q_rm0 Z q1 p2 p3 p4 p5 h0 n0) (T42.setTop (mkF m 83 #[.val (.long q1), .second, .val (.int p2), .val (.int p3), .val (.int p4), .val (.int p5), .val (.ref pw), .unset, .unset, .unset, .unset, .unset, .unset, .unset, .unset, .unset, .unset, .unset, .unset, .unset, .unset, .unset, .unset] [(.int p2)]))
  refine Run.go (fun _ k => XS.iconst Xg42.here hx rfl (hb hby at_83) k) ?_
  show Run p e below s 2 28 (Q_rm0 Z q1 p2 p3 p4 p5 h0 n0) (T42.setTop (mkF m 84 #[.val (.long q1), .second, .val (.int p2), .val (.int p3), .val (.int p4), .val (.int p5), .val (.ref pw), .unset, .unset, .unset, .unset, .unset, .unset, .unset, .unset, .unset, .unset, .unset, .unset, .unset, .unset, .unset, .unset] [(.int (3 : Int32)), (.int p2)]))
  refine Run.go (fun _ k => XS.iand Xg42.here hx rfl (hb hby at_84) rfl k) ?_
  show Run p e below s 2 28 (Q_rm0 Z q1 p2 p3 p4 p5 h0 n0) (T42.setTop (mkF m 85 #[.val (.long q1), .second, .val (.int p2), .val (.int p3), .val (.int p4), .val (.int p5), .val (.ref pw), .unset, .unset, .unset, .unset, .unset, .unset, .unset, .unset, .unset, .unset, .unset, .unset, .unset, .unset, .unset, .unset] [(.int (p2 &&& (3 : Int32)))]))
  refine Run.go (fun _ k => XS.istore Xg42.here hx rfl (hb hby at_85) rfl (l' := #[.val (.long q1), .second, .val (.int p2), .val (.int p3), .val (.int p4), .val (.int p5), .val (.ref pw), .val (.int (p2 &&& (3 : Int32))), .unset, .unset, .unset, .unset, .unset, .unset, .unset, .unset, .unset, .unset, .unset, .unset, .unset, .unset, .unset]) rfl k) ?_
  show Run p e below s 2 28 (Q_rm0 Z q1 p2 p3 p4 p5 h0 n0) (T42.setTop (mkF m 87 #[.val (.long q1), .second, .val (.int p2), .val (.int p3), .val (.int p4), .val (.int p5), .val (.ref pw), .val (.int (p2 &&& (3 : Int32))), .unset, .unset, .unset, .unset, .unset, .unset, .unset, .unset, .unset, .unset, .unset, .unset, .unset, .unset, .unset] []))
  obtain ⟨z45, hz45⟩ : ∃ z, z = (p2 &&& (3 : Int32)) := ⟨_, rfl⟩
  rw [← hz45]
  show Run p e below s 2 28 (Q_rm0 Z q1 p2 p3 p4 p5 h0 n0) (T42.setTop (mkF m 87 #[.val (.long q1), .second, .val (.int p2), .val (.int p3), .val (.int p4), .val (.int p5), .val (.ref pw), .val (.int z45), .unset, .unset, .unset, .unset, .unset, .unset, .unset, .unset, .unset, .unset, .unset, .unset, .unset, .unset, .unset] []))
  refine Run.go (fun _ k => XS.iloadN Xg42.here hx rfl (hb hby at_87) rfl  k) ?_
  show Run p e below s 2 28 (Q_rm0 Z q1 p2 p3 p4 p5 h0 n0) (T42.setTop (mkF m 88 #[.val (.long q1), .second, .val (.int p2), .val (.int p3), .val (.int p4), .val (.int p5), .val (.ref pw), .val (.int z45), .unset, .unset, .unset, .unset, .unset, .unset, .unset, .unset, .unset, .unset, .unset, .unset, .unset, .unset, .unset] [(.int p2)]))
  refine Run.go (fun _ k => XS.iconst Xg42.here hx rfl (hb hby at_88) k) ?_
  show Run p e below s 2 28 (Q_rm0 Z q1 p2 p3 p4 p5 h0 n0) (T42.setTop (mkF m 89 #[.val (.long q1), .second, .val (.int p2), .val (.int p3), .val (.int p4), .val (.int p5), .val (.ref pw), .val (.int z45), .unset, .unset, .unset, .unset, .unset, .unset, .unset, .unset, .unset, .unset, .unset, .unset, .unset, .unset, .unset] [(.int (2 : Int32)), (.int p2)]))
  refine Run.go (fun _ k => XS.iushr Xg42.here hx rfl (hb hby at_89) rfl k) ?_
  show Run p e below s 2 28 (Q_rm0 Z q1 p2 p3 p4 p5 h0 n0) (T42.setTop (mkF m 90 #[.val (.long q1), .second, .val (.int p2), .val (.int p3), .val (.int p4), .val (.int p5), .val (.ref pw), .val (.int z45), .unset, .unset, .unset, .unset, .unset, .unset, .unset, .unset, .unset, .unset, .unset, .unset, .unset, .unset, .unset] [(.int ((p2.toUInt32 >>> ((2 : Int32) &&& 31).toUInt32).toInt32))]))
  refine Run.go (fun _ k => XS.bipush Xg42.here hx rfl (hb hby at_90) k) ?_
  show Run p e below s 2 28 (Q_rm0 Z q1 p2 p3 p4 p5 h0 n0) (T42.setTop (mkF m 92 #[.val (.long q1), .second, .val (.int p2), .val (.int p3), .val (.int p4), .val (.int p5), .val (.ref pw), .val (.int z45), .unset, .unset, .unset, .unset, .unset, .unset, .unset, .unset, .unset, .unset, .unset, .unset, .unset, .unset, .unset] [(.int (12 : Int32)), (.int ((p2.toUInt32 >>> ((2 : Int32) &&& 31).toUInt32).toInt32))]))
  refine Run.go (fun _ k => iremM Xg42 hx rfl (hb hby at_92) rfl (by decide) k) ?_
  show Run p e below s 2 28 (Q_rm0 Z q1 p2 p3 p4 p5 h0 n0) (T42.setTop (mkF m 93 #[.val (.long q1), .second, .val (.int p2), .val (.int p3), .val (.int p4), .val (.int p5), .val (.ref pw), .val (.int z45), .unset, .unset, .unset, .unset, .unset, .unset, .unset, .unset, .unset, .unset, .unset, .unset, .unset, .unset, .unset] [(.int (((p2.toUInt32 >>> ((2 : Int32) &&& 31).toUInt32).toInt32) % (12 : Int32)))]))
  refine Run.go (fun _ k => XS.istore Xg42.here hx rfl (hb hby at_93) rfl (l' := #[.val (.long q1), .second, .val (.int p2), .val (.int p3), .val (.int p4), .val (.int p5), .val (.ref pw), .val (.int z45), .val (.int (((p2.toUInt32 >>> ((2 : Int32) &&& 31).toUInt32).toInt32) % (12 : Int32))), .unset, .unset, .unset, .unset, .unset, .unset, .unset, .unset, .unset, .unset, .unset, .unset, .unset, .unset]) rfl k) ?_
  show Run p e below s 2 28 (Q_rm0 Z q1 p2 p3 p4 p5 h0 n0) (T42.setTop (mkF m 95 #[.val (.long q1), .second, .val (.int p2), .val (.int p3), .val (.int p4), .val (.int p5), .val (.ref pw), .val (.int z45), .val (.int (((p2.toUInt32 >>> ((2 : Int32) &&& 31).toUInt32).toInt32) % (12 : Int32))), .unset, .unset, .unset, .unset, .unset, .unset, .unset, .unset, .unset, .unset, .unset, .unset, .unset, .unset] []))
  obtain ⟨z46, hz46⟩ : ∃ z, z = (((p2.toUInt32 >>> ((2 : Int32) &&& 31).toUInt32).toInt32) % (12 : Int32)) := ⟨_, rfl⟩
  rw [← hz46]
  show Run p e below s 2 28 (Q_rm0 Z q1 p2 p3 p4 p5 h0 n0) (T42.setTop (mkF m 95 #[.val (.long q1), .second, .val (.int p2), .val (.int p3), .val (.int p4), .val (.int p5), .val (.ref pw), .val (.int z45), .val (.int z46), .unset, .unset, .unset, .unset, .unset, .unset, .unset, .unset, .unset, .unset, .unset, .unset, .unset, .unset] []))
  refine Run.go (fun _ k => XS.lloadN Xg42.here hx rfl (hb hby at_95) rfl  k) ?_
  show Run p e below s 2 28 (Q_rm0 Z q1 p2 p3 p4 p5 h0 n0) (T42.setTop (mkF m 96 #[.val (.long q1), .second, .val (.int p2), .val (.int p3), .val (.int p4), .val (.int p5), .val (.ref pw), .val (.int z45), .val (.int z46), .unset, .unset, .unset, .unset, .unset, .unset, .unset, .unset, .unset, .unset, .unset, .unset, .unset, .unset] [(.long q1)]))
  refine Run.go (fun _ k => Xg42.ldc2Long hx hown (mvT hZ (hw _ (List.mem_of_getElem? (i := 12) rfl))) (g := (mkF m 96 #[.val (.long q1), .second, .val (.int p2), .val (.int p3), .val (.int p4), .val (.int p5), .val (.ref pw), .val (.int z45), .val (.int z46), .unset, .unset, .unset, .unset, .unset, .unset, .unset, .unset, .unset, .unset, .unset, .unset, .unset, .unset] [(.long q1)])) rfl (hb hby at_96) _ k) ?_
  show Run p e below s 2 28 (Q_rm0 Z q1 p2 p3 p4 p5 h0 n0) (T42.setTop (mkF m 99 #[.val (.long q1), .second, .val (.int p2), .val (.int p3), .val (.int p4), .val (.int p5), .val (.ref pw), .val (.int z45), .val (.int z46), .unset, .unset, .unset, .unset, .unset, .unset, .unset, .unset, .unset, .unset, .unset, .unset, .unset, .unset] [(.long (9223372036854775807 : Int64)), (.long q1)]))
  refine Run.go (fun _ k => XS.land Xg42.here hx rfl (hb hby at_99) rfl k) ?_
  show Run p e below s 2 28 (Q_rm0 Z q1 p2 p3 p4 p5 h0 n0) (T42.setTop (mkF m 100 #[.val (.long q1), .second, .val (.int p2), .val (.int p3), .val (.int p4), .val (.int p5), .val (.ref pw), .val (.int z45), .val (.int z46), .unset, .unset, .unset, .unset, .unset, .unset, .unset, .unset, .unset, .unset, .unset, .unset, .unset, .unset] [(.long (q1 &&& (9223372036854775807 : Int64)))]))
  refine Run.go (fun _ k => XS.aload Xg42.here hx rfl (hb hby at_100) rfl rfl k) ?_
  show Run p e below s 2 28 (Q_rm0 Z q1 p2 p3 p4 p5 h0 n0) (T42.setTop (mkF m 102 #[.val (.long q1), .second, .val (.int p2), .val (.int p3), .val (.int p4), .val (.int p5), .val (.ref pw), .val (.int z45), .val (.int z46), .unset, .unset, .unset, .unset, .unset, .unset, .unset, .unset, .unset, .unset, .unset, .unset, .unset, .unset] [(.ref pw), (.long (q1 &&& (9223372036854775807 : Int64)))]))
  refine Run.go (fun _ k => XS.iload Xg42.here hx rfl (hb hby at_102) rfl  k) ?_
  show Run p e below s 2 28 (Q_rm0 Z q1 p2 p3 p4 p5 h0 n0) (T42.setTop (mkF m 104 #[.val (.long q1), .second, .val (.int p2), .val (.int p3), .val (.int p4), .val (.int p5), .val (.ref pw), .val (.int z45), .val (.int z46), .unset, .unset, .unset, .unset, .unset, .unset, .unset, .unset, .unset, .unset, .unset, .unset, .unset, .unset] [(.int z46), (.ref pw), (.long (q1 &&& (9223372036854775807 : Int64)))]))
  refine Run.go (fun _ k => ary_lget Xg42 hx hZ e42 fx43 (j := z46) (by rw [hz46]; exact (own_ln p2).1) (by rw [hz46]; exact (own_ln p2).2.2) (g := (mkF m 104 #[.val (.long q1), .second, .val (.int p2), .val (.int p3), .val (.int p4), .val (.int p5), .val (.ref pw), .val (.int z45), .val (.int z46), .unset, .unset, .unset, .unset, .unset, .unset, .unset, .unset, .unset, .unset, .unset, .unset, .unset, .unset] [(.int z46), (.ref pw), (.long (q1 &&& (9223372036854775807 : Int64)))])) rfl rfl (hb hby at_104) (hpw _ (by rw [hz46]; exact (own_ln p2).2.2)) _ k) ?_
  show Run p e below s 2 28 (Q_rm0 Z q1 p2 p3 p4 p5 h0 n0) (T42.setTop (mkF m 105 #[.val (.long q1), .second, .val (.int p2), .val (.int p3), .val (.int p4), .val (.int p5), .val (.ref pw), .val (.int z45), .val (.int z46), .unset, .unset, .unset, .unset, .unset, .unset, .unset, .unset, .unset, .unset, .unset, .unset, .unset, .unset] [(.long (own_pw z46.toNatClampNeg)), (.long (q1 &&& (9223372036854775807 : Int64)))]))
  refine Run.go (fun _ k => XS.lrem Xg42.here hx rfl (hb hby at_105) rfl (own_pw_nz _ (by rw [hz46]; exact (own_ln p2).2.2)) k) ?_
  show Run p e below s 2 28 (Q_rm0 Z q1 p2 p3 p4 p5 h0 n0) (T42.setTop (mkF m 106 #[.val (.long q1), .second, .val (.int p2), .val (.int p3), .val (.int p4), .val (.int p5), .val (.ref pw), .val (.int z45), .val (.int z46), .unset, .unset, .unset, .unset, .unset, .unset, .unset, .unset, .unset, .unset, .unset, .unset, .unset, .unset] [(.long ((q1 &&& (9223372036854775807 : Int64)) - ((q1 &&& (9223372036854775807 : Int64)) / (own_pw z46.toNatClampNeg)) * (own_pw z46.toNatClampNeg)))]))
  refine Run.go (fun _ k => XS.lstore Xg42.here hx rfl (hb hby at_106) rfl (l' := #[.val (.long q1), .second, .val (.int p2), .val (.int p3), .val (.int p4), .val (.int p5), .val (.ref pw), .val (.int z45), .val (.int z46), .val (.long ((q1 &&& (9223372036854775807 : Int64)) - ((q1 &&& (9223372036854775807 : Int64)) / (own_pw z46.toNatClampNeg)) * (own_pw z46.toNatClampNeg))), .second, .unset, .unset, .unset, .unset, .unset, .unset, .unset, .unset, .unset, .unset, .unset, .unset]) rfl k) ?_
  show Run p e below s 2 28 (Q_rm0 Z q1 p2 p3 p4 p5 h0 n0) (T42.setTop (mkF m 108 #[.val (.long q1), .second, .val (.int p2), .val (.int p3), .val (.int p4), .val (.int p5), .val (.ref pw), .val (.int z45), .val (.int z46), .val (.long ((q1 &&& (9223372036854775807 : Int64)) - ((q1 &&& (9223372036854775807 : Int64)) / (own_pw z46.toNatClampNeg)) * (own_pw z46.toNatClampNeg))), .second, .unset, .unset, .unset, .unset, .unset, .unset, .unset, .unset, .unset, .unset, .unset, .unset] []))
  obtain ⟨z47, hz47⟩ : ∃ z, z = ((q1 &&& (9223372036854775807 : Int64)) - ((q1 &&& (9223372036854775807 : Int64)) / (own_pw z46.toNatClampNeg)) * (own_pw z46.toNatClampNeg)) := ⟨_, rfl⟩
  rw [← hz47]
  show Run p e below s 2 28 (Q_rm0 Z q1 p2 p3 p4 p5 h0 n0) (T42.setTop (mkF m 108 #[.val (.long q1), .second, .val (.int p2), .val (.int p3), .val (.int p4), .val (.int p5), .val (.ref pw), .val (.int z45), .val (.int z46), .val (.long z47), .second, .unset, .unset, .unset, .unset, .unset, .unset, .unset, .unset, .unset, .unset, .unset, .unset] []))
  refine Run.go (fun _ k => XS.iloadN Xg42.here hx rfl (hb hby at_108) rfl  k) ?_
  show Run p e below s 2 28 (Q_rm0 Z q1 p2 p3 p4 p5 h0 n0) (T42.setTop (mkF m 109 #[.val (.long q1), .second, .val (.int p2), .val (.int p3), .val (.int p4), .val (.int p5), .val (.ref pw), .val (.int z45), .val (.int z46), .val (.long z47), .second, .unset, .unset, .unset, .unset, .unset, .unset, .unset, .unset, .unset, .unset, .unset, .unset] [(.int p3)]))
  refine Run.go (fun _ k => XS.iconst Xg42.here hx rfl (hb hby at_109) k) ?_
  show Run p e below s 2 28 (Q_rm0 Z q1 p2 p3 p4 p5 h0 n0) (T42.setTop (mkF m 110 #[.val (.long q1), .second, .val (.int p2), .val (.int p3), .val (.int p4), .val (.int p5), .val (.ref pw), .val (.int z45), .val (.int z46), .val (.long z47), .second, .unset, .unset, .unset, .unset, .unset, .unset, .unset, .unset, .unset, .unset, .unset, .unset] [(.int (1 : Int32)), (.int p3)]))
  refine Run.go (fun _ k => XS.iushr Xg42.here hx rfl (hb hby at_110) rfl k) ?_
  show Run p e below s 2 28 (Q_rm0 Z q1 p2 p3 p4 p5 h0 n0) (T42.setTop (mkF m 111 #[.val (.long q1), .second, .val (.int p2), .val (.int p3), .val (.int p4), .val (.int p5), .val (.ref pw), .val (.int z45), .val (.int z46), .val (.long z47), .second, .unset, .unset, .unset, .unset, .unset, .unset, .unset, .unset, .unset, .unset, .unset, .unset] [(.int ((p3.toUInt32 >>> ((1 : Int32) &&& 31).toUInt32).toInt32))]))
  refine Run.go (fun _ k => XS.bipush Xg42.here hx rfl (hb hby at_111) k) ?_
  show Run p e below s 2 28 (Q_rm0 Z q1 p2 p3 p4 p5 h0 n0) (T42.setTop (mkF m 113 #[.val (.long q1), .second, .val (.int p2), .val (.int p3), .val (.int p4), .val (.int p5), .val (.ref pw), .val (.int z45), .val (.int z46), .val (.long z47), .second, .unset, .unset, .unset, .unset, .unset, .unset, .unset, .unset, .unset, .unset, .unset, .unset] [(.int (11 : Int32)), (.int ((p3.toUInt32 >>> ((1 : Int32) &&& 31).toUInt32).toInt32))]))
  refine Run.go (fun _ k => iremM Xg42 hx rfl (hb hby at_113) rfl (by decide) k) ?_
  show Run p e below s 2 28 (Q_rm0 Z q1 p2 p3 p4 p5 h0 n0) (T42.setTop (mkF m 114 #[.val (.long q1), .second, .val (.int p2), .val (.int p3), .val (.int p4), .val (.int p5), .val (.ref pw), .val (.int z45), .val (.int z46), .val (.long z47), .second, .unset, .unset, .unset, .unset, .unset, .unset, .unset, .unset, .unset, .unset, .unset, .unset] [(.int (((p3.toUInt32 >>> ((1 : Int32) &&& 31).toUInt32).toInt32) % (11 : Int32)))]))
  refine Run.go (fun _ k => XS.istore Xg42.here hx rfl (hb hby at_114) rfl (l' := #[.val (.long q1), .second, .val (.int p2), .val (.int p3), .val (.int p4), .val (.int p5), .val (.ref pw), .val (.int z45), .val (.int z46), .val (.long z47), .second, .val (.int (((p3.toUInt32 >>> ((1 : Int32) &&& 31).toUInt32).toInt32) % (11 : Int32))), .unset, .unset, .unset, .unset, .unset, .unset, .unset, .unset, .unset, .unset, .unset]) rfl k) ?_
  show Run p e below s 2 28 (Q_rm0 Z q1 p2 p3 p4 p5 h0 n0) (T42.setTop (mkF m 116 #[.val (.long q1), .second, .val (.int p2), .val (.int p3), .val (.int p4), .val (.int p5), .val (.ref pw), .val (.int z45), .val (.int z46), .val (.long z47), .second, .val (.int (((p3.toUInt32 >>> ((1 : Int32) &&& 31).toUInt32).toInt32) % (11 : Int32))), .unset, .unset, .unset, .unset, .unset, .unset, .unset, .unset, .unset, .unset, .unset] []))
  obtain ⟨z48, hz48⟩ : ∃ z, z = (((p3.toUInt32 >>> ((1 : Int32) &&& 31).toUInt32).toInt32) % (11 : Int32)) := ⟨_, rfl⟩
  rw [← hz48]
  show Run p e below s 2 28 (Q_rm0 Z q1 p2 p3 p4 p5 h0 n0) (T42.setTop (mkF m 116 #[.val (.long q1), .second, .val (.int p2), .val (.int p3), .val (.int p4), .val (.int p5), .val (.ref pw), .val (.int z45), .val (.int z46), .val (.long z47), .second, .val (.int z48), .unset, .unset, .unset, .unset, .unset, .unset, .unset, .unset, .unset, .unset, .unset] []))
  refine Run.go (fun _ k => XS.iloadN Xg42.here hx rfl (hb hby at_116) rfl  k) ?_
  show Run p e below s 2 28 (Q_rm0 Z q1 p2 p3 p4 p5 h0 n0) (T42.setTop (mkF m 117 #[.val (.long q1), .second, .val (.int p2), .val (.int p3), .val (.int p4), .val (.int p5), .val (.ref pw), .val (.int z45), .val (.int z46), .val (.long z47), .second, .val (.int z48), .unset, .unset, .unset, .unset, .unset, .unset, .unset, .unset, .unset, .unset, .unset] [(.int p3)]))
  refine Run.go (fun _ k => XS.iconst Xg42.here hx rfl (hb hby at_117) k) ?_
  show Run p e below s 2 28 (Q_rm0 Z q1 p2 p3 p4 p5 h0 n0) (T42.setTop (mkF m 118 #[.val (.long q1), .second, .val (.int p2), .val (.int p3), .val (.int p4), .val (.int p5), .val (.ref pw), .val (.int z45), .val (.int z46), .val (.long z47), .second, .val (.int z48), .unset, .unset, .unset, .unset, .unset, .unset, .unset, .unset, .unset, .unset, .unset] [(.int (1 : Int32)), (.int p3)]))
  refine Run.go (fun _ k => XS.iand Xg42.here hx rfl (hb hby at_118) rfl k) ?_
  show Run p e below s 2 28 (Q_rm0 Z q1 p2 p3 p4 p5 h0 n0) (T42.setTop (mkF m 119 #[.val (.long q1), .second, .val (.int p2), .val (.int p3), .val (.int p4), .val (.int p5), .val (.ref pw), .val (.int z45), .val (.int z46), .val (.long z47), .second, .val (.int z48), .unset, .unset, .unset, .unset, .unset, .unset, .unset, .unset, .unset, .unset, .unset] [(.int (p3 &&& (1 : Int32)))]))
  have J49 : ∀ (w50 : Int32) (hw50 : w50 = (if ((¬ ((p3 &&& (1 : Int32)) = (0 : Int32))) ∧ (z48 < z46)) then (1 : Int32) else 0)) (T51 : State) (L51 : List Loc) (X51 : Stand p l e room_1 s m #[(.long q1), (.int p2), (.int p3), (.int p4), (.int p5)] below meth c T51 L51 1 12) (e51 : T51.heap = h42) (N51 : Fr n0 L51), Run p e below s 2 28 (Q_rm0 Z q1 p2 p3 p4 p5 h0 n0) (T51.setTop (mkF m 134 #[.val (.long q1), .second, .val (.int p2), .val (.int p3), .val (.int p4), .val (.int p5), .val (.ref pw), .val (.int z45), .val (.int z46), .val (.long z47), .second, .val (.int z48), .unset, .unset, .unset, .unset, .unset, .unset, .unset, .unset, .unset, .unset, .unset] [(.int w50)])) := by
    intro w50 hw50 T51 L51 X51 e51 N51
    show Run p e below s 2 28 (Q_rm0 Z q1 p2 p3 p4 p5 h0 n0) (T51.setTop (mkF m 134 #[.val (.long q1), .second, .val (.int p2), .val (.int p3), .val (.int p4), .val (.int p5), .val (.ref pw), .val (.int z45), .val (.int z46), .val (.long z47), .second, .val (.int z48), .unset, .unset, .unset, .unset, .unset, .unset, .unset, .unset, .unset, .unset, .unset] [(.int w50)]))
    refine Run.go (fun _ k => XS.istore X51.here hx rfl (hb hby at_134) rfl (l' := #[.val (.long q1), .second, .val (.int p2), .val (.int p3), .val (.int p4), .val (.int p5), .val (.ref pw), .val (.int z45), .val (.int z46), .val (.long z47), .second, .val (.int z48), .val (.int w50), .unset, .unset, .unset, .unset, .unset, .unset, .unset, .unset, .unset, .unset]) rfl k) ?_
    show Run p e below s 2 28 (Q_rm0 Z q1 p2 p3 p4 p5 h0 n0) (T51.setTop (mkF m 136 #[.val (.long q1), .second, .val (.int p2), .val (.int p3), .val (.int p4), .val (.int p5), .val (.ref pw), .val (.int z45), .val (.int z46), .val (.long z47), .second, .val (.int z48), .val (.int w50), .unset, .unset, .unset, .unset, .unset, .unset, .unset, .unset, .unset, .unset] []))
    refine Run.go (fun _ k => XS.iload X51.here hx rfl (hb hby at_136) rfl  k) ?_
    show Run p e below s 2 28 (Q_rm0 Z q1 p2 p3 p4 p5 h0 n0) (T51.setTop (mkF m 138 #[.val (.long q1), .second, .val (.int p2), .val (.int p3), .val (.int p4), .val (.int p5), .val (.ref pw), .val (.int z45), .val (.int z46), .val (.long z47), .second, .val (.int z48), .val (.int w50), .unset, .unset, .unset, .unset, .unset, .unset, .unset, .unset, .unset, .unset] [(.int p4)]))
    refine Run.go (fun _ k => XS.i2b X51.here hx rfl (hb hby at_138) rfl k) ?_
    show Run p e below s 2 28 (Q_rm0 Z q1 p2 p3 p4 p5 h0 n0) (T51.setTop (mkF m 139 #[.val (.long q1), .second, .val (.int p2), .val (.int p3), .val (.int p4), .val (.int p5), .val (.ref pw), .val (.int z45), .val (.int z46), .val (.long z47), .second, .val (.int z48), .val (.int w50), .unset, .unset, .unset, .unset, .unset, .unset, .unset, .unset, .unset, .unset] [(.int (p4.toInt8.toInt32))]))
    refine Run.go (fun _ k => XS.istore X51.here hx rfl (hb hby at_139) rfl (l' := #[.val (.long q1), .second, .val (.int p2), .val (.int p3), .val (.int p4), .val (.int p5), .val (.ref pw), .val (.int z45), .val (.int z46), .val (.long z47), .second, .val (.int z48), .val (.int w50), .val (.int (p4.toInt8.toInt32)), .unset, .unset, .unset, .unset, .unset, .unset, .unset, .unset, .unset]) rfl k) ?_
    show Run p e below s 2 28 (Q_rm0 Z q1 p2 p3 p4 p5 h0 n0) (T51.setTop (mkF m 141 #[.val (.long q1), .second, .val (.int p2), .val (.int p3), .val (.int p4), .val (.int p5), .val (.ref pw), .val (.int z45), .val (.int z46), .val (.long z47), .second, .val (.int z48), .val (.int w50), .val (.int (p4.toInt8.toInt32)), .unset, .unset, .unset, .unset, .unset, .unset, .unset, .unset, .unset] []))
    obtain ⟨z52, hz52⟩ : ∃ z, z = (p4.toInt8.toInt32) := ⟨_, rfl⟩
    rw [← hz52]
    show Run p e below s 2 28 (Q_rm0 Z q1 p2 p3 p4 p5 h0 n0) (T51.setTop (mkF m 141 #[.val (.long q1), .second, .val (.int p2), .val (.int p3), .val (.int p4), .val (.int p5), .val (.ref pw), .val (.int z45), .val (.int z46), .val (.long z47), .second, .val (.int z48), .val (.int w50), .val (.int z52), .unset, .unset, .unset, .unset, .unset, .unset, .unset, .unset, .unset] []))
    refine Run.go (fun _ k => XS.bipush X51.here hx rfl (hb hby at_141) k) ?_
    show Run p e below s 2 28 (Q_rm0 Z q1 p2 p3 p4 p5 h0 n0) (T51.setTop (mkF m 143 #[.val (.long q1), .second, .val (.int p2), .val (.int p3), .val (.int p4), .val (.int p5), .val (.ref pw), .val (.int z45), .val (.int z46), .val (.long z47), .second, .val (.int z48), .val (.int w50), .val (.int z52), .unset, .unset, .unset, .unset, .unset, .unset, .unset, .unset, .unset] [(.int (16 : Int32))]))
    obtain ⟨T53, h53, k53, X53, e53, E53, A53, st53⟩ := newP X51 hx hZ (hw _ (List.mem_of_getElem? (i := 13) rfl)) e51 (g := (mkF m 143 #[.val (.long q1), .second, .val (.int p2), .val (.int p3), .val (.int p4), .val (.int p5), .val (.ref pw), .val (.int z45), .val (.int z46), .val (.long z47), .second, .val (.int z48), .val (.int w50), .val (.int z52), .unset, .unset, .unset, .unset, .unset, .unset, .unset, .unset, .unset] [(.int (16 : Int32))])) rfl (hb hby at_143) rfl (by decide) (cap := 16) (by decide) (by decide) (by decide) (by decide)
    obtain ⟨ar, g53⟩ : ∃ z, z = h42.size := ⟨_, rfl⟩
    rw [← g53] at A53 st53
    have g_ar : n0 ≤ ar := Nat.le_trans Z42 (Nat.le_of_eq g53.symm)
    have Z53 : n0 ≤ h53.size := Nat.le_trans Z42 E53.1
    have ne_pw_ar : pw ≠ ar := Nat.ne_of_lt (Nat.lt_of_lt_of_le fx43.lt (Nat.le_of_eq g53.symm))
    have fx54 : Ary Z h53 ar .byte 16 (fun _ => (.int (0 : Int32))) := Ary.new A53 (by decide)
    obtain ⟨ff55, hff55⟩ : ∃ f : Nat → Value, f = (fun _ => (.int (0 : Int32))) := ⟨_, rfl⟩
    rw [← hff55] at fx54
    refine Run.go st53 ?_
    show Run p e below s 2 28 (Q_rm0 Z q1 p2 p3 p4 p5 h0 n0) (T53.setTop (mkF m 145 #[.val (.long q1), .second, .val (.int p2), .val (.int p3), .val (.int p4), .val (.int p5), .val (.ref pw), .val (.int z45), .val (.int z46), .val (.long z47), .second, .val (.int z48), .val (.int w50), .val (.int z52), .unset, .unset, .unset, .unset, .unset, .unset, .unset, .unset, .unset] [(.ref ar)]))
    refine Run.go (fun _ k => XS.dup X53.here hx rfl (hb hby at_145) rfl rfl k) ?_
    show Run p e below s 2 28 (Q_rm0 Z q1 p2 p3 p4 p5 h0 n0) (T53.setTop (mkF m 146 #[.val (.long q1), .second, .val (.int p2), .val (.int p3), .val (.int p4), .val (.int p5), .val (.ref pw), .val (.int z45), .val (.int z46), .val (.long z47), .second, .val (.int z48), .val (.int w50), .val (.int z52), .unset, .unset, .unset, .unset, .unset, .unset, .unset, .unset, .unset] [(.ref ar), (.ref ar)]))
    refine Run.go (fun _ k => XS.iconst X53.here hx rfl (hb hby at_146) k) ?_
    show Run p e below s 2 28 (Q_rm0 Z q1 p2 p3 p4 p5 h0 n0) (T53.setTop (mkF m 147 #[.val (.long q1), .second, .val (.int p2), .val (.int p3), .val (.int p4), .val (.int p5), .val (.ref pw), .val (.int z45), .val (.int z46), .val (.long z47), .second, .val (.int z48), .val (.int w50), .val (.int z52), .unset, .unset, .unset, .unset, .unset, .unset, .unset, .unset, .unset] [(.int (0 : Int32)), (.ref ar), (.ref ar)]))
    refine Run.go (fun _ k => XS.iconst X53.here hx rfl (hb hby at_147) k) ?_
    show Run p e below s 2 28 (Q_rm0 Z q1 p2 p3 p4 p5 h0 n0) (T53.setTop (mkF m 148 #[.val (.long q1), .second, .val (.int p2), .val (.int p3), .val (.int p4), .val (.int p5), .val (.ref pw), .val (.int z45), .val (.int z46), .val (.long z47), .second, .val (.int z48), .val (.int w50), .val (.int z52), .unset, .unset, .unset, .unset, .unset, .unset, .unset, .unset, .unset] [(.int (0 : Int32)), (.int (0 : Int32)), (.ref ar), (.ref ar)]))
    refine Run.go (fun _ k => XS.iload X53.here hx rfl (hb hby at_148) rfl  k) ?_
    show Run p e below s 2 28 (Q_rm0 Z q1 p2 p3 p4 p5 h0 n0) (T53.setTop (mkF m 150 #[.val (.long q1), .second, .val (.int p2), .val (.int p3), .val (.int p4), .val (.int p5), .val (.ref pw), .val (.int z45), .val (.int z46), .val (.long z47), .second, .val (.int z48), .val (.int w50), .val (.int z52), .unset, .unset, .unset, .unset, .unset, .unset, .unset, .unset, .unset] [(.int z45), (.int (0 : Int32)), (.int (0 : Int32)), (.ref ar), (.ref ar)]))
    refine Run.go (fun _ k => XS.iload X53.here hx rfl (hb hby at_150) rfl  k) ?_
    show Run p e below s 2 28 (Q_rm0 Z q1 p2 p3 p4 p5 h0 n0) (T53.setTop (mkF m 152 #[.val (.long q1), .second, .val (.int p2), .val (.int p3), .val (.int p4), .val (.int p5), .val (.ref pw), .val (.int z45), .val (.int z46), .val (.long z47), .second, .val (.int z48), .val (.int w50), .val (.int z52), .unset, .unset, .unset, .unset, .unset, .unset, .unset, .unset, .unset] [(.int z46), (.int z45), (.int (0 : Int32)), (.int (0 : Int32)), (.ref ar), (.ref ar)]))
    refine Run.go (fun _ k => XS.lload X53.here hx rfl (hb hby at_152) rfl  k) ?_
    show Run p e below s 2 28 (Q_rm0 Z q1 p2 p3 p4 p5 h0 n0) (T53.setTop (mkF m 154 #[.val (.long q1), .second, .val (.int p2), .val (.int p3), .val (.int p4), .val (.int p5), .val (.ref pw), .val (.int z45), .val (.int z46), .val (.long z47), .second, .val (.int z48), .val (.int w50), .val (.int z52), .unset, .unset, .unset, .unset, .unset, .unset, .unset, .unset, .unset] [(.long z47), (.int z46), (.int z45), (.int (0 : Int32)), (.int (0 : Int32)), (.ref ar), (.ref ar)]))
    refine Run.go (fun _ k => XS.aload X53.here hx rfl (hb hby at_154) rfl rfl k) ?_
    show Run p e below s 2 28 (Q_rm0 Z q1 p2 p3 p4 p5 h0 n0) (T53.setTop (mkF m 156 #[.val (.long q1), .second, .val (.int p2), .val (.int p3), .val (.int p4), .val (.int p5), .val (.ref pw), .val (.int z45), .val (.int z46), .val (.long z47), .second, .val (.int z48), .val (.int w50), .val (.int z52), .unset, .unset, .unset, .unset, .unset, .unset, .unset, .unset, .unset] [(.ref pw), (.long z47), (.int z46), (.int z45), (.int (0 : Int32)), (.int (0 : Int32)), (.ref ar), (.ref ar)]))
    refine Run.go (fun _ k => XS.iload X53.here hx rfl (hb hby at_156) rfl  k) ?_
    show Run p e below s 2 28 (Q_rm0 Z q1 p2 p3 p4 p5 h0 n0) (T53.setTop (mkF m 158 #[.val (.long q1), .second, .val (.int p2), .val (.int p3), .val (.int p4), .val (.int p5), .val (.ref pw), .val (.int z45), .val (.int z46), .val (.long z47), .second, .val (.int z48), .val (.int w50), .val (.int z52), .unset, .unset, .unset, .unset, .unset, .unset, .unset, .unset, .unset] [(.int w50), (.ref pw), (.long z47), (.int z46), (.int z45), (.int (0 : Int32)), (.int (0 : Int32)), (.ref ar), (.ref ar)]))
    refine Run.go (fun _ k => XS.iload X53.here hx rfl (hb hby at_158) rfl  k) ?_
    show Run p e below s 2 28 (Q_rm0 Z q1 p2 p3 p4 p5 h0 n0) (T53.setTop (mkF m 160 #[.val (.long q1), .second, .val (.int p2), .val (.int p3), .val (.int p4), .val (.int p5), .val (.ref pw), .val (.int z45), .val (.int z46), .val (.long z47), .second, .val (.int z48), .val (.int w50), .val (.int z52), .unset, .unset, .unset, .unset, .unset, .unset, .unset, .unset, .unset] [(.int z48), (.int w50), (.ref pw), (.long z47), (.int z46), (.int z45), (.int (0 : Int32)), (.int (0 : Int32)), (.ref ar), (.ref ar)]))
    refine Run.go (fun _ k => XS.iload X53.here hx rfl (hb hby at_160) rfl  k) ?_
    show Run p e below s 2 28 (Q_rm0 Z q1 p2 p3 p4 p5 h0 n0) (T53.setTop (mkF m 162 #[.val (.long q1), .second, .val (.int p2), .val (.int p3), .val (.int p4), .val (.int p5), .val (.ref pw), .val (.int z45), .val (.int z46), .val (.long z47), .second, .val (.int z48), .val (.int w50), .val (.int z52), .unset, .unset, .unset, .unset, .unset, .unset, .unset, .unset, .unset] [(.int z52), (.int z48), (.int w50), (.ref pw), (.long z47), (.int z46), (.int z45), (.int (0 : Int32)), (.int (0 : Int32)), (.ref ar), (.ref ar)]))
    refine Run.go (fun _ k => XS.iload X53.here hx rfl (hb hby at_162) rfl  k) ?_
    show Run p e below s 2 28 (Q_rm0 Z q1 p2 p3 p4 p5 h0 n0) (T53.setTop (mkF m 164 #[.val (.long q1), .second, .val (.int p2), .val (.int p3), .val (.int p4), .val (.int p5), .val (.ref pw), .val (.int z45), .val (.int z46), .val (.long z47), .second, .val (.int z48), .val (.int w50), .val (.int z52), .unset, .unset, .unset, .unset, .unset, .unset, .unset, .unset, .unset] [(.int p5), (.int z52), (.int z48), (.int w50), (.ref pw), (.long z47), (.int z46), (.int z45), (.int (0 : Int32)), (.int (0 : Int32)), (.ref ar), (.ref ar)]))
    have fx57 := (fx43.ext E53)
    obtain ⟨_, _, ⟨T56, L56, k56, n56⟩, -, X56, ⟨Lc56, hQ56, l56, y56, z56⟩, st56⟩ := Jvm.LawKit.callS X53 hx (y := (⟨"com/example/comera/comera/sip/SyntaxUnsigned32PinLaw", "cell", "(IIIJ[JZIBI)B"⟩ : MethodName)) hown (mvT hZ (hw _ (List.mem_of_getElem? (i := 14) rfl))) (mvT hZ (hw _ (List.mem_of_getElem? (i := 15) rfl))) (mvT hZ (hw _ (List.mem_of_getElem? (i := 16) rfl))) (mvT hZ (hw _ (List.mem_of_getElem? (i := 17) rfl))) (by decide) (backOf (W := 3) (rm1 l Z a0 hw [] (0 : Int32) z45 z46 z47 pw w50 z48 z52 p5 ff44 h53 n0 Z53 fx57 hpw (by rw [hz45]; exact (own_s p2).1) (by rw [hz45]; exact (own_s p2).2) (by rw [hz46]; exact (own_ln p2).1) (by rw [hz46]; exact (own_ln p2).2.1) (by rw [hz52]; exact b_idem _)) hZ (hw _ (List.mem_of_getElem? (i := 17) rfl)) (hw _ (List.mem_of_getElem? (i := 16) rfl)) (by decide) (by decide)) (g := (mkF m 164 #[.val (.long q1), .second, .val (.int p2), .val (.int p3), .val (.int p4), .val (.int p5), .val (.ref pw), .val (.int z45), .val (.int z46), .val (.long z47), .second, .val (.int z48), .val (.int w50), .val (.int z52), .unset, .unset, .unset, .unset, .unset, .unset, .unset, .unset, .unset] [(.int p5), (.int z52), (.int z48), (.int w50), (.ref pw), (.long z47), (.int z46), (.int z45), (.int (0 : Int32)), (.int (0 : Int32)), (.ref ar), (.ref ar)])) rfl (by rw [hml]; rfl) (argsL := [(.int (0 : Int32)), (.int z45), (.int z46), (.long z47), (.ref pw), (.int w50), (.int z48), (.int z52), (.int p5)]) (rest := [(.int (0 : Int32)), (.ref ar), (.ref ar)]) (lenOf pd_0 rfl) rfl (by show 2 * 0 + _ ≤ _; exact Nat.le_of_eq rfl) (hb hby at_164) (fun _ _ => ⟨rfl, e53, (by decide : 2 + 0 ≤ _), (by decide : 28 + 0 ≤ _)⟩)
    dsimp only [Pt.U, Pt.locs, Pt.cells, Pt.slots] at X56 l56 y56 z56 st56 hQ56
    subst l56 y56 z56
    obtain ⟨rfl, N56q, e56q⟩ := hQ56
    have N56 := Fr.app N51 N56q
    obtain ⟨Lg56, Xg56, Ng56⟩ := Stand_gen X56 N56
    refine Run.go st56 ?_
    show Run p e below s 2 28 (Q_rm0 Z q1 p2 p3 p4 p5 h0 n0) (T56.setTop (mkF m 167 #[.val (.long q1), .second, .val (.int p2), .val (.int p3), .val (.int p4), .val (.int p5), .val (.ref pw), .val (.int z45), .val (.int z46), .val (.long z47), .second, .val (.int z48), .val (.int w50), .val (.int z52), .unset, .unset, .unset, .unset, .unset, .unset, .unset, .unset, .unset] [(.int (F_rm1 (0 : Int32) z45 z46 z47 w50 z48 z52 p5)), (.int (0 : Int32)), (.ref ar), (.ref ar)]))
    obtain ⟨T58, h58, X58, e58, W58, st58⟩ := ary_bset Xg56 hx hZ e56q fx54 (j := (0 : Int32)) (by decide) (by decide) (g := (mkF m 167 #[.val (.long q1), .second, .val (.int p2), .val (.int p3), .val (.int p4), .val (.int p5), .val (.ref pw), .val (.int z45), .val (.int z46), .val (.long z47), .second, .val (.int z48), .val (.int w50), .val (.int z52), .unset, .unset, .unset, .unset, .unset, .unset, .unset, .unset, .unset] [(.int (F_rm1 (0 : Int32) z45 z46 z47 w50 z48 z52 p5)), (.int (0 : Int32)), (.ref ar), (.ref ar)])) rfl rfl (hb hby at_167) (y := (F_rm1 (0 : Int32) z45 z46 z47 w50 z48 z52 p5)) (own_cell_b _ _ _ _ _ _ _ _ (by rw [hz52]; exact b_idem _))
    have N58 := Fr.snoc X58 Ng56 g_ar
    have Z58 : n0 ≤ h58.size := Nat.le_trans Z53 (Keep.of_wr W58).1
    obtain ⟨Lg58, Xg58, Ng58⟩ := Stand_gen X58 N58
    have fx59 : Ary Z h58 ar .byte 16 (fun i => if i = 0 then (.int (F_rm1 (0 : Int32) z45 z46 z47 w50 z48 z52 p5)) else ff55 i) := fx54.same W58
    obtain ⟨ff60, hff60⟩ : ∃ f : Nat → Value, f = (fun i => if i = 0 then (.int (F_rm1 (0 : Int32) z45 z46 z47 w50 z48 z52 p5)) else ff55 i) := ⟨_, rfl⟩
    rw [← hff60] at fx59
    refine Run.go st58 ?_
    show Run p e below s 2 28 (Q_rm0 Z q1 p2 p3 p4 p5 h0 n0) (T58.setTop (mkF m 168 #[.val (.long q1), .second, .val (.int p2), .val (.int p3), .val (.int p4), .val (.int p5), .val (.ref pw), .val (.int z45), .val (.int z46), .val (.long z47), .second, .val (.int z48), .val (.int w50), .val (.int z52), .unset, .unset, .unset, .unset, .unset, .unset, .unset, .unset, .unset] [(.ref ar)]))
    refine Run.go (fun _ k => XS.dup Xg58.here hx rfl (hb hby at_168) rfl rfl k) ?_
    show Run p e below s 2 28 (Q_rm0 Z q1 p2 p3 p4 p5 h0 n0) (T58.setTop (mkF m 169 #[.val (.long q1), .second, .val (.int p2), .val (.int p3), .val (.int p4), .val (.int p5), .val (.ref pw), .val (.int z45), .val (.int z46), .val (.long z47), .second, .val (.int z48), .val (.int w50), .val (.int z52), .unset, .unset, .unset, .unset, .unset, .unset, .unset, .unset, .unset] [(.ref ar), (.ref ar)]))
    refine Run.go (fun _ k => XS.iconst Xg58.here hx rfl (hb hby at_169) k) ?_
    show Run p e below s 2 28 (Q_rm0 Z q1 p2 p3 p4 p5 h0 n0) (T58.setTop (mkF m 170 #[.val (.long q1), .second, .val (.int p2), .val (.int p3), .val (.int p4), .val (.int p5), .val (.ref pw), .val (.int z45), .val (.int z46), .val (.long z47), .second, .val (.int z48), .val (.int w50), .val (.int z52), .unset, .unset, .unset, .unset, .unset, .unset, .unset, .unset, .unset] [(.int (1 : Int32)), (.ref ar), (.ref ar)]))
    refine Run.go (fun _ k => XS.iconst Xg58.here hx rfl (hb hby at_170) k) ?_
    show Run p e below s 2 28 (Q_rm0 Z q1 p2 p3 p4 p5 h0 n0) (T58.setTop (mkF m 171 #[.val (.long q1), .second, .val (.int p2), .val (.int p3), .val (.int p4), .val (.int p5), .val (.ref pw), .val (.int z45), .val (.int z46), .val (.long z47), .second, .val (.int z48), .val (.int w50), .val (.int z52), .unset, .unset, .unset, .unset, .unset, .unset, .unset, .unset, .unset] [(.int (1 : Int32)), (.int (1 : Int32)), (.ref ar), (.ref ar)]))
    refine Run.go (fun _ k => XS.iload Xg58.here hx rfl (hb hby at_171) rfl  k) ?_
    show Run p e below s 2 28 (Q_rm0 Z q1 p2 p3 p4 p5 h0 n0) (T58.setTop (mkF m 173 #[.val (.long q1), .second, .val (.int p2), .val (.int p3), .val (.int p4), .val (.int p5), .val (.ref pw), .val (.int z45), .val (.int z46), .val (.long z47), .second, .val (.int z48), .val (.int w50), .val (.int z52), .unset, .unset, .unset, .unset, .unset, .unset, .unset, .unset, .unset] [(.int z45), (.int (1 : Int32)), (.int (1 : Int32)), (.ref ar), (.ref ar)]))
    refine Run.go (fun _ k => XS.iload Xg58.here hx rfl (hb hby at_173) rfl  k) ?_
    show Run p e below s 2 28 (Q_rm0 Z q1 p2 p3 p4 p5 h0 n0) (T58.setTop (mkF m 175 #[.val (.long q1), .second, .val (.int p2), .val (.int p3), .val (.int p4), .val (.int p5), .val (.ref pw), .val (.int z45), .val (.int z46), .val (.long z47), .second, .val (.int z48), .val (.int w50), .val (.int z52), .unset, .unset, .unset, .unset, .unset, .unset, .unset, .unset, .unset] [(.int z46), (.int z45), (.int (1 : Int32)), (.int (1 : Int32)), (.ref ar), (.ref ar)]))
    refine Run.go (fun _ k => XS.lload Xg58.here hx rfl (hb hby at_175) rfl  k) ?_
    show Run p e below s 2 28 (Q_rm0 Z q1 p2 p3 p4 p5 h0 n0) (T58.setTop (mkF m 177 #[.val (.long q1), .second, .val (.int p2), .val (.int p3), .val (.int p4), .val (.int p5), .val (.ref pw), .val (.int z45), .val (.int z46), .val (.long z47), .second, .val (.int z48), .val (.int w50), .val (.int z52), .unset, .unset, .unset, .unset, .unset, .unset, .unset, .unset, .unset] [(.long z47), (.int z46), (.int z45), (.int (1 : Int32)), (.int (1 : Int32)), (.ref ar), (.ref ar)]))
    refine Run.go (fun _ k => XS.aload Xg58.here hx rfl (hb hby at_177) rfl rfl k) ?_
    show Run p e below s 2 28 (Q_rm0 Z q1 p2 p3 p4 p5 h0 n0) (T58.setTop (mkF m 179 #[.val (.long q1), .second, .val (.int p2), .val (.int p3), .val (.int p4), .val (.int p5), .val (.ref pw), .val (.int z45), .val (.int z46), .val (.long z47), .second, .val (.int z48), .val (.int w50), .val (.int z52), .unset, .unset, .unset, .unset, .unset, .unset, .unset, .unset, .unset] [(.ref pw), (.long z47), (.int z46), (.int z45), (.int (1 : Int32)), (.int (1 : Int32)), (.ref ar), (.ref ar)]))
    refine Run.go (fun _ k => XS.iload Xg58.here hx rfl (hb hby at_179) rfl  k) ?_
    show Run p e below s 2 28 (Q_rm0 Z q1 p2 p3 p4 p5 h0 n0) (T58.setTop (mkF m 181 #[.val (.long q1), .second, .val (.int p2), .val (.int p3), .val (.int p4), .val (.int p5), .val (.ref pw), .val (.int z45), .val (.int z46), .val (.long z47), .second, .val (.int z48), .val (.int w50), .val (.int z52), .unset, .unset, .unset, .unset, .unset, .unset, .unset, .unset, .unset] [(.int w50), (.ref pw), (.long z47), (.int z46), (.int z45), (.int (1 : Int32)), (.int (1 : Int32)), (.ref ar), (.ref ar)]))
    refine Run.go (fun _ k => XS.iload Xg58.here hx rfl (hb hby at_181) rfl  k) ?_
    show Run p e below s 2 28 (Q_rm0 Z q1 p2 p3 p4 p5 h0 n0) (T58.setTop (mkF m 183 #[.val (.long q1), .second, .val (.int p2), .val (.int p3), .val (.int p4), .val (.int p5), .val (.ref pw), .val (.int z45), .val (.int z46), .val (.long z47), .second, .val (.int z48), .val (.int w50), .val (.int z52), .unset, .unset, .unset, .unset, .unset, .unset, .unset, .unset, .unset] [(.int z48), (.int w50), (.ref pw), (.long z47), (.int z46), (.int z45), (.int (1 : Int32)), (.int (1 : Int32)), (.ref ar), (.ref ar)]))
    refine Run.go (fun _ k => XS.iload Xg58.here hx rfl (hb hby at_183) rfl  k) ?_
    show Run p e below s 2 28 (Q_rm0 Z q1 p2 p3 p4 p5 h0 n0) (T58.setTop (mkF m 185 #[.val (.long q1), .second, .val (.int p2), .val (.int p3), .val (.int p4), .val (.int p5), .val (.ref pw), .val (.int z45), .val (.int z46), .val (.long z47), .second, .val (.int z48), .val (.int w50), .val (.int z52), .unset, .unset, .unset, .unset, .unset, .unset, .unset, .unset, .unset] [(.int z52), (.int z48), (.int w50), (.ref pw), (.long z47), (.int z46), (.int z45), (.int (1 : Int32)), (.int (1 : Int32)), (.ref ar), (.ref ar)]))
    refine Run.go (fun _ k => XS.iload Xg58.here hx rfl (hb hby at_185) rfl  k) ?_
    show Run p e below s 2 28 (Q_rm0 Z q1 p2 p3 p4 p5 h0 n0) (T58.setTop (mkF m 187 #[.val (.long q1), .second, .val (.int p2), .val (.int p3), .val (.int p4), .val (.int p5), .val (.ref pw), .val (.int z45), .val (.int z46), .val (.long z47), .second, .val (.int z48), .val (.int w50), .val (.int z52), .unset, .unset, .unset, .unset, .unset, .unset, .unset, .unset, .unset] [(.int p5), (.int z52), (.int z48), (.int w50), (.ref pw), (.long z47), (.int z46), (.int z45), (.int (1 : Int32)), (.int (1 : Int32)), (.ref ar), (.ref ar)]))
    have fx62 := (fx57.other W58 ne_pw_ar)
    obtain ⟨_, _, ⟨T61, L61, k61, n61⟩, -, X61, ⟨Lc61, hQ61, l61, y61, z61⟩, st61⟩ := Jvm.LawKit.callS Xg58 hx (y := (⟨"com/example/comera/comera/sip/SyntaxUnsigned32PinLaw", "cell", "(IIIJ[JZIBI)B"⟩ : MethodName)) hown (mvT hZ (hw _ (List.mem_of_getElem? (i := 14) rfl))) (mvT hZ (hw _ (List.mem_of_getElem? (i := 15) rfl))) (mvT hZ (hw _ (List.mem_of_getElem? (i := 16) rfl))) (mvT hZ (hw _ (List.mem_of_getElem? (i := 17) rfl))) (by decide) (backOf (W := 3) (rm1 l Z a0 hw [] (1 : Int32) z45 z46 z47 pw w50 z48 z52 p5 ff44 h58 n0 Z58 fx62 hpw (by rw [hz45]; exact (own_s p2).1) (by rw [hz45]; exact (own_s p2).2) (by rw [hz46]; exact (own_ln p2).1) (by rw [hz46]; exact (own_ln p2).2.1) (by rw [hz52]; exact b_idem _)) hZ (hw _ (List.mem_of_getElem? (i := 17) rfl)) (hw _ (List.mem_of_getElem? (i := 16) rfl)) (by decide) (by decide)) (g := (mkF m 187 #[.val (.long q1), .second, .val (.int p2), .val (.int p3), .val (.int p4), .val (.int p5), .val (.ref pw), .val (.int z45), .val (.int z46), .val (.long z47), .second, .val (.int z48), .val (.int w50), .val (.int z52), .unset, .unset, .unset, .unset, .unset, .unset, .unset, .unset, .unset] [(.int p5), (.int z52), (.int z48), (.int w50), (.ref pw), (.long z47), (.int z46), (.int z45), (.int (1 : Int32)), (.int (1 : Int32)), (.ref ar), (.ref ar)])) rfl (by rw [hml]; rfl) (argsL := [(.int (1 : Int32)), (.int z45), (.int z46), (.long z47), (.ref pw), (.int w50), (.int z48), (.int z52), (.int p5)]) (rest := [(.int (1 : Int32)), (.ref ar), (.ref ar)]) (lenOf pd_0 rfl) rfl (by show 2 * 0 + _ ≤ _; exact Nat.le_of_eq rfl) (hb hby at_187) (fun _ _ => ⟨rfl, e58, (by decide : 2 + 0 ≤ _), (by decide : 28 + 0 ≤ _)⟩)
    dsimp only [Pt.U, Pt.locs, Pt.cells, Pt.slots] at X61 l61 y61 z61 st61 hQ61
    subst l61 y61 z61
    obtain ⟨rfl, N61q, e61q⟩ := hQ61
    have N61 := Fr.app Ng58 N61q
    obtain ⟨Lg61, Xg61, Ng61⟩ := Stand_gen X61 N61
    refine Run.go st61 ?_
    show Run p e below s 2 28 (Q_rm0 Z q1 p2 p3 p4 p5 h0 n0) (T61.setTop (mkF m 190 #[.val (.long q1), .second, .val (.int p2), .val (.int p3), .val (.int p4), .val (.int p5), .val (.ref pw), .val (.int z45), .val (.int z46), .val (.long z47), .second, .val (.int z48), .val (.int w50), .val (.int z52), .unset, .unset, .unset, .unset, .unset, .unset, .unset, .unset, .unset] [(.int (F_rm1 (1 : Int32) z45 z46 z47 w50 z48 z52 p5)), (.int (1 : Int32)), (.ref ar), (.ref ar)]))
    obtain ⟨T63, h63, X63, e63, W63, st63⟩ := ary_bset Xg61 hx hZ e61q fx59 (j := (1 : Int32)) (by decide) (by decide) (g := (mkF m 190 #[.val (.long q1), .second, .val (.int p2), .val (.int p3), .val (.int p4), .val (.int p5), .val (.ref pw), .val (.int z45), .val (.int z46), .val (.long z47), .second, .val (.int z48), .val (.int w50), .val (.int z52), .unset, .unset, .unset, .unset, .unset, .unset, .unset, .unset, .unset] [(.int (F_rm1 (1 : Int32) z45 z46 z47 w50 z48 z52 p5)), (.int (1 : Int32)), (.ref ar), (.ref ar)])) rfl rfl (hb hby at_190) (y := (F_rm1 (1 : Int32) z45 z46 z47 w50 z48 z52 p5)) (own_cell_b _ _ _ _ _ _ _ _ (by rw [hz52]; exact b_idem _))
    have N63 := Fr.snoc X63 Ng61 g_ar
    have Z63 : n0 ≤ h63.size := Nat.le_trans Z58 (Keep.of_wr W63).1
    obtain ⟨Lg63, Xg63, Ng63⟩ := Stand_gen X63 N63
    have fx64 : Ary Z h63 ar .byte 16 (fun i => if i = 1 then (.int (F_rm1 (1 : Int32) z45 z46 z47 w50 z48 z52 p5)) else ff60 i) := fx59.same W63
    obtain ⟨ff65, hff65⟩ : ∃ f : Nat → Value, f = (fun i => if i = 1 then (.int (F_rm1 (1 : Int32) z45 z46 z47 w50 z48 z52 p5)) else ff60 i) := ⟨_, rfl⟩
    rw [← hff65] at fx64
    refine Run.go st63 ?_
    show Run p e below s 2 28 (Q_rm0 Z q1 p2 p3 p4 p5 h0 n0) (T63.setTop (mkF m 191 #[.val (.long q1), .second, .val (.int p2), .val (.int p3), .val (.int p4), .val (.int p5), .val (.ref pw), .val (.int z45), .val (.int z46), .val (.long z47), .second, .val (.int z48), .val (.int w50), .val (.int z52), .unset, .unset, .unset, .unset, .unset, .unset, .unset, .unset, .unset] [(.ref ar)]))
    refine Run.go (fun _ k => XS.dup Xg63.here hx rfl (hb hby at_191) rfl rfl k) ?_
    show Run p e below s 2 28 (Q_rm0 Z q1 p2 p3 p4 p5 h0 n0) (T63.setTop (mkF m 192 #[.val (.long q1), .second, .val (.int p2), .val (.int p3), .val (.int p4), .val (.int p5), .val (.ref pw), .val (.int z45), .val (.int z46), .val (.long z47), .second, .val (.int z48), .val (.int w50), .val (.int z52), .unset, .unset, .unset, .unset, .unset, .unset, .unset, .unset, .unset] [(.ref ar), (.ref ar)]))
    refine Run.go (fun _ k => XS.iconst Xg63.here hx rfl (hb hby at_192) k) ?_
    show Run p e below s 2 28 (Q_rm0 Z q1 p2 p3 p4 p5 h0 n0) (T63.setTop (mkF m 193 #[.val (.long q1), .second, .val (.int p2), .val (.int p3), .val (.int p4), .val (.int p5), .val (.ref pw), .val (.int z45), .val (.int z46), .val (.long z47), .second, .val (.int z48), .val (.int w50), .val (.int z52), .unset, .unset, .unset, .unset, .unset, .unset, .unset, .unset, .unset] [(.int (2 : Int32)), (.ref ar), (.ref ar)]))
    refine Run.go (fun _ k => XS.iconst Xg63.here hx rfl (hb hby at_193) k) ?_
    show Run p e below s 2 28 (Q_rm0 Z q1 p2 p3 p4 p5 h0 n0) (T63.setTop (mkF m 194 #[.val (.long q1), .second, .val (.int p2), .val (.int p3), .val (.int p4), .val (.int p5), .val (.ref pw), .val (.int z45), .val (.int z46), .val (.long z47), .second, .val (.int z48), .val (.int w50), .val (.int z52), .unset, .unset, .unset, .unset, .unset, .unset, .unset, .unset, .unset] [(.int (2 : Int32)), (.int (2 : Int32)), (.ref ar), (.ref ar)]))
    refine Run.go (fun _ k => XS.iload Xg63.here hx rfl (hb hby at_194) rfl  k) ?_
    show Run p e below s 2 28 (Q_rm0 Z q1 p2 p3 p4 p5 h0 n0) (T63.setTop (mkF m 196 #[.val (.long q1), .second, .val (.int p2), .val (.int p3), .val (.int p4), .val (.int p5), .val (.ref pw), .val (.int z45), .val (.int z46), .val (.long z47), .second, .val (.int z48), .val (.int w50), .val (.int z52), .unset, .unset, .unset, .unset, .unset, .unset, .unset, .unset, .unset] [(.int z45), (.int (2 : Int32)), (.int (2 : Int32)), (.ref ar), (.ref ar)]))
    refine Run.go (fun _ k => XS.iload Xg63.here hx rfl (hb hby at_196) rfl  k) ?_
    show Run p e below s 2 28 (Q_rm0 Z q1 p2 p3 p4 p5 h0 n0) (T63.setTop (mkF m 198 #[.val (.long q1), .second, .val (.int p2), .val (.int p3), .val (.int p4), .val (.int p5), .val (.ref pw), .val (.int z45), .val (.int z46), .val (.long z47), .second, .val (.int z48), .val (.int w50), .val (.int z52), .unset, .unset, .unset, .unset, .unset, .unset, .unset, .unset, .unset] [(.int z46), (.int z45), (.int (2 : Int32)), (.int (2 : Int32)), (.ref ar), (.ref ar)]))
    refine Run.go (fun _ k => XS.lload Xg63.here hx rfl (hb hby at_198) rfl  k) ?_
    show Run p e below s 2 28 (Q_rm0 Z q1 p2 p3 p4 p5 h0 n0) (T63.setTop (mkF m 200 #[.val (.long q1), .second, .val (.int p2), .val (.int p3), .val (.int p4), .val (.int p5), .val (.ref pw), .val (.int z45), .val (.int z46), .val (.long z47), .second, .val (.int z48), .val (.int w50), .val (.int z52), .unset, .unset, .unset, .unset, .unset, .unset, .unset, .unset, .unset] [(.long z47), (.int z46), (.int z45), (.int (2 : Int32)), (.int (2 : Int32)), (.ref ar), (.ref ar)]))
    refine Run.go (fun _ k => XS.aload Xg63.here hx rfl (hb hby at_200) rfl rfl k) ?_
    show Run p e below s 2 28 (Q_rm0 Z q1 p2 p3 p4 p5 h0 n0) (T63.setTop (mkF m 202 #[.val (.long q1), .second, .val (.int p2), .val (.int p3), .val (.int p4), .val (.int p5), .val (.ref pw), .val (.int z45), .val (.int z46), .val (.long z47), .second, .val (.int z48), .val (.int w50), .val (.int z52), .unset, .unset, .unset, .unset, .unset, .unset, .unset, .unset, .unset] [(.ref pw), (.long z47), (.int z46), (.int z45), (.int (2 : Int32)), (.int (2 : Int32)), (.ref ar), (.ref ar)]))
    refine Run.go (fun _ k => XS.iload Xg63.here hx rfl (hb hby at_202) rfl  k) ?_
    show Run p e below s 2 28 (Q_rm0 Z q1 p2 p3 p4 p5 h0 n0) (T63.setTop (mkF m 204 #[.val (.long q1), .second, .val (.int p2), .val (.int p3), .val (.int p4), .val (.int p5), .val (.ref pw), .val (.int z45), .val (.int z46), .val (.long z47), .second, .val (.int z48), .val (.int w50), .val (.int z52), .unset, .unset, .unset, .unset, .unset, .unset, .unset, .unset, .unset] [(.int w50), (.ref pw), (.long z47), (.int z46), (.int z45), (.int (2 : Int32)), (.int (2 : Int32)), (.ref ar), (.ref ar)]))
    refine Run.go (fun _ k => XS.iload Xg63.here hx rfl (hb hby at_204) rfl  k) ?_
    show Run p e below s 2 28 (Q_rm0 Z q1 p2 p3 p4 p5 h0 n0) (T63.setTop (mkF m 206 #[.val (.long q1), .second, .val (.int p2), .val (.int p3), .val (.int p4), .val (.int p5), .val (.ref pw), .val (.int z45), .val (.int z46), .val (.long z47), .second, .val (.int z48), .val (.int w50), .val (.int z52), .unset, .unset, .unset, .unset, .unset, .unset, .unset, .unset, .unset] [(.int z48), (.int w50), (.ref pw), (.long z47), (.int z46), (.int z45), (.int (2 : Int32)), (.int (2 : Int32)), (.ref ar), (.ref ar)]))
    refine Run.go (fun _ k => XS.iload Xg63.here hx rfl (hb hby at_206) rfl  k) ?_
    show Run p e below s 2 28 (Q_rm0 Z q1 p2 p3 p4 p5 h0 n0) (T63.setTop (mkF m 208 #[.val (.long q1), .second, .val (.int p2), .val (.int p3), .val (.int p4), .val (.int p5), .val (.ref pw), .val (.int z45), .val (.int z46), .val (.long z47), .second, .val (.int z48), .val (.int w50), .val (.int z52), .unset, .unset, .unset, .unset, .unset, .unset, .unset, .unset, .unset] [(.int z52), (.int z48), (.int w50), (.ref pw), (.long z47), (.int z46), (.int z45), (.int (2 : Int32)), (.int (2 : Int32)), (.ref ar), (.ref ar)]))
    refine Run.go (fun _ k => XS.iload Xg63.here hx rfl (hb hby at_208) rfl  k) ?_
    show Run p e below s 2 28 (Q_rm0 Z q1 p2 p3 p4 p5 h0 n0) (T63.setTop (mkF m 210 #[.val (.long q1), .second, .val (.int p2), .val (.int p3), .val (.int p4), .val (.int p5), .val (.ref pw), .val (.int z45), .val (.int z46), .val (.long z47), .second, .val (.int z48), .val (.int w50), .val (.int z52), .unset, .unset, .unset, .unset, .unset, .unset, .unset, .unset, .unset] [(.int p5), (.int z52), (.int z48), (.int w50), (.ref pw), (.long z47), (.int z46), (.int z45), (.int (2 : Int32)), (.int (2 : Int32)), (.ref ar), (.ref ar)]))
    have fx67 := (fx62.other W63 ne_pw_ar)
    obtain ⟨_, _, ⟨T66, L66, k66, n66⟩, -, X66, ⟨Lc66, hQ66, l66, y66, z66⟩, st66⟩ := Jvm.LawKit.callS Xg63 hx (y := (⟨"com/example/comera/comera/sip/SyntaxUnsigned32PinLaw", "cell", "(IIIJ[JZIBI)B"⟩ : MethodName)) hown (mvT hZ (hw _ (List.mem_of_getElem? (i := 14) rfl))) (mvT hZ (hw _ (List.mem_of_getElem? (i := 15) rfl))) (mvT hZ (hw _ (List.mem_of_getElem? (i := 16) rfl))) (mvT hZ (hw _ (List.mem_of_getElem? (i := 17) rfl))) (by decide) (backOf (W := 3) (rm1 l Z a0 hw [] (2 : Int32) z45 z46 z47 pw w50 z48 z52 p5 ff44 h63 n0 Z63 fx67 hpw (by rw [hz45]; exact (own_s p2).1) (by rw [hz45]; exact (own_s p2).2) (by rw [hz46]; exact (own_ln p2).1) (by rw [hz46]; exact (own_ln p2).2.1) (by rw [hz52]; exact b_idem _)) hZ (hw _ (List.mem_of_getElem? (i := 17) rfl)) (hw _ (List.mem_of_getElem? (i := 16) rfl)) (by decide) (by decide)) (g := (mkF m 210 #[.val (.long q1), .second, .val (.int p2), .val (.int p3), .val (.int p4), .val (.int p5), .val (.ref pw), .val (.int z45), .val (.int z46), .val (.long z47), .second, .val (.int z48), .val (.int w50), .val (.int z52), .unset, .unset, .unset, .unset, .unset, .unset, .unset, .unset, .unset] [(.int p5), (.int z52), (.int z48), (.int w50), (.ref pw), (.long z47), (.int z46), (.int z45), (.int (2 : Int32)), (.int (2 : Int32)), (.ref ar), (.ref ar)])) rfl (by rw [hml]; rfl) (argsL := [(.int (2 : Int32)), (.int z45), (.int z46), (.long z47), (.ref pw), (.int w50), (.int z48), (.int z52), (.int p5)]) (rest := [(.int (2 : Int32)), (.ref ar), (.ref ar)]) (lenOf pd_0 rfl) rfl (by show 2 * 0 + _ ≤ _; exact Nat.le_of_eq rfl) (hb hby at_210) (fun _ _ => ⟨rfl, e63, (by decide : 2 + 0 ≤ _), (by decide : 28 + 0 ≤ _)⟩)
    dsimp only [Pt.U, Pt.locs, Pt.cells, Pt.slots] at X66 l66 y66 z66 st66 hQ66
    subst l66 y66 z66
    obtain ⟨rfl, N66q, e66q⟩ := hQ66
    have N66 := Fr.app Ng63 N66q
    obtain ⟨Lg66, Xg66, Ng66⟩ := Stand_gen X66 N66
    refine Run.go st66 ?_
    show Run p e below s 2 28 (Q_rm0 Z q1 p2 p3 p4 p5 h0 n0) (T66.setTop (mkF m 213 #[.val (.long q1), .second, .val (.int p2), .val (.int p3), .val (.int p4), .val (.int p5), .val (.ref pw), .val (.int z45), .val (.int z46), .val (.long z47), .second, .val (.int z48), .val (.int w50), .val (.int z52), .unset, .unset, .unset, .unset, .unset, .unset, .unset, .unset, .unset] [(.int (F_rm1 (2 : Int32) z45 z46 z47 w50 z48 z52 p5)), (.int (2 : Int32)), (.ref ar), (.ref ar)]))
    obtain ⟨T68, h68, X68, e68, W68, st68⟩ := ary_bset Xg66 hx hZ e66q fx64 (j := (2 : Int32)) (by decide) (by decide) (g := (mkF m 213 #[.val (.long q1), .second, .val (.int p2), .val (.int p3), .val (.int p4), .val (.int p5), .val (.ref pw), .val (.int z45), .val (.int z46), .val (.long z47), .second, .val (.int z48), .val (.int w50), .val (.int z52), .unset, .unset, .unset, .unset, .unset, .unset, .unset, .unset, .unset] [(.int (F_rm1 (2 : Int32) z45 z46 z47 w50 z48 z52 p5)), (.int (2 : Int32)), (.ref ar), (.ref ar)])) rfl rfl (hb hby at_213) (y := (F_rm1 (2 : Int32) z45 z46 z47 w50 z48 z52 p5)) (own_cell_b _ _ _ _ _ _ _ _ (by rw [hz52]; exact b_idem _))
    have N68 := Fr.snoc X68 Ng66 g_ar
    have Z68 : n0 ≤ h68.size := Nat.le_trans Z63 (Keep.of_wr W68).1
    obtain ⟨Lg68, Xg68, Ng68⟩ := Stand_gen X68 N68
    have fx69 : Ary Z h68 ar .byte 16 (fun i => if i = 2 then (.int (F_rm1 (2 : Int32) z45 z46 z47 w50 z48 z52 p5)) else ff65 i) := fx64.same W68
    obtain ⟨ff70, hff70⟩ : ∃ f : Nat → Value, f = (fun i => if i = 2 then (.int (F_rm1 (2 : Int32) z45 z46 z47 w50 z48 z52 p5)) else ff65 i) := ⟨_, rfl⟩
    rw [← hff70] at fx69
    refine Run.go st68 ?_
    show Run p e below s 2 28 (Q_rm0 Z q1 p2 p3 p4 p5 h0 n0) (T68.setTop (mkF m 214 #[.val (.long q1), .second, .val (.int p2), .val (.int p3), .val (.int p4), .val (.int p5), .val (.ref pw), .val (.int z45), .val (.int z46), .val (.long z47), .second, .val (.int z48), .val (.int w50), .val (.int z52), .unset, .unset, .unset, .unset, .unset, .unset, .unset, .unset, .unset] [(.ref ar)]))
    refine Run.go (fun _ k => XS.dup Xg68.here hx rfl (hb hby at_214) rfl rfl k) ?_
    show Run p e below s 2 28 (Q_rm0 Z q1 p2 p3 p4 p5 h0 n0) (T68.setTop (mkF m 215 #[.val (.long q1), .second, .val (.int p2), .val (.int p3), .val (.int p4), .val (.int p5), .val (.ref pw), .val (.int z45), .val (.int z46), .val (.long z47), .second, .val (.int z48), .val (.int w50), .val (.int z52), .unset, .unset, .unset, .unset, .unset, .unset, .unset, .unset, .unset] [(.ref ar), (.ref ar)]))
    refine Run.go (fun _ k => XS.iconst Xg68.here hx rfl (hb hby at_215) k) ?_
    show Run p e below s 2 28 (Q_rm0 Z q1 p2 p3 p4 p5 h0 n0) (T68.setTop (mkF m 216 #[.val (.long q1), .second, .val (.int p2), .val (.int p3), .val (.int p4), .val (.int p5), .val (.ref pw), .val (.int z45), .val (.int z46), .val (.long z47), .second, .val (.int z48), .val (.int w50), .val (.int z52), .unset, .unset, .unset, .unset, .unset, .unset, .unset, .unset, .unset] [(.int (3 : Int32)), (.ref ar), (.ref ar)]))
    refine Run.go (fun _ k => XS.iconst Xg68.here hx rfl (hb hby at_216) k) ?_
    show Run p e below s 2 28 (Q_rm0 Z q1 p2 p3 p4 p5 h0 n0) (T68.setTop (mkF m 217 #[.val (.long q1), .second, .val (.int p2), .val (.int p3), .val (.int p4), .val (.int p5), .val (.ref pw), .val (.int z45), .val (.int z46), .val (.long z47), .second, .val (.int z48), .val (.int w50), .val (.int z52), .unset, .unset, .unset, .unset, .unset, .unset, .unset, .unset, .unset] [(.int (3 : Int32)), (.int (3 : Int32)), (.ref ar), (.ref ar)]))
    refine Run.go (fun _ k => XS.iload Xg68.here hx rfl (hb hby at_217) rfl  k) ?_
    show Run p e below s 2 28 (Q_rm0 Z q1 p2 p3 p4 p5 h0 n0) (T68.setTop (mkF m 219 #[.val (.long q1), .second, .val (.int p2), .val (.int p3), .val (.int p4), .val (.int p5), .val (.ref pw), .val (.int z45), .val (.int z46), .val (.long z47), .second, .val (.int z48), .val (.int w50), .val (.int z52), .unset, .unset, .unset, .unset, .unset, .unset, .unset, .unset, .unset] [(.int z45), (.int (3 : Int32)), (.int (3 : Int32)), (.ref ar), (.ref ar)]))
    refine Run.go (fun _ k => XS.iload Xg68.here hx rfl (hb hby at_219) rfl  k) ?_
    show Run p e below s 2 28 (Q_rm0 Z q1 p2 p3 p4 p5 h0 n0) (T68.setTop (mkF m 221 #[.val (.long q1), .second, .val (.int p2), .val (.int p3), .val (.int p4), .val (.int p5), .val (.ref pw), .val (.int z45), .val (.int z46), .val (.long z47), .second, .val (.int z48), .val (.int w50), .val (.int z52), .unset, .unset, .unset, .unset, .unset, .unset, .unset, .unset, .unset] [(.int z46), (.int z45), (.int (3 : Int32)), (.int (3 : Int32)), (.ref ar), (.ref ar)]))
    refine Run.go (fun _ k => XS.lload Xg68.here hx rfl (hb hby at_221) rfl  k) ?_
    show Run p e below s 2 28 (Q_rm0 Z q1 p2 p3 p4 p5 h0 n0) (T68.setTop (mkF m 223 #[.val (.long q1), .second, .val (.int p2), .val (.int p3), .val (.int p4), .val (.int p5), .val (.ref pw), .val (.int z45), .val (.int z46), .val (.long z47), .second, .val (.int z48), .val (.int w50), .val (.int z52), .unset, .unset, .unset, .unset, .unset, .unset, .unset, .unset, .unset] [(.long z47), (.int z46), (.int z45), (.int (3 : Int32)), (.int (3 : Int32)), (.ref ar), (.ref ar)]))
    refine Run.go (fun _ k => XS.aload Xg68.here hx rfl (hb hby at_223) rfl rfl k) ?_
    show Run p e below s 2 28 (Q_rm0 Z q1 p2 p3 p4 p5 h0 n0) (T68.setTop (mkF m 225 #[.val (.long q1), .second, .val (.int p2), .val (.int p3), .val (.int p4), .val (.int p5), .val (.ref pw), .val (.int z45), .val (.int z46), .val (.long z47), .second, .val (.int z48), .val (.int w50), .val (.int z52), .unset, .unset, .unset, .unset, .unset, .unset, .unset, .unset, .unset] [(.ref pw), (.long z47), (.int z46), (.int z45), (.int (3 : Int32)), (.int (3 : Int32)), (.ref ar), (.ref ar)]))
    refine Run.go (fun _ k => XS.iload Xg68.here hx rfl (hb hby at_225) rfl  k) ?_
    show Run p e below s 2 28 (Q_rm0 Z q1 p2 p3 p4 p5 h0 n0) (T68.setTop (mkF m 227 #[.val (.long q1), .second, .val (.int p2), .val (.int p3), .val (.int p4), .val (.int p5), .val (.ref pw), .val (.int z45), .val (.int z46), .val (.long z47), .second, .val (.int z48), .val (.int w50), .val (.int z52), .unset, .unset, .unset, .unset, .unset, .unset, .unset, .unset, .unset] [(.int w50), (.ref pw), (.long z47), (.int z46), (.int z45), (.int (3 : Int32)), (.int (3 : Int32)), (.ref ar), (.ref ar)]))
    refine Run.go (fun _ k => XS.iload Xg68.here hx rfl (hb hby at_227) rfl  k) ?_
    show Run p e below s 2 28 (Q_rm0 Z q1 p2 p3 p4 p5 h0 n0) (T68.setTop (mkF m 229 #[.val (.long q1), .second, .val (.int p2), .val (.int p3), .val (.int p4), .val (.int p5), .val (.ref pw), .val (.int z45), .val (.int z46), .val (.long z47), .second, .val (.int z48), .val (.int w50), .val (.int z52), .unset, .unset, .unset, .unset, .unset, .unset, .unset, .unset, .unset] [(.int z48), (.int w50), (.ref pw), (.long z47), (.int z46), (.int z45), (.int (3 : Int32)), (.int (3 : Int32)), (.ref ar), (.ref ar)]))
    refine Run.go (fun _ k => XS.iload Xg68.here hx rfl (hb hby at_229) rfl  k) ?_
    show Run p e below s 2 28 (Q_rm0 Z q1 p2 p3 p4 p5 h0 n0) (T68.setTop (mkF m 231 #[.val (.long q1), .second, .val (.int p2), .val (.int p3), .val (.int p4), .val (.int p5), .val (.ref pw), .val (.int z45), .val (.int z46), .val (.long z47), .second, .val (.int z48), .val (.int w50), .val (.int z52), .unset, .unset, .unset, .unset, .unset, .unset, .unset, .unset, .unset] [(.int z52), (.int z48), (.int w50), (.ref pw), (.long z47), (.int z46), (.int z45), (.int (3 : Int32)), (.int (3 : Int32)), (.ref ar), (.ref ar)]))
    refine Run.go (fun _ k => XS.iload Xg68.here hx rfl (hb hby at_231) rfl  k) ?_
    show Run p e below s 2 28 (Q_rm0 Z q1 p2 p3 p4 p5 h0 n0) (T68.setTop (mkF m 233 #[.val (.long q1), .second, .val (.int p2), .val (.int p3), .val (.int p4), .val (.int p5), .val (.ref pw), .val (.int z45), .val (.int z46), .val (.long z47), .second, .val (.int z48), .val (.int w50), .val (.int z52), .unset, .unset, .unset, .unset, .unset, .unset, .unset, .unset, .unset] [(.int p5), (.int z52), (.int z48), (.int w50), (.ref pw), (.long z47), (.int z46), (.int z45), (.int (3 : Int32)), (.int (3 : Int32)), (.ref ar), (.ref ar)]))
    have fx72 := (fx67.other W68 ne_pw_ar)
    obtain ⟨_, _, ⟨T71, L71, k71, n71⟩, -, X71, ⟨Lc71, hQ71, l71, y71, z71⟩, st71⟩ := Jvm.LawKit.callS Xg68 hx (y := (⟨"com/example/comera/comera/sip/SyntaxUnsigned32PinLaw", "cell", "(IIIJ[JZIBI)B"⟩ : MethodName)) hown (mvT hZ (hw _ (List.mem_of_getElem? (i := 14) rfl))) (mvT hZ (hw _ (List.mem_of_getElem? (i := 15) rfl))) (mvT hZ (hw _ (List.mem_of_getElem? (i := 16) rfl))) (mvT hZ (hw _ (List.mem_of_getElem? (i := 17) rfl))) (by decide) (backOf (W := 3) (rm1 l Z a0 hw [] (3 : Int32) z45 z46 z47 pw w50 z48 z52 p5 ff44 h68 n0 Z68 fx72 hpw (by rw [hz45]; exact (own_s p2).1) (by rw [hz45]; exact (own_s p2).2) (by rw [hz46]; exact (own_ln p2).1) (by rw [hz46]; exact (own_ln p2).2.1) (by rw [hz52]; exact b_idem _)) hZ (hw _ (List.mem_of_getElem? (i := 17) rfl)) (hw _ (List.mem_of_getElem? (i := 16) rfl)) (by decide) (by decide)) (g := (mkF m 233 #[.val (.long q1), .second, .val (.int p2), .val (.int p3), .val (.int p4), .val (.int p5), .val (.ref pw), .val (.int z45), .val (.int z46), .val (.long z47), .second, .val (.int z48), .val (.int w50), .val (.int z52), .unset, .unset, .unset, .unset, .unset, .unset, .unset, .unset, .unset] [(.int p5), (.int z52), (.int z48), (.int w50), (.ref pw), (.long z47), (.int z46), (.int z45), (.int (3 : Int32)), (.int (3 : Int32)), (.ref ar), (.ref ar)])) rfl (by rw [hml]; rfl) (argsL := [(.int (3 : Int32)), (.int z45), (.int z46), (.long z47), (.ref pw), (.int w50), (.int z48), (.int z52), (.int p5)]) (rest := [(.int (3 : Int32)), (.ref ar), (.ref ar)]) (lenOf pd_0 rfl) rfl (by show 2 * 0 + _ ≤ _; exact Nat.le_of_eq rfl) (hb hby at_233) (fun _ _ => ⟨rfl, e68, (by decide : 2 + 0 ≤ _), (by decide : 28 + 0 ≤ _)⟩)
    dsimp only [Pt.U, Pt.locs, Pt.cells, Pt.slots] at X71 l71 y71 z71 st71 hQ71
    subst l71 y71 z71
    obtain ⟨rfl, N71q, e71q⟩ := hQ71
    have N71 := Fr.app Ng68 N71q
    obtain ⟨Lg71, Xg71, Ng71⟩ := Stand_gen X71 N71
    refine Run.go st71 ?_
    show Run p e below s 2 28 (Q_rm0 Z q1 p2 p3 p4 p5 h0 n0) (T71.setTop (mkF m 236 #[.val (.long q1), .second, .val (.int p2), .val (.int p3), .val (.int p4), .val (.int p5), .val (.ref pw), .val (.int z45), .val (.int z46), .val (.long z47), .second, .val (.int z48), .val (.int w50), .val (.int z52), .unset, .unset, .unset, .unset, .unset, .unset, .unset, .unset, .unset] [(.int (F_rm1 (3 : Int32) z45 z46 z47 w50 z48 z52 p5)), (.int (3 : Int32)), (.ref ar), (.ref ar)]))
    obtain ⟨T73, h73, X73, e73, W73, st73⟩ := ary_bset Xg71 hx hZ e71q fx69 (j := (3 : Int32)) (by decide) (by decide) (g := (mkF m 236 #[.val (.long q1), .second, .val (.int p2), .val (.int p3), .val (.int p4), .val (.int p5), .val (.ref pw), .val (.int z45), .val (.int z46), .val (.long z47), .second, .val (.int z48), .val (.int w50), .val (.int z52), .unset, .unset, .unset, .unset, .unset, .unset, .unset, .unset, .unset] [(.int (F_rm1 (3 : Int32) z45 z46 z47 w50 z48 z52 p5)), (.int (3 : Int32)), (.ref ar), (.ref ar)])) rfl rfl (hb hby at_236) (y := (F_rm1 (3 : Int32) z45 z46 z47 w50 z48 z52 p5)) (own_cell_b _ _ _ _ _ _ _ _ (by rw [hz52]; exact b_idem _))
    have N73 := Fr.snoc X73 Ng71 g_ar
    have Z73 : n0 ≤ h73.size := Nat.le_trans Z68 (Keep.of_wr W73).1
    obtain ⟨Lg73, Xg73, Ng73⟩ := Stand_gen X73 N73
    have fx74 : Ary Z h73 ar .byte 16 (fun i => if i = 3 then (.int (F_rm1 (3 : Int32) z45 z46 z47 w50 z48 z52 p5)) else ff70 i) := fx69.same W73
    obtain ⟨ff75, hff75⟩ : ∃ f : Nat → Value, f = (fun i => if i = 3 then (.int (F_rm1 (3 : Int32) z45 z46 z47 w50 z48 z52 p5)) else ff70 i) := ⟨_, rfl⟩
    rw [← hff75] at fx74
    refine Run.go st73 ?_
    show Run p e below s 2 28 (Q_rm0 Z q1 p2 p3 p4 p5 h0 n0) (T73.setTop (mkF m 237 #[.val (.long q1), .second, .val (.int p2), .val (.int p3), .val (.int p4), .val (.int p5), .val (.ref pw), .val (.int z45), .val (.int z46), .val (.long z47), .second, .val (.int z48), .val (.int w50), .val (.int z52), .unset, .unset, .unset, .unset, .unset, .unset, .unset, .unset, .unset] [(.ref ar)]))
    refine Run.go (fun _ k => XS.dup Xg73.here hx rfl (hb hby at_237) rfl rfl k) ?_
    show Run p e below s 2 28 (Q_rm0 Z q1 p2 p3 p4 p5 h0 n0) (T73.setTop (mkF m 238 #[.val (.long q1), .second, .val (.int p2), .val (.int p3), .val (.int p4), .val (.int p5), .val (.ref pw), .val (.int z45), .val (.int z46), .val (.long z47), .second, .val (.int z48), .val (.int w50), .val (.int z52), .unset, .unset, .unset, .unset, .unset, .unset, .unset, .unset, .unset] [(.ref ar), (.ref ar)]))
    refine Run.go (fun _ k => XS.iconst Xg73.here hx rfl (hb hby at_238) k) ?_
    show Run p e below s 2 28 (Q_rm0 Z q1 p2 p3 p4 p5 h0 n0) (T73.setTop (mkF m 239 #[.val (.long q1), .second, .val (.int p2), .val (.int p3), .val (.int p4), .val (.int p5), .val (.ref pw), .val (.int z45), .val (.int z46), .val (.long z47), .second, .val (.int z48), .val (.int w50), .val (.int z52), .unset, .unset, .unset, .unset, .unset, .unset, .unset, .unset, .unset] [(.int (4 : Int32)), (.ref ar), (.ref ar)]))
    refine Run.go (fun _ k => XS.iconst Xg73.here hx rfl (hb hby at_239) k) ?_
    show Run p e below s 2 28 (Q_rm0 Z q1 p2 p3 p4 p5 h0 n0) (T73.setTop (mkF m 240 #[.val (.long q1), .second, .val (.int p2), .val (.int p3), .val (.int p4), .val (.int p5), .val (.ref pw), .val (.int z45), .val (.int z46), .val (.long z47), .second, .val (.int z48), .val (.int w50), .val (.int z52), .unset, .unset, .unset, .unset, .unset, .unset, .unset, .unset, .unset] [(.int (4 : Int32)), (.int (4 : Int32)), (.ref ar), (.ref ar)]))
    refine Run.go (fun _ k => XS.iload Xg73.here hx rfl (hb hby at_240) rfl  k) ?_
    show Run p e below s 2 28 (Q_rm0 Z q1 p2 p3 p4 p5 h0 n0) (T73.setTop (mkF m 242 #[.val (.long q1), .second, .val (.int p2), .val (.int p3), .val (.int p4), .val (.int p5), .val (.ref pw), .val (.int z45), .val (.int z46), .val (.long z47), .second, .val (.int z48), .val (.int w50), .val (.int z52), .unset, .unset, .unset, .unset, .unset, .unset, .unset, .unset, .unset] [(.int z45), (.int (4 : Int32)), (.int (4 : Int32)), (.ref ar), (.ref ar)]))
    refine Run.go (fun _ k => XS.iload Xg73.here hx rfl (hb hby at_242) rfl  k) ?_
    show Run p e below s 2 28 (Q_rm0 Z q1 p2 p3 p4 p5 h0 n0) (T73.setTop (mkF m 244 #[.val (.long q1), .second, .val (.int p2), .val (.int p3), .val (.int p4), .val (.int p5), .val (.ref pw), .val (.int z45), .val (.int z46), .val (.long z47), .second, .val (.int z48), .val (.int w50), .val (.int z52), .unset, .unset, .unset, .unset, .unset, .unset, .unset, .unset, .unset] [(.int z46), (.int z45), (.int (4 : Int32)), (.int (4 : Int32)), (.ref ar), (.ref ar)]))
    refine Run.go (fun _ k => XS.lload Xg73.here hx rfl (hb hby at_244) rfl  k) ?_
    show Run p e below s 2 28 (Q_rm0 Z q1 p2 p3 p4 p5 h0 n0) (T73.setTop (mkF m 246 #[.val (.long q1), .second, .val (.int p2), .val (.int p3), .val (.int p4), .val (.int p5), .val (.ref pw), .val (.int z45), .val (.int z46), .val (.long z47), .second, .val (.int z48), .val (.int w50), .val (.int z52), .unset, .unset, .unset, .unset, .unset, .unset, .unset, .unset, .unset] [(.long z47), (.int z46), (.int z45), (.int (4 : Int32)), (.int (4 : Int32)), (.ref ar), (.ref ar)]))
    refine Run.go (fun _ k => XS.aload Xg73.here hx rfl (hb hby at_246) rfl rfl k) ?_
    show Run p e below s 2 28 (Q_rm0 Z q1 p2 p3 p4 p5 h0 n0) (T73.setTop (mkF m 248 #[.val (.long q1), .second, .val (.int p2), .val (.int p3), .val (.int p4), .val (.int p5), .val (.ref pw), .val (.int z45), .val (.int z46), .val (.long z47), .second, .val (.int z48), .val (.int w50), .val (.int z52), .unset, .unset, .unset, .unset, .unset, .unset, .unset, .unset, .unset] [(.ref pw), (.long z47), (.int z46), (.int z45), (.int (4 : Int32)), (.int (4 : Int32)), (.ref ar), (.ref ar)]))
    refine Run.go (fun _ k => XS.iload Xg73.here hx rfl (hb hby at_248) rfl  k) ?_
    show Run p e below s 2 28 (Q_rm0 Z q1 p2 p3 p4 p5 h0 n0) (T73.setTop (mkF m 250 #[.val (.long q1), .second, .val (.int p2), .val (.int p3), .val (.int p4), .val (.int p5), .val (.ref pw), .val (.int z45), .val (.int z46), .val (.long z47), .second, .val (.int z48), .val (.int w50), .val (.int z52), .unset, .unset, .unset, .unset, .unset, .unset, .unset, .unset, .unset] [(.int w50), (.ref pw), (.long z47), (.int z46), (.int z45), (.int (4 : Int32)), (.int (4 : Int32)), (.ref ar), (.ref ar)]))
    refine Run.go (fun _ k => XS.iload Xg73.here hx rfl (hb hby at_250) rfl  k) ?_
    show Run p e below s 2 28 (Q_rm0 Z q1 p2 p3 p4 p5 h0 n0) (T73.setTop (mkF m 252 #[.val (.long q1), .second, .val (.int p2), .val (.int p3), .val (.int p4), .val (.int p5), .val (.ref pw), .val (.int z45), .val (.int z46), .val (.long z47), .second, .val (.int z48), .val (.int w50), .val (.int z52), .unset, .unset, .unset, .unset, .unset, .unset, .unset, .unset, .unset] [(.int z48), (.int w50), (.ref pw), (.long z47), (.int z46), (.int z45), (.int (4 : Int32)), (.int (4 : Int32)), (.ref ar), (.ref ar)]))
    refine Run.go (fun _ k => XS.iload Xg73.here hx rfl (hb hby at_252) rfl  k) ?_
    show Run p e below s 2 28 (Q_rm0 Z q1 p2 p3 p4 p5 h0 n0) (T73.setTop (mkF m 254 #[.val (.long q1), .second, .val (.int p2), .val (.int p3), .val (.int p4), .val (.int p5), .val (.ref pw), .val (.int z45), .val (.int z46), .val (.long z47), .second, .val (.int z48), .val (.int w50), .val (.int z52), .unset, .unset, .unset, .unset, .unset, .unset, .unset, .unset, .unset] [(.int z52), (.int z48), (.int w50), (.ref pw), (.long z47), (.int z46), (.int z45), (.int (4 : Int32)), (.int (4 : Int32)), (.ref ar), (.ref ar)]))
    refine Run.go (fun _ k => XS.iload Xg73.here hx rfl (hb hby at_254) rfl  k) ?_
    show Run p e below s 2 28 (Q_rm0 Z q1 p2 p3 p4 p5 h0 n0) (T73.setTop (mkF m 256 #[.val (.long q1), .second, .val (.int p2), .val (.int p3), .val (.int p4), .val (.int p5), .val (.ref pw), .val (.int z45), .val (.int z46), .val (.long z47), .second, .val (.int z48), .val (.int w50), .val (.int z52), .unset, .unset, .unset, .unset, .unset, .unset, .unset, .unset, .unset] [(.int p5), (.int z52), (.int z48), (.int w50), (.ref pw), (.long z47), (.int z46), (.int z45), (.int (4 : Int32)), (.int (4 : Int32)), (.ref ar), (.ref ar)]))
    have fx77 := (fx72.other W73 ne_pw_ar)
    obtain ⟨_, _, ⟨T76, L76, k76, n76⟩, -, X76, ⟨Lc76, hQ76, l76, y76, z76⟩, st76⟩ := Jvm.LawKit.callS Xg73 hx (y := (⟨"com/example/comera/comera/sip/SyntaxUnsigned32PinLaw", "cell", "(IIIJ[JZIBI)B"⟩ : MethodName)) hown (mvT hZ (hw _ (List.mem_of_getElem? (i := 14) rfl))) (mvT hZ (hw _ (List.mem_of_getElem? (i := 15) rfl))) (mvT hZ (hw _ (List.mem_of_getElem? (i := 16) rfl))) (mvT hZ (hw _ (List.mem_of_getElem? (i := 17) rfl))) (by decide) (backOf (W := 3) (rm1 l Z a0 hw [] (4 : Int32) z45 z46 z47 pw w50 z48 z52 p5 ff44 h73 n0 Z73 fx77 hpw (by rw [hz45]; exact (own_s p2).1) (by rw [hz45]; exact (own_s p2).2) (by rw [hz46]; exact (own_ln p2).1) (by rw [hz46]; exact (own_ln p2).2.1) (by rw [hz52]; exact b_idem _)) hZ (hw _ (List.mem_of_getElem? (i := 17) rfl)) (hw _ (List.mem_of_getElem? (i := 16) rfl)) (by decide) (by decide)) (g := (mkF m 256 #[.val (.long q1), .second, .val (.int p2), .val (.int p3), .val (.int p4), .val (.int p5), .val (.ref pw), .val (.int z45), .val (.int z46), .val (.long z47), .second, .val (.int z48), .val (.int w50), .val (.int z52), .unset, .unset, .unset, .unset, .unset, .unset, .unset, .unset, .unset] [(.int p5), (.int z52), (.int z48), (.int w50), (.ref pw), (.long z47), (.int z46), (.int z45), (.int (4 : Int32)), (.int (4 : Int32)), (.ref ar), (.ref ar)])) rfl (by rw [hml]; rfl) (argsL := [(.int (4 : Int32)), (.int z45), (.int z46), (.long z47), (.ref pw), (.int w50), (.int z48), (.int z52), (.int p5)]) (rest := [(.int (4 : Int32)), (.ref ar), (.ref ar)]) (lenOf pd_0 rfl) rfl (by show 2 * 0 + _ ≤ _; exact Nat.le_of_eq rfl) (hb hby at_256) (fun _ _ => ⟨rfl, e73, (by decide : 2 + 0 ≤ _), (by decide : 28 + 0 ≤ _)⟩)
    dsimp only [Pt.U, Pt.locs, Pt.cells, Pt.slots] at X76 l76 y76 z76 st76 hQ76
    subst l76 y76 z76
    obtain ⟨rfl, N76q, e76q⟩ := hQ76
    have N76 := Fr.app Ng73 N76q
    obtain ⟨Lg76, Xg76, Ng76⟩ := Stand_gen X76 N76
    refine Run.go st76 ?_
    show Run p e below s 2 28 (Q_rm0 Z q1 p2 p3 p4 p5 h0 n0) (T76.setTop (mkF m 259 #[.val (.long q1), .second, .val (.int p2), .val (.int p3), .val (.int p4), .val (.int p5), .val (.ref pw), .val (.int z45), .val (.int z46), .val (.long z47), .second, .val (.int z48), .val (.int w50), .val (.int z52), .unset, .unset, .unset, .unset, .unset, .unset, .unset, .unset, .unset] [(.int (F_rm1 (4 : Int32) z45 z46 z47 w50 z48 z52 p5)), (.int (4 : Int32)), (.ref ar), (.ref ar)]))
    obtain ⟨T78, h78, X78, e78, W78, st78⟩ := ary_bset Xg76 hx hZ e76q fx74 (j := (4 : Int32)) (by decide) (by decide) (g := (mkF m 259 #[.val (.long q1), .second, .val (.int p2), .val (.int p3), .val (.int p4), .val (.int p5), .val (.ref pw), .val (.int z45), .val (.int z46), .val (.long z47), .second, .val (.int z48), .val (.int w50), .val (.int z52), .unset, .unset, .unset, .unset, .unset, .unset, .unset, .unset, .unset] [(.int (F_rm1 (4 : Int32) z45 z46 z47 w50 z48 z52 p5)), (.int (4 : Int32)), (.ref ar), (.ref ar)])) rfl rfl (hb hby at_259) (y := (F_rm1 (4 : Int32) z45 z46 z47 w50 z48 z52 p5)) (own_cell_b _ _ _ _ _ _ _ _ (by rw [hz52]; exact b_idem _))
    have N78 := Fr.snoc X78 Ng76 g_ar
    have Z78 : n0 ≤ h78.size := Nat.le_trans Z73 (Keep.of_wr W78).1
    obtain ⟨Lg78, Xg78, Ng78⟩ := Stand_gen X78 N78
    have fx79 : Ary Z h78 ar .byte 16 (fun i => if i = 4 then (.int (F_rm1 (4 : Int32) z45 z46 z47 w50 z48 z52 p5)) else ff75 i) := fx74.same W78
    obtain ⟨ff80, hff80⟩ : ∃ f : Nat → Value, f = (fun i => if i = 4 then (.int (F_rm1 (4 : Int32) z45 z46 z47 w50 z48 z52 p5)) else ff75 i) := ⟨_, rfl⟩
    rw [← hff80] at fx79
    refine Run.go st78 ?_
    show Run p e below s 2 28 (Q_rm0 Z q1 p2 p3 p4 p5 h0 n0) (T78.setTop (mkF m 260 #[.val (.long q1), .second, .val (.int p2), .val (.int p3), .val (.int p4), .val (.int p5), .val (.ref pw), .val (.int z45), .val (.int z46), .val (.long z47), .second, .val (.int z48), .val (.int w50), .val (.int z52), .unset, .unset, .unset, .unset, .unset, .unset, .unset, .unset, .unset] [(.ref ar)]))
    refine Run.go (fun _ k => XS.dup Xg78.here hx rfl (hb hby at_260) rfl rfl k) ?_
    show Run p e below s 2 28 (Q_rm0 Z q1 p2 p3 p4 p5 h0 n0) (T78.setTop (mkF m 261 #[.val (.long q1), .second, .val (.int p2), .val (.int p3), .val (.int p4), .val (.int p5), .val (.ref pw), .val (.int z45), .val (.int z46), .val (.long z47), .second, .val (.int z48), .val (.int w50), .val (.int z52), .unset, .unset, .unset, .unset, .unset, .unset, .unset, .unset, .unset] [(.ref ar), (.ref ar)]))
    refine Run.go (fun _ k => XS.iconst Xg78.here hx rfl (hb hby at_261) k) ?_
    show Run p e below s 2 28 (Q_rm0 Z q1 p2 p3 p4 p5 h0 n0) (T78.setTop (mkF m 262 #[.val (.long q1), .second, .val (.int p2), .val (.int p3), .val (.int p4), .val (.int p5), .val (.ref pw), .val (.int z45), .val (.int z46), .val (.long z47), .second, .val (.int z48), .val (.int w50), .val (.int z52), .unset, .unset, .unset, .unset, .unset, .unset, .unset, .unset, .unset] [(.int (5 : Int32)), (.ref ar), (.ref ar)]))
    refine Run.go (fun _ k => XS.iconst Xg78.here hx rfl (hb hby at_262) k) ?_
    show Run p e below s 2 28 (Q_rm0 Z q1 p2 p3 p4 p5 h0 n0) (T78.setTop (mkF m 263 #[.val (.long q1), .second, .val (.int p2), .val (.int p3), .val (.int p4), .val (.int p5), .val (.ref pw), .val (.int z45), .val (.int z46), .val (.long z47), .second, .val (.int z48), .val (.int w50), .val (.int z52), .unset, .unset, .unset, .unset, .unset, .unset, .unset, .unset, .unset] [(.int (5 : Int32)), (.int (5 : Int32)), (.ref ar), (.ref ar)]))
    refine Run.go (fun _ k => XS.iload Xg78.here hx rfl (hb hby at_263) rfl  k) ?_
    show Run p e below s 2 28 (Q_rm0 Z q1 p2 p3 p4 p5 h0 n0) (T78.setTop (mkF m 265 #[.val (.long q1), .second, .val (.int p2), .val (.int p3), .val (.int p4), .val (.int p5), .val (.ref pw), .val (.int z45), .val (.int z46), .val (.long z47), .second, .val (.int z48), .val (.int w50), .val (.int z52), .unset, .unset, .unset, .unset, .unset, .unset, .unset, .unset, .unset] [(.int z45), (.int (5 : Int32)), (.int (5 : Int32)), (.ref ar), (.ref ar)]))
    refine Run.go (fun _ k => XS.iload Xg78.here hx rfl (hb hby at_265) rfl  k) ?_
    show Run p e below s 2 28 (Q_rm0 Z q1 p2 p3 p4 p5 h0 n0) (T78.setTop (mkF m 267 #[.val (.long q1), .second, .val (.int p2), .val (.int p3), .val (.int p4), .val (.int p5), .val (.ref pw), .val (.int z45), .val (.int z46), .val (.long z47), .second, .val (.int z48), .val (.int w50), .val (.int z52), .unset, .unset, .unset, .unset, .unset, .unset, .unset, .unset, .unset] [(.int z46), (.int z45), (.int (5 : Int32)), (.int (5 : Int32)), (.ref ar), (.ref ar)]))
    refine Run.go (fun _ k => XS.lload Xg78.here hx rfl (hb hby at_267) rfl  k) ?_
    show Run p e below s 2 28 (Q_rm0 Z q1 p2 p3 p4 p5 h0 n0) (T78.setTop (mkF m 269 #[.val (.long q1), .second, .val (.int p2), .val (.int p3), .val (.int p4), .val (.int p5), .val (.ref pw), .val (.int z45), .val (.int z46), .val (.long z47), .second, .val (.int z48), .val (.int w50), .val (.int z52), .unset, .unset, .unset, .unset, .unset, .unset, .unset, .unset, .unset] [(.long z47), (.int z46), (.int z45), (.int (5 : Int32)), (.int (5 : Int32)), (.ref ar), (.ref ar)]))
    refine Run.go (fun _ k => XS.aload Xg78.here hx rfl (hb hby at_269) rfl rfl k) ?_
    show Run p e below s 2 28 (Q_rm0 Z q1 p2 p3 p4 p5 h0 n0) (T78.setTop (mkF m 271 #[.val (.long q1), .second, .val (.int p2), .val (.int p3), .val (.int p4), .val (.int p5), .val (.ref pw), .val (.int z45), .val (.int z46), .val (.long z47), .second, .val (.int z48), .val (.int w50), .val (.int z52), .unset, .unset, .unset, .unset, .unset, .unset, .unset, .unset, .unset] [(.ref pw), (.long z47), (.int z46), (.int z45), (.int (5 : Int32)), (.int (5 : Int32)), (.ref ar), (.ref ar)]))
    refine Run.go (fun _ k => XS.iload Xg78.here hx rfl (hb hby at_271) rfl  k) ?_
    show Run p e below s 2 28 (Q_rm0 Z q1 p2 p3 p4 p5 h0 n0) (T78.setTop (mkF m 273 #[.val (.long q1), .second, .val (.int p2), .val (.int p3), .val (.int p4), .val (.int p5), .val (.ref pw), .val (.int z45), .val (.int z46), .val (.long z47), .second, .val (.int z48), .val (.int w50), .val (.int z52), .unset, .unset, .unset, .unset, .unset, .unset, .unset, .unset, .unset] [(.int w50), (.ref pw), (.long z47), (.int z46), (.int z45), (.int (5 : Int32)), (.int (5 : Int32)), (.ref ar), (.ref ar)]))
    refine Run.go (fun _ k => XS.iload Xg78.here hx rfl (hb hby at_273) rfl  k) ?_
    show Run p e below s 2 28 (Q_rm0 Z q1 p2 p3 p4 p5 h0 n0) (T78.setTop (mkF m 275 #[.val (.long q1), .second, .val (.int p2), .val (.int p3), .val (.int p4), .val (.int p5), .val (.ref pw), .val (.int z45), .val (.int z46), .val (.long z47), .second, .val (.int z48), .val (.int w50), .val (.int z52), .unset, .unset, .unset, .unset, .unset, .unset, .unset, .unset, .unset] [(.int z48), (.int w50), (.ref pw), (.long z47), (.int z46), (.int z45), (.int (5 : Int32)), (.int (5 : Int32)), (.ref ar), (.ref ar)]))
    refine Run.go (fun _ k => XS.iload Xg78.here hx rfl (hb hby at_275) rfl  k) ?_
    show Run p e below s 2 28 (Q_rm0 Z q1 p2 p3 p4 p5 h0 n0) (T78.setTop (mkF m 277 #[.val (.long q1), .second, .val (.int p2), .val (.int p3), .val (.int p4), .val (.int p5), .val (.ref pw), .val (.int z45), .val (.int z46), .val (.long z47), .second, .val (.int z48), .val (.int w50), .val (.int z52), .unset, .unset, .unset, .unset, .unset, .unset, .unset, .unset, .unset] [(.int z52), (.int z48), (.int w50), (.ref pw), (.long z47), (.int z46), (.int z45), (.int (5 : Int32)), (.int (5 : Int32)), (.ref ar), (.ref ar)]))
    refine Run.go (fun _ k => XS.iload Xg78.here hx rfl (hb hby at_277) rfl  k) ?_
    show Run p e below s 2 28 (Q_rm0 Z q1 p2 p3 p4 p5 h0 n0) (T78.setTop (mkF m 279 #[.val (.long q1), .second, .val (.int p2), .val (.int p3), .val (.int p4), .val (.int p5), .val (.ref pw), .val (.int z45), .val (.int z46), .val (.long z47), .second, .val (.int z48), .val (.int w50), .val (.int z52), .unset, .unset, .unset, .unset, .unset, .unset, .unset, .unset, .unset] [(.int p5), (.int z52), (.int z48), (.int w50), (.ref pw), (.long z47), (.int z46), (.int z45), (.int (5 : Int32)), (.int (5 : Int32)), (.ref ar), (.ref ar)]))
    have fx82 := (fx77.other W78 ne_pw_ar)
    obtain ⟨_, _, ⟨T81, L81, k81, n81⟩, -, X81, ⟨Lc81, hQ81, l81, y81, z81⟩, st81⟩ := Jvm.LawKit.callS Xg78 hx (y := (⟨"com/example/comera/comera/sip/SyntaxUnsigned32PinLaw", "cell", "(IIIJ[JZIBI)B"⟩ : MethodName)) hown (mvT hZ (hw _ (List.mem_of_getElem? (i := 14) rfl))) (mvT hZ (hw _ (List.mem_of_getElem? (i := 15) rfl))) (mvT hZ (hw _ (List.mem_of_getElem? (i := 16) rfl))) (mvT hZ (hw _ (List.mem_of_getElem? (i := 17) rfl))) (by decide) (backOf (W := 3) (rm1 l Z a0 hw [] (5 : Int32) z45 z46 z47 pw w50 z48 z52 p5 ff44 h78 n0 Z78 fx82 hpw (by rw [hz45]; exact (own_s p2).1) (by rw [hz45]; exact (own_s p2).2) (by rw [hz46]; exact (own_ln p2).1) (by rw [hz46]; exact (own_ln p2).2.1) (by rw [hz52]; exact b_idem _)) hZ (hw _ (List.mem_of_getElem? (i := 17) rfl)) (hw _ (List.mem_of_getElem? (i := 16) rfl)) (by decide) (by decide)) (g := (mkF m 279 #[.val (.long q1), .second, .val (.int p2), .val (.int p3), .val (.int p4), .val (.int p5), .val (.ref pw), .val (.int z45), .val (.int z46), .val (.long z47), .second, .val (.int z48), .val (.int w50), .val (.int z52), .unset, .unset, .unset, .unset, .unset, .unset, .unset, .unset, .unset] [(.int p5), (.int z52), (.int z48), (.int w50), (.ref pw), (.long z47), (.int z46), (.int z45), (.int (5 : Int32)), (.int (5 : Int32)), (.ref ar), (.ref ar)])) rfl (by rw [hml]; rfl) (argsL := [(.int (5 : Int32)), (.int z45), (.int z46), (.long z47), (.ref pw), (.int w50), (.int z48), (.int z52), (.int p5)]) (rest := [(.int (5 : Int32)), (.ref ar), (.ref ar)]) (lenOf pd_0 rfl) rfl (by show 2 * 0 + _ ≤ _; exact Nat.le_of_eq rfl) (hb hby at_279) (fun _ _ => ⟨rfl, e78, (by decide : 2 + 0 ≤ _), (by decide : 28 + 0 ≤ _)⟩)
    dsimp only [Pt.U, Pt.locs, Pt.cells, Pt.slots] at X81 l81 y81 z81 st81 hQ81
    subst l81 y81 z81
    obtain ⟨rfl, N81q, e81q⟩ := hQ81
    have N81 := Fr.app Ng78 N81q
    obtain ⟨Lg81, Xg81, Ng81⟩ := Stand_gen X81 N81
    refine Run.go st81 ?_
    show Run p e below s 2 28 (Q_rm0 Z q1 p2 p3 p4 p5 h0 n0) (T81.setTop (mkF m 282 #[.val (.long q1), .second, .val (.int p2), .val (.int p3), .val (.int p4), .val (.int p5), .val (.ref pw), .val (.int z45), .val (.int z46), .val (.long z47), .second, .val (.int z48), .val (.int w50), .val (.int z52), .unset, .unset, .unset, .unset, .unset, .unset, .unset, .unset, .unset] [(.int (F_rm1 (5 : Int32) z45 z46 z47 w50 z48 z52 p5)), (.int (5 : Int32)), (.ref ar), (.ref ar)]))
    obtain ⟨T83, h83, X83, e83, W83, st83⟩ := ary_bset Xg81 hx hZ e81q fx79 (j := (5 : Int32)) (by decide) (by decide) (g := (mkF m 282 #[.val (.long q1), .second, .val (.int p2), .val (.int p3), .val (.int p4), .val (.int p5), .val (.ref pw), .val (.int z45), .val (.int z46), .val (.long z47), .second, .val (.int z48), .val (.int w50), .val (.int z52), .unset, .unset, .unset, .unset, .unset, .unset, .unset, .unset, .unset] [(.int (F_rm1 (5 : Int32) z45 z46 z47 w50 z48 z52 p5)), (.int (5 : Int32)), (.ref ar), (.ref ar)])) rfl rfl (hb hby at_282) (y := (F_rm1 (5 : Int32) z45 z46 z47 w50 z48 z52 p5)) (own_cell_b _ _ _ _ _ _ _ _ (by rw [hz52]; exact b_idem _))
    have N83 := Fr.snoc X83 Ng81 g_ar
    have Z83 : n0 ≤ h83.size := Nat.le_trans Z78 (Keep.of_wr W83).1
    obtain ⟨Lg83, Xg83, Ng83⟩ := Stand_gen X83 N83
    have fx84 : Ary Z h83 ar .byte 16 (fun i => if i = 5 then (.int (F_rm1 (5 : Int32) z45 z46 z47 w50 z48 z52 p5)) else ff80 i) := fx79.same W83
    obtain ⟨ff85, hff85⟩ : ∃ f : Nat → Value, f = (fun i => if i = 5 then (.int (F_rm1 (5 : Int32) z45 z46 z47 w50 z48 z52 p5)) else ff80 i) := ⟨_, rfl⟩
    rw [← hff85] at fx84
    refine Run.go st83 ?_
    show Run p e below s 2 28 (Q_rm0 Z q1 p2 p3 p4 p5 h0 n0) (T83.setTop (mkF m 283 #[.val (.long q1), .second, .val (.int p2), .val (.int p3), .val (.int p4), .val (.int p5), .val (.ref pw), .val (.int z45), .val (.int z46), .val (.long z47), .second, .val (.int z48), .val (.int w50), .val (.int z52), .unset, .unset, .unset, .unset, .unset, .unset, .unset, .unset, .unset] [(.ref ar)]))
    refine Run.go (fun _ k => XS.dup Xg83.here hx rfl (hb hby at_283) rfl rfl k) ?_
    show Run p e below s 2 28 (Q_rm0 Z q1 p2 p3 p4 p5 h0 n0) (T83.setTop (mkF m 284 #[.val (.long q1), .second, .val (.int p2), .val (.int p3), .val (.int p4), .val (.int p5), .val (.ref pw), .val (.int z45), .val (.int z46), .val (.long z47), .second, .val (.int z48), .val (.int w50), .val (.int z52), .unset, .unset, .unset, .unset, .unset, .unset, .unset, .unset, .unset] [(.ref ar), (.ref ar)]))
    refine Run.go (fun _ k => XS.bipush Xg83.here hx rfl (hb hby at_284) k) ?_
    show Run p e below s 2 28 (Q_rm0 Z q1 p2 p3 p4 p5 h0 n0) (T83.setTop (mkF m 286 #[.val (.long q1), .second, .val (.int p2), .val (.int p3), .val (.int p4), .val (.int p5), .val (.ref pw), .val (.int z45), .val (.int z46), .val (.long z47), .second, .val (.int z48), .val (.int w50), .val (.int z52), .unset, .unset, .unset, .unset, .unset, .unset, .unset, .unset, .unset] [(.int (6 : Int32)), (.ref ar), (.ref ar)]))
    refine Run.go (fun _ k => XS.bipush Xg83.here hx rfl (hb hby at_286) k) ?_
    show Run p e below s 2 28 (Q_rm0 Z q1 p2 p3 p4 p5 h0 n0) (T83.setTop (mkF m 288 #[.val (.long q1), .second, .val (.int p2), .val (.int p3), .val (.int p4), .val (.int p5), .val (.ref pw), .val (.int z45), .val (.int z46), .val (.long z47), .second, .val (.int z48), .val (.int w50), .val (.int z52), .unset, .unset, .unset, .unset, .unset, .unset, .unset, .unset, .unset] [(.int (6 : Int32)), (.int (6 : Int32)), (.ref ar), (.ref ar)]))
    refine Run.go (fun _ k => XS.iload Xg83.here hx rfl (hb hby at_288) rfl  k) ?_
    show Run p e below s 2 28 (Q_rm0 Z q1 p2 p3 p4 p5 h0 n0) (T83.setTop (mkF m 290 #[.val (.long q1), .second, .val (.int p2), .val (.int p3), .val (.int p4), .val (.int p5), .val (.ref pw), .val (.int z45), .val (.int z46), .val (.long z47), .second, .val (.int z48), .val (.int w50), .val (.int z52), .unset, .unset, .unset, .unset, .unset, .unset, .unset, .unset, .unset] [(.int z45), (.int (6 : Int32)), (.int (6 : Int32)), (.ref ar), (.ref ar)]))
    refine Run.go (fun _ k => XS.iload Xg83.here hx rfl (hb hby at_290) rfl  k) ?_
    show Run p e below s 2 28 (Q_rm0 Z q1 p2 p3 p4 p5 h0 n0) (T83.setTop (mkF m 292 #[.val (.long q1), .second, .val (.int p2), .val (.int p3), .val (.int p4), .val (.int p5), .val (.ref pw), .val (.int z45), .val (.int z46), .val (.long z47), .second, .val (.int z48), .val (.int w50), .val (.int z52), .unset, .unset, .unset, .unset, .unset, .unset, .unset, .unset, .unset] [(.int z46), (.int z45), (.int (6 : Int32)), (.int (6 : Int32)), (.ref ar), (.ref ar)]))
    refine Run.go (fun _ k => XS.lload Xg83.here hx rfl (hb hby at_292) rfl  k) ?_
    show Run p e below s 2 28 (Q_rm0 Z q1 p2 p3 p4 p5 h0 n0) (T83.setTop (mkF m 294 #[.val (.long q1), .second, .val (.int p2), .val (.int p3), .val (.int p4), .val (.int p5), .val (.ref pw), .val (.int z45), .val (.int z46), .val (.long z47), .second, .val (.int z48), .val (.int w50), .val (.int z52), .unset, .unset, .unset, .unset, .unset, .unset, .unset, .unset, .unset] [(.long z47), (.int z46), (.int z45), (.int (6 : Int32)), (.int (6 : Int32)), (.ref ar), (.ref ar)]))
    refine Run.go (fun _ k => XS.aload Xg83.here hx rfl (hb hby at_294) rfl rfl k) ?_
    show Run p e below s 2 28 (Q_rm0 Z q1 p2 p3 p4 p5 h0 n0) (T83.setTop (mkF m 296 #[.val (.long q1), .second, .val (.int p2), .val (.int p3), .val (.int p4), .val (.int p5), .val (.ref pw), .val (.int z45), .val (.int z46), .val (.long z47), .second, .val (.int z48), .val (.int w50), .val (.int z52), .unset, .unset, .unset, .unset, .unset, .unset, .unset, .unset, .unset] [(.ref pw), (.long z47), (.int z46), (.int z45), (.int (6 : Int32)), (.int (6 : Int32)), (.ref ar), (.ref ar)]))
    refine Run.go (fun _ k => XS.iload Xg83.here hx rfl (hb hby at_296) rfl  k) ?_
    show Run p e below s 2 28 (Q_rm0 Z q1 p2 p3 p4 p5 h0 n0) (T83.setTop (mkF m 298 #[.val (.long q1), .second, .val (.int p2), .val (.int p3), .val (.int p4), .val (.int p5), .val (.ref pw), .val (.int z45), .val (.int z46), .val (.long z47), .second, .val (.int z48), .val (.int w50), .val (.int z52), .unset, .unset, .unset, .unset, .unset, .unset, .unset, .unset, .unset] [(.int w50), (.ref pw), (.long z47), (.int z46), (.int z45), (.int (6 : Int32)), (.int (6 : Int32)), (.ref ar), (.ref ar)]))
    refine Run.go (fun _ k => XS.iload Xg83.here hx rfl (hb hby at_298) rfl  k) ?_
    show Run p e below s 2 28 (Q_rm0 Z q1 p2 p3 p4 p5 h0 n0) (T83.setTop (mkF m 300 #[.val (.long q1), .second, .val (.int p2), .val (.int p3), .val (.int p4), .val (.int p5), .val (.ref pw), .val (.int z45), .val (.int z46), .val (.long z47), .second, .val (.int z48), .val (.int w50), .val (.int z52), .unset, .unset, .unset, .unset, .unset, .unset, .unset, .unset, .unset] [(.int z48), (.int w50), (.ref pw), (.long z47), (.int z46), (.int z45), (.int (6 : Int32)), (.int (6 : Int32)), (.ref ar), (.ref ar)]))
    refine Run.go (fun _ k => XS.iload Xg83.here hx rfl (hb hby at_300) rfl  k) ?_
    show Run p e below s 2 28 (Q_rm0 Z q1 p2 p3 p4 p5 h0 n0) (T83.setTop (mkF m 302 #[.val (.long q1), .second, .val (.int p2), .val (.int p3), .val (.int p4), .val (.int p5), .val (.ref pw), .val (.int z45), .val (.int z46), .val (.long z47), .second, .val (.int z48), .val (.int w50), .val (.int z52), .unset, .unset, .unset, .unset, .unset, .unset, .unset, .unset, .unset] [(.int z52), (.int z48), (.int w50), (.ref pw), (.long z47), (.int z46), (.int z45), (.int (6 : Int32)), (.int (6 : Int32)), (.ref ar), (.ref ar)]))
    refine Run.go (fun _ k => XS.iload Xg83.here hx rfl (hb hby at_302) rfl  k) ?_
    show Run p e below s 2 28 (Q_rm0 Z q1 p2 p3 p4 p5 h0 n0) (T83.setTop (mkF m 304 #[.val (.long q1), .second, .val (.int p2), .val (.int p3), .val (.int p4), .val (.int p5), .val (.ref pw), .val (.int z45), .val (.int z46), .val (.long z47), .second, .val (.int z48), .val (.int w50), .val (.int z52), .unset, .unset, .unset, .unset, .unset, .unset, .unset, .unset, .unset] [(.int p5), (.int z52), (.int z48), (.int w50), (.ref pw), (.long z47), (.int z46), (.int z45), (.int (6 : Int32)), (.int (6 : Int32)), (.ref ar), (.ref ar)]))
    have fx87 := (fx82.other W83 ne_pw_ar)
    obtain ⟨_, _, ⟨T86, L86, k86, n86⟩, -, X86, ⟨Lc86, hQ86, l86, y86, z86⟩, st86⟩ := Jvm.LawKit.callS Xg83 hx (y := (⟨"com/example/comera/comera/sip/SyntaxUnsigned32PinLaw", "cell", "(IIIJ[JZIBI)B"⟩ : MethodName)) hown (mvT hZ (hw _ (List.mem_of_getElem? (i := 14) rfl))) (mvT hZ (hw _ (List.mem_of_getElem? (i := 15) rfl))) (mvT hZ (hw _ (List.mem_of_getElem? (i := 16) rfl))) (mvT hZ (hw _ (List.mem_of_getElem? (i := 17) rfl))) (by decide) (backOf (W := 3) (rm1 l Z a0 hw [] (6 : Int32) z45 z46 z47 pw w50 z48 z52 p5 ff44 h83 n0 Z83 fx87 hpw (by rw [hz45]; exact (own_s p2).1) (by rw [hz45]; exact (own_s p2).2) (by rw [hz46]; exact (own_ln p2).1) (by rw [hz46]; exact (own_ln p2).2.1) (by rw [hz52]; exact b_idem _)) hZ (hw _ (List.mem_of_getElem? (i := 17) rfl)) (hw _ (List.mem_of_getElem? (i := 16) rfl)) (by decide) (by decide)) (g := (mkF m 304 #[.val (.long q1), .second, .val (.int p2), .val (.int p3), .val (.int p4), .val (.int p5), .val (.ref pw), .val (.int z45), .val (.int z46), .val (.long z47), .second, .val (.int z48), .val (.int w50), .val (.int z52), .unset, .unset, .unset, .unset, .unset, .unset, .unset, .unset, .unset] [(.int p5), (.int z52), (.int z48), (.int w50), (.ref pw), (.long z47), (.int z46), (.int z45), (.int (6 : Int32)), (.int (6 : Int32)), (.ref ar), (.ref ar)])) rfl (by rw [hml]; rfl) (argsL := [(.int (6 : Int32)), (.int z45), (.int z46), (.long z47), (.ref pw), (.int w50), (.int z48), (.int z52), (.int p5)]) (rest := [(.int (6 : Int32)), (.ref ar), (.ref ar)]) (lenOf pd_0 rfl) rfl (by show 2 * 0 + _ ≤ _; exact Nat.le_of_eq rfl) (hb hby at_304) (fun _ _ => ⟨rfl, e83, (by decide : 2 + 0 ≤ _), (by decide : 28 + 0 ≤ _)⟩)
    dsimp only [Pt.U, Pt.locs, Pt.cells, Pt.slots] at X86 l86 y86 z86 st86 hQ86
    subst l86 y86 z86
    obtain ⟨rfl, N86q, e86q⟩ := hQ86
    have N86 := Fr.app Ng83 N86q
    obtain ⟨Lg86, Xg86, Ng86⟩ := Stand_gen X86 N86
    refine Run.go st86 ?_
    show Run p e below s 2 28 (Q_rm0 Z q1 p2 p3 p4 p5 h0 n0) (T86.setTop (mkF m 307 #[.val (.long q1), .second, .val (.int p2), .val (.int p3), .val (.int p4), .val (.int p5), .val (.ref pw), .val (.int z45), .val (.int z46), .val (.long z47), .second, .val (.int z48), .val (.int w50), .val (.int z52), .unset, .unset, .unset, .unset, .unset, .unset, .unset, .unset, .unset] [(.int (F_rm1 (6 : Int32) z45 z46 z47 w50 z48 z52 p5)), (.int (6 : Int32)), (.ref ar), (.ref ar)]))
    obtain ⟨T88, h88, X88, e88, W88, st88⟩ := ary_bset Xg86 hx hZ e86q fx84 (j := (6 : Int32)) (by decide) (by decide) (g := (mkF m 307 #[.val (.long q1), .second, .val (.int p2), .val (.int p3), .val (.int p4), .val (.int p5), .val (.ref pw), .val (.int z45), .val (.int z46), .val (.long z47), .second, .val (.int z48), .val (.int w50), .val (.int z52), .unset, .unset, .unset, .unset, .unset, .unset, .unset, .unset, .unset] [(.int (F_rm1 (6 : Int32) z45 z46 z47 w50 z48 z52 p5)), (.int (6 : Int32)), (.ref ar), (.ref ar)])) rfl rfl (hb hby at_307) (y := (F_rm1 (6 : Int32) z45 z46 z47 w50 z48 z52 p5)) (own_cell_b _ _ _ _ _ _ _ _ (by rw [hz52]; exact b_idem _))
    have N88 := Fr.snoc X88 Ng86 g_ar
    have Z88 : n0 ≤ h88.size := Nat.le_trans Z83 (Keep.of_wr W88).1
    obtain ⟨Lg88, Xg88, Ng88⟩ := Stand_gen X88 N88
    have fx89 : Ary Z h88 ar .byte 16 (fun i => if i = 6 then (.int (F_rm1 (6 : Int32) z45 z46 z47 w50 z48 z52 p5)) else ff85 i) := fx84.same W88
    obtain ⟨ff90, hff90⟩ : ∃ f : Nat → Value, f = (fun i => if i = 6 then (.int (F_rm1 (6 : Int32) z45 z46 z47 w50 z48 z52 p5)) else ff85 i) := ⟨_, rfl⟩
    rw [← hff90] at fx89
    refine Run.go st88 ?_
    show Run p e below s 2 28 (Q_rm0 Z q1 p2 p3 p4 p5 h0 n0) (T88.setTop (mkF m 308 #[.val (.long q1), .second, .val (.int p2), .val (.int p3), .val (.int p4), .val (.int p5), .val (.ref pw), .val (.int z45), .val (.int z46), .val (.long z47), .second, .val (.int z48), .val (.int w50), .val (.int z52), .unset, .unset, .unset, .unset, .unset, .unset, .unset, .unset, .unset] [(.ref ar)]))
    refine Run.go (fun _ k => XS.dup Xg88.here hx rfl (hb hby at_308) rfl rfl k) ?_
    show Run p e below s 2 28 (Q_rm0 Z q1 p2 p3 p4 p5 h0 n0) (T88.setTop (mkF m 309 #[.val (.long q1), .second, .val (.int p2), .val (.int p3), .val (.int p4), .val (.int p5), .val (.ref pw), .val (.int z45), .val (.int z46), .val (.long z47), .second, .val (.int z48), .val (.int w50), .val (.int z52), .unset, .unset, .unset, .unset, .unset, .unset, .unset, .unset, .unset] [(.ref ar), (.ref ar)]))
    refine Run.go (fun _ k => XS.bipush Xg88.here hx rfl (hb hby at_309) k) ?_
    show Run p e below s 2 28 (Q_rm0 Z q1 p2 p3 p4 p5 h0 n0) (T88.setTop (mkF m 311 #[.val (.long q1), .second, .val (.int p2), .val (.int p3), .val (.int p4), .val (.int p5), .val (.ref pw), .val (.int z45), .val (.int z46), .val (.long z47), .second, .val (.int z48), .val (.int w50), .val (.int z52), .unset, .unset, .unset, .unset, .unset, .unset, .unset, .unset, .unset] [(.int (7 : Int32)), (.ref ar), (.ref ar)]))
    refine Run.go (fun _ k => XS.bipush Xg88.here hx rfl (hb hby at_311) k) ?_
    show Run p e below s 2 28 (Q_rm0 Z q1 p2 p3 p4 p5 h0 n0) (T88.setTop (mkF m 313 #[.val (.long q1), .second, .val (.int p2), .val (.int p3), .val (.int p4), .val (.int p5), .val (.ref pw), .val (.int z45), .val (.int z46), .val (.long z47), .second, .val (.int z48), .val (.int w50), .val (.int z52), .unset, .unset, .unset, .unset, .unset, .unset, .unset, .unset, .unset] [(.int (7 : Int32)), (.int (7 : Int32)), (.ref ar), (.ref ar)]))
    refine Run.go (fun _ k => XS.iload Xg88.here hx rfl (hb hby at_313) rfl  k) ?_
    show Run p e below s 2 28 (Q_rm0 Z q1 p2 p3 p4 p5 h0 n0) (T88.setTop (mkF m 315 #[.val (.long q1), .second, .val (.int p2), .val (.int p3), .val (.int p4), .val (.int p5), .val (.ref pw), .val (.int z45), .val (.int z46), .val (.long z47), .second, .val (.int z48), .val (.int w50), .val (.int z52), .unset, .unset, .unset, .unset, .unset, .unset, .unset, .unset, .unset] [(.int z45), (.int (7 : Int32)), (.int (7 : Int32)), (.ref ar), (.ref ar)]))
    refine Run.go (fun _ k => XS.iload Xg88.here hx rfl (hb hby at_315) rfl  k) ?_
    show Run p e below s 2 28 (Q_rm0 Z q1 p2 p3 p4 p5 h0 n0) (T88.setTop (mkF m 317 #[.val (.long q1), .second, .val (.int p2), .val (.int p3), .val (.int p4), .val (.int p5), .val (.ref pw), .val (.int z45), .val (.int z46), .val (.long z47), .second, .val (.int z48), .val (.int w50), .val (.int z52), .unset, .unset, .unset, .unset, .unset, .unset, .unset, .unset, .unset] [(.int z46), (.int z45), (.int (7 : Int32)), (.int (7 : Int32)), (.ref ar), (.ref ar)]))
    refine Run.go (fun _ k => XS.lload Xg88.here hx rfl (hb hby at_317) rfl  k) ?_
    show Run p e below s 2 28 (Q_rm0 Z q1 p2 p3 p4 p5 h0 n0) (T88.setTop (mkF m 319 #[.val (.long q1), .second, .val (.int p2), .val (.int p3), .val (.int p4), .val (.int p5), .val (.ref pw), .val (.int z45), .val (.int z46), .val (.long z47), .second, .val (.int z48), .val (.int w50), .val (.int z52), .unset, .unset, .unset, .unset, .unset, .unset, .unset, .unset, .unset] [(.long z47), (.int z46), (.int z45), (.int (7 : Int32)), (.int (7 : Int32)), (.ref ar), (.ref ar)]))
    refine Run.go (fun _ k => XS.aload Xg88.here hx rfl (hb hby at_319) rfl rfl k) ?_
    show Run p e below s 2 28 (Q_rm0 Z q1 p2 p3 p4 p5 h0 n0) (T88.setTop (mkF m 321 #[.val (.long q1), .second, .val (.int p2), .val (.int p3), .val (.int p4), .val (.int p5), .val (.ref pw), .val (.int z45), .val (.int z46), .val (.long z47), .second, .val (.int z48), .val (.int w50), .val (.int z52), .unset, .unset, .unset, .unset, .unset, .unset, .unset, .unset, .unset] [(.ref pw), (.long z47), (.int z46), (.int z45), (.int (7 : Int32)), (.int (7 : Int32)), (.ref ar), (.ref ar)]))
    refine Run.go (fun _ k => XS.iload Xg88.here hx rfl (hb hby at_321) rfl  k) ?_
    show Run p e below s 2 28 (Q_rm0 Z q1 p2 p3 p4 p5 h0 n0) (T88.setTop (mkF m 323 #[.val (.long q1), .second, .val (.int p2), .val (.int p3), .val (.int p4), .val (.int p5), .val (.ref pw), .val (.int z45), .val (.int z46), .val (.long z47), .second, .val (.int z48), .val (.int w50), .val (.int z52), .unset, .unset, .unset, .unset, .unset, .unset, .unset, .unset, .unset] [(.int w50), (.ref pw), (.long z47), (.int z46), (.int z45), (.int (7 : Int32)), (.int (7 : Int32)), (.ref ar), (.ref ar)]))
    refine Run.go (fun _ k => XS.iload Xg88.here hx rfl (hb hby at_323) rfl  k) ?_
    show Run p e below s 2 28 (Q_rm0 Z q1 p2 p3 p4 p5 h0 n0) (T88.setTop (mkF m 325 #[.val (.long q1), .second, .val (.int p2), .val (.int p3), .val (.int p4), .val (.int p5), .val (.ref pw), .val (.int z45), .val (.int z46), .val (.long z47), .second, .val (.int z48), .val (.int w50), .val (.int z52), .unset, .unset, .unset, .unset, .unset, .unset, .unset, .unset, .unset] [(.int z48), (.int w50), (.ref pw), (.long z47), (.int z46), (.int z45), (.int (7 : Int32)), (.int (7 : Int32)), (.ref ar), (.ref ar)]))
    refine Run.go (fun _ k => XS.iload Xg88.here hx rfl (hb hby at_325) rfl  k) ?_
    show Run p e below s 2 28 (Q_rm0 Z q1 p2 p3 p4 p5 h0 n0) (T88.setTop (mkF m 327 #[.val (.long q1), .second, .val (.int p2), .val (.int p3), .val (.int p4), .val (.int p5), .val (.ref pw), .val (.int z45), .val (.int z46), .val (.long z47), .second, .val (.int z48), .val (.int w50), .val (.int z52), .unset, .unset, .unset, .unset, .unset, .unset, .unset, .unset, .unset] [(.int z52), (.int z48), (.int w50), (.ref pw), (.long z47), (.int z46), (.int z45), (.int (7 : Int32)), (.int (7 : Int32)), (.ref ar), (.ref ar)]))
    refine Run.go (fun _ k => XS.iload Xg88.here hx rfl (hb hby at_327) rfl  k) ?_
    show Run p e below s 2 28 (Q_rm0 Z q1 p2 p3 p4 p5 h0 n0) (T88.setTop (mkF m 329 #[.val (.long q1), .second, .val (.int p2), .val (.int p3), .val (.int p4), .val (.int p5), .val (.ref pw), .val (.int z45), .val (.int z46), .val (.long z47), .second, .val (.int z48), .val (.int w50), .val (.int z52), .unset, .unset, .unset, .unset, .unset, .unset, .unset, .unset, .unset] [(.int p5), (.int z52), (.int z48), (.int w50), (.ref pw), (.long z47), (.int z46), (.int z45), (.int (7 : Int32)), (.int (7 : Int32)), (.ref ar), (.ref ar)]))
    have fx92 := (fx87.other W88 ne_pw_ar)
    obtain ⟨_, _, ⟨T91, L91, k91, n91⟩, -, X91, ⟨Lc91, hQ91, l91, y91, z91⟩, st91⟩ := Jvm.LawKit.callS Xg88 hx (y := (⟨"com/example/comera/comera/sip/SyntaxUnsigned32PinLaw", "cell", "(IIIJ[JZIBI)B"⟩ : MethodName)) hown (mvT hZ (hw _ (List.mem_of_getElem? (i := 14) rfl))) (mvT hZ (hw _ (List.mem_of_getElem? (i := 15) rfl))) (mvT hZ (hw _ (List.mem_of_getElem? (i := 16) rfl))) (mvT hZ (hw _ (List.mem_of_getElem? (i := 17) rfl))) (by decide) (backOf (W := 3) (rm1 l Z a0 hw [] (7 : Int32) z45 z46 z47 pw w50 z48 z52 p5 ff44 h88 n0 Z88 fx92 hpw (by rw [hz45]; exact (own_s p2).1) (by rw [hz45]; exact (own_s p2).2) (by rw [hz46]; exact (own_ln p2).1) (by rw [hz46]; exact (own_ln p2).2.1) (by rw [hz52]; exact b_idem _)) hZ (hw _ (List.mem_of_getElem? (i := 17) rfl)) (hw _ (List.mem_of_getElem? (i := 16) rfl)) (by decide) (by decide)) (g := (mkF m 329 #[.val (.long q1), .second, .val (.int p2), .val (.int p3), .val (.int p4), .val (.int p5), .val (.ref pw), .val (.int z45), .val (.int z46), .val (.long z47), .second, .val (.int z48), .val (.int w50), .val (.int z52), .unset, .unset, .unset, .unset, .unset, .unset, .unset, .unset, .unset] [(.int p5), (.int z52), (.int z48), (.int w50), (.ref pw), (.long z47), (.int z46), (.int z45), (.int (7 : Int32)), (.int (7 : Int32)), (.ref ar), (.ref ar)])) rfl (by rw [hml]; rfl) (argsL := [(.int (7 : Int32)), (.int z45), (.int z46), (.long z47), (.ref pw), (.int w50), (.int z48), (.int z52), (.int p5)]) (rest := [(.int (7 : Int32)), (.ref ar), (.ref ar)]) (lenOf pd_0 rfl) rfl (by show 2 * 0 + _ ≤ _; exact Nat.le_of_eq rfl) (hb hby at_329) (fun _ _ => ⟨rfl, e88, (by decide : 2 + 0 ≤ _), (by decide : 28 + 0 ≤ _)⟩)
    dsimp only [Pt.U, Pt.locs, Pt.cells, Pt.slots] at X91 l91 y91 z91 st91 hQ91
    subst l91 y91 z91
    obtain ⟨rfl, N91q, e91q⟩ := hQ91
    have N91 := Fr.app Ng88 N91q
    obtain ⟨Lg91, Xg91, Ng91⟩ := Stand_gen X91 N91
    refine Run.go st91 ?_
    show Run p e below s 2 28 (Q_rm0 Z q1 p2 p3 p4 p5 h0 n0) (T91.setTop (mkF m 332 #[.val (.long q1), .second, .val (.int p2), .val (.int p3), .val (.int p4), .val (.int p5), .val (.ref pw), .val (.int z45), .val (.int z46), .val (.long z47), .second, .val (.int z48), .val (.int w50), .val (.int z52), .unset, .unset, .unset, .unset, .unset, .unset, .unset, .unset, .unset] [(.int (F_rm1 (7 : Int32) z45 z46 z47 w50 z48 z52 p5)), (.int (7 : Int32)), (.ref ar), (.ref ar)]))
    obtain ⟨T93, h93, X93, e93, W93, st93⟩ := ary_bset Xg91 hx hZ e91q fx89 (j := (7 : Int32)) (by decide) (by decide) (g := (mkF m 332 #[.val (.long q1), .second, .val (.int p2), .val (.int p3), .val (.int p4), .val (.int p5), .val (.ref pw), .val (.int z45), .val (.int z46), .val (.long z47), .second, .val (.int z48), .val (.int w50), .val (.int z52), .unset, .unset, .unset, .unset, .unset, .unset, .unset, .unset, .unset] [(.int (F_rm1 (7 : Int32) z45 z46 z47 w50 z48 z52 p5)), (.int (7 : Int32)), (.ref ar), (.ref ar)])) rfl rfl (hb hby at_332) (y := (F_rm1 (7 : Int32) z45 z46 z47 w50 z48 z52 p5)) (own_cell_b _ _ _ _ _ _ _ _ (by rw [hz52]; exact b_idem _))
    have N93 := Fr.snoc X93 Ng91 g_ar
    have Z93 : n0 ≤ h93.size := Nat.le_trans Z88 (Keep.of_wr W93).1
    obtain ⟨Lg93, Xg93, Ng93⟩ := Stand_gen X93 N93
    have fx94 : Ary Z h93 ar .byte 16 (fun i => if i = 7 then (.int (F_rm1 (7 : Int32) z45 z46 z47 w50 z48 z52 p5)) else ff90 i) := fx89.same W93
    obtain ⟨ff95, hff95⟩ : ∃ f : Nat → Value, f = (fun i => if i = 7 then (.int (F_rm1 (7 : Int32) z45 z46 z47 w50 z48 z52 p5)) else ff90 i) := ⟨_, rfl⟩
    rw [← hff95] at fx94
    refine Run.go st93 ?_
    show Run p e below s 2 28 (Q_rm0 Z q1 p2 p3 p4 p5 h0 n0) (T93.setTop (mkF m 333 #[.val (.long q1), .second, .val (.int p2), .val (.int p3), .val (.int p4), .val (.int p5), .val (.ref pw), .val (.int z45), .val (.int z46), .val (.long z47), .second, .val (.int z48), .val (.int w50), .val (.int z52), .unset, .unset, .unset, .unset, .unset, .unset, .unset, .unset, .unset] [(.ref ar)]))
    refine Run.go (fun _ k => XS.dup Xg93.here hx rfl (hb hby at_333) rfl rfl k) ?_
    show Run p e below s 2 28 (Q_rm0 Z q1 p2 p3 p4 p5 h0 n0) (T93.setTop (mkF m 334 #[.val (.long q1), .second, .val (.int p2), .val (.int p3), .val (.int p4), .val (.int p5), .val (.ref pw), .val (.int z45), .val (.int z46), .val (.long z47), .second, .val (.int z48), .val (.int w50), .val (.int z52), .unset, .unset, .unset, .unset, .unset, .unset, .unset, .unset, .unset] [(.ref ar), (.ref ar)]))
    refine Run.go (fun _ k => XS.bipush Xg93.here hx rfl (hb hby at_334) k) ?_
    show Run p e below s 2 28 (Q_rm0 Z q1 p2 p3 p4 p5 h0 n0) (T93.setTop (mkF m 336 #[.val (.long q1), .second, .val (.int p2), .val (.int p3), .val (.int p4), .val (.int p5), .val (.ref pw), .val (.int z45), .val (.int z46), .val (.long z47), .second, .val (.int z48), .val (.int w50), .val (.int z52), .unset, .unset, .unset, .unset, .unset, .unset, .unset, .unset, .unset] [(.int (8 : Int32)), (.ref ar), (.ref ar)]))
    refine Run.go (fun _ k => XS.bipush Xg93.here hx rfl (hb hby at_336) k) ?_
    show Run p e below s 2 28 (Q_rm0 Z q1 p2 p3 p4 p5 h0 n0) (T93.setTop (mkF m 338 #[.val (.long q1), .second, .val (.int p2), .val (.int p3), .val (.int p4), .val (.int p5), .val (.ref pw), .val (.int z45), .val (.int z46), .val (.long z47), .second, .val (.int z48), .val (.int w50), .val (.int z52), .unset, .unset, .unset, .unset, .unset, .unset, .unset, .unset, .unset] [(.int (8 : Int32)), (.int (8 : Int32)), (.ref ar), (.ref ar)]))
    refine Run.go (fun _ k => XS.iload Xg93.here hx rfl (hb hby at_338) rfl  k) ?_
    show Run p e below s 2 28 (Q_rm0 Z q1 p2 p3 p4 p5 h0 n0) (T93.setTop (mkF m 340 #[.val (.long q1), .second, .val (.int p2), .val (.int p3), .val (.int p4), .val (.int p5), .val (.ref pw), .val (.int z45), .val (.int z46), .val (.long z47), .second, .val (.int z48), .val (.int w50), .val (.int z52), .unset, .unset, .unset, .unset, .unset, .unset, .unset, .unset, .unset] [(.int z45), (.int (8 : Int32)), (.int (8 : Int32)), (.ref ar), (.ref ar)]))
    refine Run.go (fun _ k => XS.iload Xg93.here hx rfl (hb hby at_340) rfl  k) ?_
    show Run p e below s 2 28 (Q_rm0 Z q1 p2 p3 p4 p5 h0 n0) (T93.setTop (mkF m 342 #[.val (.long q1), .second, .val (.int p2), .val (.int p3), .val (.int p4), .val (.int p5), .val (.ref pw), .val (.int z45), .val (.int z46), .val (.long z47), .second, .val (.int z48), .val (.int w50), .val (.int z52), .unset, .unset, .unset, .unset, .unset, .unset, .unset, .unset, .unset] [(.int z46), (.int z45), (.int (8 : Int32)), (.int (8 : Int32)), (.ref ar), (.ref ar)]))
    refine Run.go (fun _ k => XS.lload Xg93.here hx rfl (hb hby at_342) rfl  k) ?_
    show Run p e below s 2 28 (Q_rm0 Z q1 p2 p3 p4 p5 h0 n0) (T93.setTop (mkF m 344 #[.val (.long q1), .second, .val (.int p2), .val (.int p3), .val (.int p4), .val (.int p5), .val (.ref pw), .val (.int z45), .val (.int z46), .val (.long z47), .second, .val (.int z48), .val (.int w50), .val (.int z52), .unset, .unset, .unset, .unset, .unset, .unset, .unset, .unset, .unset] [(.long z47), (.int z46), (.int z45), (.int (8 : Int32)), (.int (8 : Int32)), (.ref ar), (.ref ar)]))
    refine Run.go (fun _ k => XS.aload Xg93.here hx rfl (hb hby at_344) rfl rfl k) ?_
    show Run p e below s 2 28 (Q_rm0 Z q1 p2 p3 p4 p5 h0 n0) (T93.setTop (mkF m 346 #[.val (.long q1), .second, .val (.int p2), .val (.int p3), .val (.int p4), .val (.int p5), .val (.ref pw), .val (.int z45), .val (.int z46), .val (.long z47), .second, .val (.int z48), .val (.int w50), .val (.int z52), .unset, .unset, .unset, .unset, .unset, .unset, .unset, .unset, .unset] [(.ref pw), (.long z47), (.int z46), (.int z45), (.int (8 : Int32)), (.int (8 : Int32)), (.ref ar), (.ref ar)]))
    refine Run.go (fun _ k => XS.iload Xg93.here hx rfl (hb hby at_346) rfl  k) ?_
    show Run p e below s 2 28 (Q_rm0 Z q1 p2 p3 p4 p5 h0 n0) (T93.setTop (mkF m 348 #[.val (.long q1), .second, .val (.int p2), .val (.int p3), .val (.int p4), .val (.int p5), .val (.ref pw), .val (.int z45), .val (.int z46), .val (.long z47), .second, .val (.int z48), .val (.int w50), .val (.int z52), .unset, .unset, .unset, .unset, .unset, .unset, .unset, .unset, .unset] [(.int w50), (.ref pw), (.long z47), (.int z46), (.int z45), (.int (8 : Int32)), (.int (8 : Int32)), (.ref ar), (.ref ar)]))
    refine Run.go (fun _ k => XS.iload Xg93.here hx rfl (hb hby at_348) rfl  k) ?_
    show Run p e below s 2 28 (Q_rm0 Z q1 p2 p3 p4 p5 h0 n0) (T93.setTop (mkF m 350 #[.val (.long q1), .second, .val (.int p2), .val (.int p3), .val (.int p4), .val (.int p5), .val (.ref pw), .val (.int z45), .val (.int z46), .val (.long z47), .second, .val (.int z48), .val (.int w50), .val (.int z52), .unset, .unset, .unset, .unset, .unset, .unset, .unset, .unset, .unset] [(.int z48), (.int w50), (.ref pw), (.long z47), (.int z46), (.int z45), (.int (8 : Int32)), (.int (8 : Int32)), (.ref ar), (.ref ar)]))
    refine Run.go (fun _ k => XS.iload Xg93.here hx rfl (hb hby at_350) rfl  k) ?_
    show Run p e below s 2 28 (Q_rm0 Z q1 p2 p3 p4 p5 h0 n0) (T93.setTop (mkF m 352 #[.val (.long q1), .second, .val (.int p2), .val (.int p3), .val (.int p4), .val (.int p5), .val (.ref pw), .val (.int z45), .val (.int z46), .val (.long z47), .second, .val (.int z48), .val (.int w50), .val (.int z52), .unset, .unset, .unset, .unset, .unset, .unset, .unset, .unset, .unset] [(.int z52), (.int z48), (.int w50), (.ref pw), (.long z47), (.int z46), (.int z45), (.int (8 : Int32)), (.int (8 : Int32)), (.ref ar), (.ref ar)]))
    refine Run.go (fun _ k => XS.iload Xg93.here hx rfl (hb hby at_352) rfl  k) ?_
    show Run p e below s 2 28 (Q_rm0 Z q1 p2 p3 p4 p5 h0 n0) (T93.setTop (mkF m 354 #[.val (.long q1), .second, .val (.int p2), .val (.int p3), .val (.int p4), .val (.int p5), .val (.ref pw), .val (.int z45), .val (.int z46), .val (.long z47), .second, .val (.int z48), .val (.int w50), .val (.int z52), .unset, .unset, .unset, .unset, .unset, .unset, .unset, .unset, .unset] [(.int p5), (.int z52), (.int z48), (.int w50), (.ref pw), (.long z47), (.int z46), (.int z45), (.int (8 : Int32)), (.int (8 : Int32)), (.ref ar), (.ref ar)]))
    have fx97 := (fx92.other W93 ne_pw_ar)
    obtain ⟨_, _, ⟨T96, L96, k96, n96⟩, -, X96, ⟨Lc96, hQ96, l96, y96, z96⟩, st96⟩ := Jvm.LawKit.callS Xg93 hx (y := (⟨"com/example/comera/comera/sip/SyntaxUnsigned32PinLaw", "cell", "(IIIJ[JZIBI)B"⟩ : MethodName)) hown (mvT hZ (hw _ (List.mem_of_getElem? (i := 14) rfl))) (mvT hZ (hw _ (List.mem_of_getElem? (i := 15) rfl))) (mvT hZ (hw _ (List.mem_of_getElem? (i := 16) rfl))) (mvT hZ (hw _ (List.mem_of_getElem? (i := 17) rfl))) (by decide) (backOf (W := 3) (rm1 l Z a0 hw [] (8 : Int32) z45 z46 z47 pw w50 z48 z52 p5 ff44 h93 n0 Z93 fx97 hpw (by rw [hz45]; exact (own_s p2).1) (by rw [hz45]; exact (own_s p2).2) (by rw [hz46]; exact (own_ln p2).1) (by rw [hz46]; exact (own_ln p2).2.1) (by rw [hz52]; exact b_idem _)) hZ (hw _ (List.mem_of_getElem? (i := 17) rfl)) (hw _ (List.mem_of_getElem? (i := 16) rfl)) (by decide) (by decide)) (g := (mkF m 354 #[.val (.long q1), .second, .val (.int p2), .val (.int p3), .val (.int p4), .val (.int p5), .val (.ref pw), .val (.int z45), .val (.int z46), .val (.long z47), .second, .val (.int z48), .val (.int w50), .val (.int z52), .unset, .unset, .unset, .unset, .unset, .unset, .unset, .unset, .unset] [(.int p5), (.int z52), (.int z48), (.int w50), (.ref pw), (.long z47), (.int z46), (.int z45), (.int (8 : Int32)), (.int (8 : Int32)), (.ref ar), (.ref ar)])) rfl (by rw [hml]; rfl) (argsL := [(.int (8 : Int32)), (.int z45), (.int z46), (.long z47), (.ref pw), (.int w50), (.int z48), (.int z52), (.int p5)]) (rest := [(.int (8 : Int32)), (.ref ar), (.ref ar)]) (lenOf pd_0 rfl) rfl (by show 2 * 0 + _ ≤ _; exact Nat.le_of_eq rfl) (hb hby at_354) (fun _ _ => ⟨rfl, e93, (by decide : 2 + 0 ≤ _), (by decide : 28 + 0 ≤ _)⟩)
    dsimp only [Pt.U, Pt.locs, Pt.cells, Pt.slots] at X96 l96 y96 z96 st96 hQ96
    subst l96 y96 z96
    obtain ⟨rfl, N96q, e96q⟩ := hQ96
    have N96 := Fr.app Ng93 N96q
    obtain ⟨Lg96, Xg96, Ng96⟩ := Stand_gen X96 N96
    refine Run.go st96 ?_
    show Run p e below s 2 28 (Q_rm0 Z q1 p2 p3 p4 p5 h0 n0) (T96.setTop (mkF m 357 #[.val (.long q1), .second, .val (.int p2), .val (.int p3), .val (.int p4), .val (.int p5), .val (.ref pw), .val (.int z45), .val (.int z46), .val (.long z47), .second, .val (.int z48), .val (.int w50), .val (.int z52), .unset, .unset, .unset, .unset, .unset, .unset, .unset, .unset, .unset] [(.int (F_rm1 (8 : Int32) z45 z46 z47 w50 z48 z52 p5)), (.int (8 : Int32)), (.ref ar), (.ref ar)]))
    obtain ⟨T98, h98, X98, e98, W98, st98⟩ := ary_bset Xg96 hx hZ e96q fx94 (j := (8 : Int32)) (by decide) (by decide) (g := (mkF m 357 #[.val (.long q1), .second, .val (.int p2), .val (.int p3), .val (.int p4), .val (.int p5), .val (.ref pw), .val (.int z45), .val (.int z46), .val (.long z47), .second, .val (.int z48), .val (.int w50), .val (.int z52), .unset, .unset, .unset, .unset, .unset, .unset, .unset, .unset, .unset] [(.int (F_rm1 (8 : Int32) z45 z46 z47 w50 z48 z52 p5)), (.int (8 : Int32)), (.ref ar), (.ref ar)])) rfl rfl (hb hby at_357) (y := (F_rm1 (8 : Int32) z45 z46 z47 w50 z48 z52 p5)) (own_cell_b _ _ _ _ _ _ _ _ (by rw [hz52]; exact b_idem _))
    have N98 := Fr.snoc X98 Ng96 g_ar
    have Z98 : n0 ≤ h98.size := Nat.le_trans Z93 (Keep.of_wr W98).1
    obtain ⟨Lg98, Xg98, Ng98⟩ := Stand_gen X98 N98
    have fx99 : Ary Z h98 ar .byte 16 (fun i => if i = 8 then (.int (F_rm1 (8 : Int32) z45 z46 z47 w50 z48 z52 p5)) else ff95 i) := fx94.same W98
    obtain ⟨ff100, hff100⟩ : ∃ f : Nat → Value, f = (fun i => if i = 8 then (.int (F_rm1 (8 : Int32) z45 z46 z47 w50 z48 z52 p5)) else ff95 i) := ⟨_, rfl⟩
    rw [← hff100] at fx99
    refine Run.go st98 ?_
    show Run p e below s 2 28 (Q_rm0 Z q1 p2 p3 p4 p5 h0 n0) (T98.setTop (mkF m 358 #[.val (.long q1), .second, .val (.int p2), .val (.int p3), .val (.int p4), .val (.int p5), .val (.ref pw), .val (.int z45), .val (.int z46), .val (.long z47), .second, .val (.int z48), .val (.int w50), .val (.int z52), .unset, .unset, .unset, .unset, .unset, .unset, .unset, .unset, .unset] [(.ref ar)]))
    refine Run.go (fun _ k => XS.dup Xg98.here hx rfl (hb hby at_358) rfl rfl k) ?_
    show Run p e below s 2 28 (Q_rm0 Z q1 p2 p3 p4 p5 h0 n0) (T98.setTop (mkF m 359 #[.val (.long q1), .second, .val (.int p2), .val (.int p3), .val (.int p4), .val (.int p5), .val (.ref pw), .val (.int z45), .val (.int z46), .val (.long z47), .second, .val (.int z48), .val (.int w50), .val (.int z52), .unset, .unset, .unset, .unset, .unset, .unset, .unset, .unset, .unset] [(.ref ar), (.ref ar)]))
    refine Run.go (fun _ k => XS.bipush Xg98.here hx rfl (hb hby at_359) k) ?_
    show Run p e below s 2 28 (Q_rm0 Z q1 p2 p3 p4 p5 h0 n0) (T98.setTop (mkF m 361 #[.val (.long q1), .second, .val (.int p2), .val (.int p3), .val (.int p4), .val (.int p5), .val (.ref pw), .val (.int z45), .val (.int z46), .val (.long z47), .second, .val (.int z48), .val (.int w50), .val (.int z52), .unset, .unset, .unset, .unset, .unset, .unset, .unset, .unset, .unset] [(.int (9 : Int32)), (.ref ar), (.ref ar)]))
    refine Run.go (fun _ k => XS.bipush Xg98.here hx rfl (hb hby at_361) k) ?_
    show Run p e below s 2 28 (Q_rm0 Z q1 p2 p3 p4 p5 h0 n0) (T98.setTop (mkF m 363 #[.val (.long q1), .second, .val (.int p2), .val (.int p3), .val (.int p4), .val (.int p5), .val (.ref pw), .val (.int z45), .val (.int z46), .val (.long z47), .second, .val (.int z48), .val (.int w50), .val (.int z52), .unset, .unset, .unset, .unset, .unset, .unset, .unset, .unset, .unset] [(.int (9 : Int32)), (.int (9 : Int32)), (.ref ar), (.ref ar)]))
    refine Run.go (fun _ k => XS.iload Xg98.here hx rfl (hb hby at_363) rfl  k) ?_
    show Run p e below s 2 28 (Q_rm0 Z q1 p2 p3 p4 p5 h0 n0) (T98.setTop (mkF m 365 #[.val (.long q1), .second, .val (.int p2), .val (.int p3), .val (.int p4), .val (.int p5), .val (.ref pw), .val (.int z45), .val (.int z46), .val (.long z47), .second, .val (.int z48), .val (.int w50), .val (.int z52), .unset, .unset, .unset, .unset, .unset, .unset, .unset, .unset, .unset] [(.int z45), (.int (9 : Int32)), (.int (9 : Int32)), (.ref ar), (.ref ar)]))
    refine Run.go (fun _ k => XS.iload Xg98.here hx rfl (hb hby at_365) rfl  k) ?_
    show Run p e below s 2 28 (Q_rm0 Z q1 p2 p3 p4 p5 h0 n0) (T98.setTop (mkF m 367 #[.val (.long q1), .second, .val (.int p2), .val (.int p3), .val (.int p4), .val (.int p5), .val (.ref pw), .val (.int z45), .val (.int z46), .val (.long z47), .second, .val (.int z48), .val (.int w50), .val (.int z52), .unset, .unset, .unset, .unset, .unset, .unset, .unset, .unset, .unset] [(.int z46), (.int z45), (.int (9 : Int32)), (.int (9 : Int32)), (.ref ar), (.ref ar)]))
    refine Run.go (fun _ k => XS.lload Xg98.here hx rfl (hb hby at_367) rfl  k) ?_
    show Run p e below s 2 28 (Q_rm0 Z q1 p2 p3 p4 p5 h0 n0) (T98.setTop (mkF m 369 #[.val (.long q1), .second, .val (.int p2), .val (.int p3), .val (.int p4), .val (.int p5), .val (.ref pw), .val (.int z45), .val (.int z46), .val (.long z47), .second, .val (.int z48), .val (.int w50), .val (.int z52), .unset, .unset, .unset, .unset, .unset, .unset, .unset, .unset, .unset] [(.long z47), (.int z46), (.int z45), (.int (9 : Int32)), (.int (9 : Int32)), (.ref ar), (.ref ar)]))
    refine Run.go (fun _ k => XS.aload Xg98.here hx rfl (hb hby at_369) rfl rfl k) ?_
    show Run p e below s 2 28 (Q_rm0 Z q1 p2 p3 p4 p5 h0 n0) (T98.setTop (mkF m 371 #[.val (.long q1), .second, .val (.int p2), .val (.int p3), .val (.int p4), .val (.int p5), .val (.ref pw), .val (.int z45), .val (.int z46), .val (.long z47), .second, .val (.int z48), .val (.int w50), .val (.int z52), .unset, .unset, .unset, .unset, .unset, .unset, .unset, .unset, .unset] [(.ref pw), (.long z47), (.int z46), (.int z45), (.int (9 : Int32)), (.int (9 : Int32)), (.ref ar), (.ref ar)]))
    refine Run.go (fun _ k => XS.iload Xg98.here hx rfl (hb hby at_371) rfl  k) ?_
    show Run p e below s 2 28 (Q_rm0 Z q1 p2 p3 p4 p5 h0 n0) (T98.setTop (mkF m 373 #[.val (.long q1), .second, .val (.int p2), .val (.int p3), .val (.int p4), .val (.int p5), .val (.ref pw), .val (.int z45), .val (.int z46), .val (.long z47), .second, .val (.int z48), .val (.int w50), .val (.int z52), .unset, .unset, .unset, .unset, .unset, .unset, .unset, .unset, .unset] [(.int w50), (.ref pw), (.long z47), (.int z46), (.int z45), (.int (9 : Int32)), (.int (9 : Int32)), (.ref ar), (.ref ar)]))
    refine Run.go (fun _ k => XS.iload Xg98.here hx rfl (hb hby at_373) rfl  k) ?_
    show Run p e below s 2 28 (Q_rm0 Z q1 p2 p3 p4 p5 h0 n0) (T98.setTop (mkF m 375 #[.val (.long q1), .second, .val (.int p2), .val (.int p3), .val (.int p4), .val (.int p5), .val (.ref pw), .val (.int z45), .val (.int z46), .val (.long z47), .second, .val (.int z48), .val (.int w50), .val (.int z52), .unset, .unset, .unset, .unset, .unset, .unset, .unset, .unset, .unset] [(.int z48), (.int w50), (.ref pw), (.long z47), (.int z46), (.int z45), (.int (9 : Int32)), (.int (9 : Int32)), (.ref ar), (.ref ar)]))
    refine Run.go (fun _ k => XS.iload Xg98.here hx rfl (hb hby at_375) rfl  k) ?_
    show Run p e below s 2 28 (Q_rm0 Z q1 p2 p3 p4 p5 h0 n0) (T98.setTop (mkF m 377 #[.val (.long q1), .second, .val (.int p2), .val (.int p3), .val (.int p4), .val (.int p5), .val (.ref pw), .val (.int z45), .val (.int z46), .val (.long z47), .second, .val (.int z48), .val (.int w50), .val (.int z52), .unset, .unset, .unset, .unset, .unset, .unset, .unset, .unset, .unset] [(.int z52), (.int z48), (.int w50), (.ref pw), (.long z47), (.int z46), (.int z45), (.int (9 : Int32)), (.int (9 : Int32)), (.ref ar), (.ref ar)]))
    refine Run.go (fun _ k => XS.iload Xg98.here hx rfl (hb hby at_377) rfl  k) ?_
    show Run p e below s 2 28 (Q_rm0 Z q1 p2 p3 p4 p5 h0 n0) (T98.setTop (mkF m 379 #[.val (.long q1), .second, .val (.int p2), .val (.int p3), .val (.int p4), .val (.int p5), .val (.ref pw), .val (.int z45), .val (.int z46), .val (.long z47), .second, .val (.int z48), .val (.int w50), .val (.int z52), .unset, .unset, .unset, .unset, .unset, .unset, .unset, .unset, .unset] [(.int p5), (.int z52), (.int z48), (.int w50), (.ref pw), (.long z47), (.int z46), (.int z45), (.int (9 : Int32)), (.int (9 : Int32)), (.ref ar), (.ref ar)]))
    have fx102 := (fx97.other W98 ne_pw_ar)
    obtain ⟨_, _, ⟨T101, L101, k101, n101⟩, -, X101, ⟨Lc101, hQ101, l101, y101, z101⟩, st101⟩ := Jvm.LawKit.callS Xg98 hx (y := (⟨"com/example/comera/comera/sip/SyntaxUnsigned32PinLaw", "cell", "(IIIJ[JZIBI)B"⟩ : MethodName)) hown (mvT hZ (hw _ (List.mem_of_getElem? (i := 14) rfl))) (mvT hZ (hw _ (List.mem_of_getElem? (i := 15) rfl))) (mvT hZ (hw _ (List.mem_of_getElem? (i := 16) rfl))) (mvT hZ (hw _ (List.mem_of_getElem? (i := 17) rfl))) (by decide) (backOf (W := 3) (rm1 l Z a0 hw [] (9 : Int32) z45 z46 z47 pw w50 z48 z52 p5 ff44 h98 n0 Z98 fx102 hpw (by rw [hz45]; exact (own_s p2).1) (by rw [hz45]; exact (own_s p2).2) (by rw [hz46]; exact (own_ln p2).1) (by rw [hz46]; exact (own_ln p2).2.1) (by rw [hz52]; exact b_idem _)) hZ (hw _ (List.mem_of_getElem? (i := 17) rfl)) (hw _ (List.mem_of_getElem? (i := 16) rfl)) (by decide) (by decide)) (g := (mkF m 379 #[.val (.long q1), .second, .val (.int p2), .val (.int p3), .val (.int p4), .val (.int p5), .val (.ref pw), .val (.int z45), .val (.int z46), .val (.long z47), .second, .val (.int z48), .val (.int w50), .val (.int z52), .unset, .unset, .unset, .unset, .unset, .unset, .unset, .unset, .unset] [(.int p5), (.int z52), (.int z48), (.int w50), (.ref pw), (.long z47), (.int z46), (.int z45), (.int (9 : Int32)), (.int (9 : Int32)), (.ref ar), (.ref ar)])) rfl (by rw [hml]; rfl) (argsL := [(.int (9 : Int32)), (.int z45), (.int z46), (.long z47), (.ref pw), (.int w50), (.int z48), (.int z52), (.int p5)]) (rest := [(.int (9 : Int32)), (.ref ar), (.ref ar)]) (lenOf pd_0 rfl) rfl (by show 2 * 0 + _ ≤ _; exact Nat.le_of_eq rfl) (hb hby at_379) (fun _ _ => ⟨rfl, e98, (by decide : 2 + 0 ≤ _), (by decide : 28 + 0 ≤ _)⟩)
    dsimp only [Pt.U, Pt.locs, Pt.cells, Pt.slots] at X101 l101 y101 z101 st101 hQ101
    subst l101 y101 z101
    obtain ⟨rfl, N101q, e101q⟩ := hQ101
    have N101 := Fr.app Ng98 N101q
    obtain ⟨Lg101, Xg101, Ng101⟩ := Stand_gen X101 N101
    refine Run.go st101 ?_
    show Run p e below s 2 28 (Q_rm0 Z q1 p2 p3 p4 p5 h0 n0) (T101.setTop (mkF m 382 #[.val (.long q1), .second, .val (.int p2), .val (.int p3), .val (.int p4), .val (.int p5), .val (.ref pw), .val (.int z45), .val (.int z46), .val (.long z47), .second, .val (.int z48), .val (.int w50), .val (.int z52), .unset, .unset, .unset, .unset, .unset, .unset, .unset, .unset, .unset] [(.int (F_rm1 (9 : Int32) z45 z46 z47 w50 z48 z52 p5)), (.int (9 : Int32)), (.ref ar), (.ref ar)]))
    obtain ⟨T103, h103, X103, e103, W103, st103⟩ := ary_bset Xg101 hx hZ e101q fx99 (j := (9 : Int32)) (by decide) (by decide) (g := (mkF m 382 #[.val (.long q1), .second, .val (.int p2), .val (.int p3), .val (.int p4), .val (.int p5), .val (.ref pw), .val (.int z45), .val (.int z46), .val (.long z47), .second, .val (.int z48), .val (.int w50), .val (.int z52), .unset, .unset, .unset, .unset, .unset, .unset, .unset, .unset, .unset] [(.int (F_rm1 (9 : Int32) z45 z46 z47 w50 z48 z52 p5)), (.int (9 : Int32)), (.ref ar), (.ref ar)])) rfl rfl (hb hby at_382) (y := (F_rm1 (9 : Int32) z45 z46 z47 w50 z48 z52 p5)) (own_cell_b _ _ _ _ _ _ _ _ (by rw [hz52]; exact b_idem _))
    have N103 := Fr.snoc X103 Ng101 g_ar
    have Z103 : n0 ≤ h103.size := Nat.le_trans Z98 (Keep.of_wr W103).1
    obtain ⟨Lg103, Xg103, Ng103⟩ := Stand_gen X103 N103
    have fx104 : Ary Z h103 ar .byte 16 (fun i => if i = 9 then (.int (F_rm1 (9 : Int32) z45 z46 z47 w50 z48 z52 p5)) else ff100 i) := fx99.same W103
    obtain ⟨ff105, hff105⟩ : ∃ f : Nat → Value, f = (fun i => if i = 9 then (.int (F_rm1 (9 : Int32) z45 z46 z47 w50 z48 z52 p5)) else ff100 i) := ⟨_, rfl⟩
    rw [← hff105] at fx104
    refine Run.go st103 ?_
    show Run p e below s 2 28 (Q_rm0 Z q1 p2 p3 p4 p5 h0 n0) (T103.setTop (mkF m 383 #[.val (.long q1), .second, .val (.int p2), .val (.int p3), .val (.int p4), .val (.int p5), .val (.ref pw), .val (.int z45), .val (.int z46), .val (.long z47), .second, .val (.int z48), .val (.int w50), .val (.int z52), .unset, .unset, .unset, .unset, .unset, .unset, .unset, .unset, .unset] [(.ref ar)]))
    refine Run.go (fun _ k => XS.dup Xg103.here hx rfl (hb hby at_383) rfl rfl k) ?_
    show Run p e below s 2 28 (Q_rm0 Z q1 p2 p3 p4 p5 h0 n0) (T103.setTop (mkF m 384 #[.val (.long q1), .second, .val (.int p2), .val (.int p3), .val (.int p4), .val (.int p5), .val (.ref pw), .val (.int z45), .val (.int z46), .val (.long z47), .second, .val (.int z48), .val (.int w50), .val (.int z52), .unset, .unset, .unset, .unset, .unset, .unset, .unset, .unset, .unset] [(.ref ar), (.ref ar)]))
    refine Run.go (fun _ k => XS.bipush Xg103.here hx rfl (hb hby at_384) k) ?_
    show Run p e below s 2 28 (Q_rm0 Z q1 p2 p3 p4 p5 h0 n0) (T103.setTop (mkF m 386 #[.val (.long q1), .second, .val (.int p2), .val (.int p3), .val (.int p4), .val (.int p5), .val (.ref pw), .val (.int z45), .val (.int z46), .val (.long z47), .second, .val (.int z48), .val (.int w50), .val (.int z52), .unset, .unset, .unset, .unset, .unset, .unset, .unset, .unset, .unset] [(.int (10 : Int32)), (.ref ar), (.ref ar)]))
    refine Run.go (fun _ k => XS.bipush Xg103.here hx rfl (hb hby at_386) k) ?_
    show Run p e below s 2 28 (Q_rm0 Z q1 p2 p3 p4 p5 h0 n0) (T103.setTop (mkF m 388 #[.val (.long q1), .second, .val (.int p2), .val (.int p3), .val (.int p4), .val (.int p5), .val (.ref pw), .val (.int z45), .val (.int z46), .val (.long z47), .second, .val (.int z48), .val (.int w50), .val (.int z52), .unset, .unset, .unset, .unset, .unset, .unset, .unset, .unset, .unset] [(.int (10 : Int32)), (.int (10 : Int32)), (.ref ar), (.ref ar)]))
    refine Run.go (fun _ k => XS.iload Xg103.here hx rfl (hb hby at_388) rfl  k) ?_
    show Run p e below s 2 28 (Q_rm0 Z q1 p2 p3 p4 p5 h0 n0) (T103.setTop (mkF m 390 #[.val (.long q1), .second, .val (.int p2), .val (.int p3), .val (.int p4), .val (.int p5), .val (.ref pw), .val (.int z45), .val (.int z46), .val (.long z47), .second, .val (.int z48), .val (.int w50), .val (.int z52), .unset, .unset, .unset, .unset, .unset, .unset, .unset, .unset, .unset] [(.int z45), (.int (10 : Int32)), (.int (10 : Int32)), (.ref ar), (.ref ar)]))
    refine Run.go (fun _ k => XS.iload Xg103.here hx rfl (hb hby at_390) rfl  k) ?_
    show Run p e below s 2 28 (Q_rm0 Z q1 p2 p3 p4 p5 h0 n0) (T103.setTop (mkF m 392 #[.val (.long q1), .second, .val (.int p2), .val (.int p3), .val (.int p4), .val (.int p5), .val (.ref pw), .val (.int z45), .val (.int z46), .val (.long z47), .second, .val (.int z48), .val (.int w50), .val (.int z52), .unset, .unset, .unset, .unset, .unset, .unset, .unset, .unset, .unset] [(.int z46), (.int z45), (.int (10 : Int32)), (.int (10 : Int32)), (.ref ar), (.ref ar)]))
    refine Run.go (fun _ k => XS.lload Xg103.here hx rfl (hb hby at_392) rfl  k) ?_
    show Run p e below s 2 28 (Q_rm0 Z q1 p2 p3 p4 p5 h0 n0) (T103.setTop (mkF m 394 #[.val (.long q1), .second, .val (.int p2), .val (.int p3), .val (.int p4), .val (.int p5), .val (.ref pw), .val (.int z45), .val (.int z46), .val (.long z47), .second, .val (.int z48), .val (.int w50), .val (.int z52), .unset, .unset, .unset, .unset, .unset, .unset, .unset, .unset, .unset] [(.long z47), (.int z46), (.int z45), (.int (10 : Int32)), (.int (10 : Int32)), (.ref ar), (.ref ar)]))
    refine Run.go (fun _ k => XS.aload Xg103.here hx rfl (hb hby at_394) rfl rfl k) ?_
    show Run p e below s 2 28 (Q_rm0 Z q1 p2 p3 p4 p5 h0 n0) (T103.setTop (mkF m 396 #[.val (.long q1), .second, .val (.int p2), .val (.int p3), .val (.int p4), .val (.int p5), .val (.ref pw), .val (.int z45), .val (.int z46), .val (.long z47), .second, .val (.int z48), .val (.int w50), .val (.int z52), .unset, .unset, .unset, .unset, .unset, .unset, .unset, .unset, .unset] [(.ref pw), (.long z47), (.int z46), (.int z45), (.int (10 : Int32)), (.int (10 : Int32)), (.ref ar), (.ref ar)]))
    refine Run.go (fun _ k => XS.iload Xg103.here hx rfl (hb hby at_396) rfl  k) ?_
    show Run p e below s 2 28 (Q_rm0 Z q1 p2 p3 p4 p5 h0 n0) (T103.setTop (mkF m 398 #[.val (.long q1), .second, .val (.int p2), .val (.int p3), .val (.int p4), .val (.int p5), .val (.ref pw), .val (.int z45), .val (.int z46), .val (.long z47), .second, .val (.int z48), .val (.int w50), .val (.int z52), .unset, .unset, .unset, .unset, .unset, .unset, .unset, .unset, .unset] [(.int w50), (.ref pw), (.long z47), (.int z46), (.int z45), (.int (10 : Int32)), (.int (10 : Int32)), (.ref ar), (.ref ar)]))
    refine Run.go (fun _ k => XS.iload Xg103.here hx rfl (hb hby at_398) rfl  k) ?_
    show Run p e below s 2 28 (Q_rm0 Z q1 p2 p3 p4 p5 h0 n0) (T103.setTop (mkF m 400 #[.val (.long q1), .second, .val (.int p2), .val (.int p3), .val (.int p4), .val (.int p5), .val (.ref pw), .val (.int z45), .val (.int z46), .val (.long z47), .second, .val (.int z48), .val (.int w50), .val (.int z52), .unset, .unset, .unset, .unset, .unset, .unset, .unset, .unset, .unset] [(.int z48), (.int w50), (.ref pw), (.long z47), (.int z46), (.int z45), (.int (10 : Int32)), (.int (10 : Int32)), (.ref ar), (.ref ar)]))
    refine Run.go (fun _ k => XS.iload Xg103.here hx rfl (hb hby at_400) rfl  k) ?_
    show Run p e below s 2 28 (Q_rm0 Z q1 p2 p3 p4 p5 h0 n0) (T103.setTop (mkF m 402 #[.val (.long q1), .second, .val (.int p2), .val (.int p3), .val (.int p4), .val (.int p5), .val (.ref pw), .val (.int z45), .val (.int z46), .val (.long z47), .second, .val (.int z48), .val (.int w50), .val (.int z52), .unset, .unset, .unset, .unset, .unset, .unset, .unset, .unset, .unset] [(.int z52), (.int z48), (.int w50), (.ref pw), (.long z47), (.int z46), (.int z45), (.int (10 : Int32)), (.int (10 : Int32)), (.ref ar), (.ref ar)]))
    refine Run.go (fun _ k => XS.iload Xg103.here hx rfl (hb hby at_402) rfl  k) ?_
    show Run p e below s 2 28 (Q_rm0 Z q1 p2 p3 p4 p5 h0 n0) (T103.setTop (mkF m 404 #[.val (.long q1), .second, .val (.int p2), .val (.int p3), .val (.int p4), .val (.int p5), .val (.ref pw), .val (.int z45), .val (.int z46), .val (.long z47), .second, .val (.int z48), .val (.int w50), .val (.int z52), .unset, .unset, .unset, .unset, .unset, .unset, .unset, .unset, .unset] [(.int p5), (.int z52), (.int z48), (.int w50), (.ref pw), (.long z47), (.int z46), (.int z45), (.int (10 : Int32)), (.int (10 : Int32)), (.ref ar), (.ref ar)]))
    have fx107 := (fx102.other W103 ne_pw_ar)
    obtain ⟨_, _, ⟨T106, L106, k106, n106⟩, -, X106, ⟨Lc106, hQ106, l106, y106, z106⟩, st106⟩ := Jvm.LawKit.callS Xg103 hx (y := (⟨"com/example/comera/comera/sip/SyntaxUnsigned32PinLaw", "cell", "(IIIJ[JZIBI)B"⟩ : MethodName)) hown (mvT hZ (hw _ (List.mem_of_getElem? (i := 14) rfl))) (mvT hZ (hw _ (List.mem_of_getElem? (i := 15) rfl))) (mvT hZ (hw _ (List.mem_of_getElem? (i := 16) rfl))) (mvT hZ (hw _ (List.mem_of_getElem? (i := 17) rfl))) (by decide) (backOf (W := 3) (rm1 l Z a0 hw [] (10 : Int32) z45 z46 z47 pw w50 z48 z52 p5 ff44 h103 n0 Z103 fx107 hpw (by rw [hz45]; exact (own_s p2).1) (by rw [hz45]; exact (own_s p2).2) (by rw [hz46]; exact (own_ln p2).1) (by rw [hz46]; exact (own_ln p2).2.1) (by rw [hz52]; exact b_idem _)) hZ (hw _ (List.mem_of_getElem? (i := 17) rfl)) (hw _ (List.mem_of_getElem? (i := 16) rfl)) (by decide) (by decide)) (g := (mkF m 404 #[.val (.long q1), .second, .val (.int p2), .val (.int p3), .val (.int p4), .val (.int p5), .val (.ref pw), .val (.int z45), .val (.int z46), .val (.long z47), .second, .val (.int z48), .val (.int w50), .val (.int z52), .unset, .unset, .unset, .unset, .unset, .unset, .unset, .unset, .unset] [(.int p5), (.int z52), (.int z48), (.int w50), (.ref pw), (.long z47), (.int z46), (.int z45), (.int (10 : Int32)), (.int (10 : Int32)), (.ref ar), (.ref ar)])) rfl (by rw [hml]; rfl) (argsL := [(.int (10 : Int32)), (.int z45), (.int z46), (.long z47), (.ref pw), (.int w50), (.int z48), (.int z52), (.int p5)]) (rest := [(.int (10 : Int32)), (.ref ar), (.ref ar)]) (lenOf pd_0 rfl) rfl (by show 2 * 0 + _ ≤ _; exact Nat.le_of_eq rfl) (hb hby at_404) (fun _ _ => ⟨rfl, e103, (by decide : 2 + 0 ≤ _), (by decide : 28 + 0 ≤ _)⟩)
    dsimp only [Pt.U, Pt.locs, Pt.cells, Pt.slots] at X106 l106 y106 z106 st106 hQ106
    subst l106 y106 z106
    obtain ⟨rfl, N106q, e106q⟩ := hQ106
    have N106 := Fr.app Ng103 N106q
    obtain ⟨Lg106, Xg106, Ng106⟩ := Stand_gen X106 N106
    refine Run.go st106 ?_
    show Run p e below s 2 28 (Q_rm0 Z q1 p2 p3 p4 p5 h0 n0) (T106.setTop (mkF m 407 #[.val (.long q1), .second, .val (.int p2), .val (.int p3), .val (.int p4), .val (.int p5), .val (.ref pw), .val (.int z45), .val (.int z46), .val (.long z47), .second, .val (.int z48), .val (.int w50), .val (.int z52), .unset, .unset, .unset, .unset, .unset, .unset, .unset, .unset, .unset] [(.int (F_rm1 (10 : Int32) z45 z46 z47 w50 z48 z52 p5)), (.int (10 : Int32)), (.ref ar), (.ref ar)]))
    obtain ⟨T108, h108, X108, e108, W108, st108⟩ := ary_bset Xg106 hx hZ e106q fx104 (j := (10 : Int32)) (by decide) (by decide) (g := (mkF m 407 #[.val (.long q1), .second, .val (.int p2), .val (.int p3), .val (.int p4), .val (.int p5), .val (.ref pw), .val (.int z45), .val (.int z46), .val (.long z47), .second, .val (.int z48), .val (.int w50), .val (.int z52), .unset, .unset, .unset, .unset, .unset, .unset, .unset, .unset, .unset] [(.int (F_rm1 (10 : Int32) z45 z46 z47 w50 z48 z52 p5)), (.int (10 : Int32)), (.ref ar), (.ref ar)])) rfl rfl (hb hby at_407) (y := (F_rm1 (10 : Int32) z45 z46 z47 w50 z48 z52 p5)) (own_cell_b _ _ _ _ _ _ _ _ (by rw [hz52]; exact b_idem _))
    have N108 := Fr.snoc X108 Ng106 g_ar
    have Z108 : n0 ≤ h108.size := Nat.le_trans Z103 (Keep.of_wr W108).1
    obtain ⟨Lg108, Xg108, Ng108⟩ := Stand_gen X108 N108
    have fx109 : Ary Z h108 ar .byte 16 (fun i => if i = 10 then (.int (F_rm1 (10 : Int32) z45 z46 z47 w50 z48 z52 p5)) else ff105 i) := fx104.same W108
    obtain ⟨ff110, hff110⟩ : ∃ f : Nat → Value, f = (fun i => if i = 10 then (.int (F_rm1 (10 : Int32) z45 z46 z47 w50 z48 z52 p5)) else ff105 i) := ⟨_, rfl⟩
    rw [← hff110] at fx109
    refine Run.go st108 ?_
    show Run p e below s 2 28 (Q_rm0 Z q1 p2 p3 p4 p5 h0 n0) (T108.setTop (mkF m 408 #[.val (.long q1), .second, .val (.int p2), .val (.int p3), .val (.int p4), .val (.int p5), .val (.ref pw), .val (.int z45), .val (.int z46), .val (.long z47), .second, .val (.int z48), .val (.int w50), .val (.int z52), .unset, .unset, .unset, .unset, .unset, .unset, .unset, .unset, .unset] [(.ref ar)]))
    refine Run.go (fun _ k => XS.dup Xg108.here hx rfl (hb hby at_408) rfl rfl k) ?_
    show Run p e below s 2 28 (Q_rm0 Z q1 p2 p3 p4 p5 h0 n0) (T108.setTop (mkF m 409 #[.val (.long q1), .second, .val (.int p2), .val (.int p3), .val (.int p4), .val (.int p5), .val (.ref pw), .val (.int z45), .val (.int z46), .val (.long z47), .second, .val (.int z48), .val (.int w50), .val (.int z52), .unset, .unset, .unset, .unset, .unset, .unset, .unset, .unset, .unset] [(.ref ar), (.ref ar)]))
    refine Run.go (fun _ k => XS.bipush Xg108.here hx rfl (hb hby at_409) k) ?_
    show Run p e below s 2 28 (Q_rm0 Z q1 p2 p3 p4 p5 h0 n0) (T108.setTop (mkF m 411 #[.val (.long q1), .second, .val (.int p2), .val (.int p3), .val (.int p4), .val (.int p5), .val (.ref pw), .val (.int z45), .val (.int z46), .val (.long z47), .second, .val (.int z48), .val (.int w50), .val (.int z52), .unset, .unset, .unset, .unset, .unset, .unset, .unset, .unset, .unset] [(.int (11 : Int32)), (.ref ar), (.ref ar)]))
    refine Run.go (fun _ k => XS.bipush Xg108.here hx rfl (hb hby at_411) k) ?_
    show Run p e below s 2 28 (Q_rm0 Z q1 p2 p3 p4 p5 h0 n0) (T108.setTop (mkF m 413 #[.val (.long q1), .second, .val (.int p2), .val (.int p3), .val (.int p4), .val (.int p5), .val (.ref pw), .val (.int z45), .val (.int z46), .val (.long z47), .second, .val (.int z48), .val (.int w50), .val (.int z52), .unset, .unset, .unset, .unset, .unset, .unset, .unset, .unset, .unset] [(.int (11 : Int32)), (.int (11 : Int32)), (.ref ar), (.ref ar)]))
    refine Run.go (fun _ k => XS.iload Xg108.here hx rfl (hb hby at_413) rfl  k) ?_
    show Run p e below s 2 28 (Q_rm0 Z q1 p2 p3 p4 p5 h0 n0) (T108.setTop (mkF m 415 #[.val (.long q1), .second, .val (.int p2), .val (.int p3), .val (.int p4), .val (.int p5), .val (.ref pw), .val (.int z45), .val (.int z46), .val (.long z47), .second, .val (.int z48), .val (.int w50), .val (.int z52), .unset, .unset, .unset, .unset, .unset, .unset, .unset, .unset, .unset] [(.int z45), (.int (11 : Int32)), (.int (11 : Int32)), (.ref ar), (.ref ar)]))
    refine Run.go (fun _ k => XS.iload Xg108.here hx rfl (hb hby at_415) rfl  k) ?_
    show Run p e below s 2 28 (Q_rm0 Z q1 p2 p3 p4 p5 h0 n0) (T108.setTop (mkF m 417 #[.val (.long q1), .second, .val (.int p2), .val (.int p3), .val (.int p4), .val (.int p5), .val (.ref pw), .val (.int z45), .val (.int z46), .val (.long z47), .second, .val (.int z48), .val (.int w50), .val (.int z52), .unset, .unset, .unset, .unset, .unset, .unset, .unset, .unset, .unset] [(.int z46), (.int z45), (.int (11 : Int32)), (.int (11 : Int32)), (.ref ar), (.ref ar)]))
    refine Run.go (fun _ k => XS.lload Xg108.here hx rfl (hb hby at_417) rfl  k) ?_
    show Run p e below s 2 28 (Q_rm0 Z q1 p2 p3 p4 p5 h0 n0) (T108.setTop (mkF m 419 #[.val (.long q1), .second, .val (.int p2), .val (.int p3), .val (.int p4), .val (.int p5), .val (.ref pw), .val (.int z45), .val (.int z46), .val (.long z47), .second, .val (.int z48), .val (.int w50), .val (.int z52), .unset, .unset, .unset, .unset, .unset, .unset, .unset, .unset, .unset] [(.long z47), (.int z46), (.int z45), (.int (11 : Int32)), (.int (11 : Int32)), (.ref ar), (.ref ar)]))
    refine Run.go (fun _ k => XS.aload Xg108.here hx rfl (hb hby at_419) rfl rfl k) ?_
    show Run p e below s 2 28 (Q_rm0 Z q1 p2 p3 p4 p5 h0 n0) (T108.setTop (mkF m 421 #[.val (.long q1), .second, .val (.int p2), .val (.int p3), .val (.int p4), .val (.int p5), .val (.ref pw), .val (.int z45), .val (.int z46), .val (.long z47), .second, .val (.int z48), .val (.int w50), .val (.int z52), .unset, .unset, .unset, .unset, .unset, .unset, .unset, .unset, .unset] [(.ref pw), (.long z47), (.int z46), (.int z45), (.int (11 : Int32)), (.int (11 : Int32)), (.ref ar), (.ref ar)]))
    refine Run.go (fun _ k => XS.iload Xg108.here hx rfl (hb hby at_421) rfl  k) ?_
    show Run p e below s 2 28 (Q_rm0 Z q1 p2 p3 p4 p5 h0 n0) (T108.setTop (mkF m 423 #[.val (.long q1), .second, .val (.int p2), .val (.int p3), .val (.int p4), .val (.int p5), .val (.ref pw), .val (.int z45), .val (.int z46), .val (.long z47), .second, .val (.int z48), .val (.int w50), .val (.int z52), .unset, .unset, .unset, .unset, .unset, .unset, .unset, .unset, .unset] [(.int w50), (.ref pw), (.long z47), (.int z46), (.int z45), (.int (11 : Int32)), (.int (11 : Int32)), (.ref ar), (.ref ar)]))
    refine Run.go (fun _ k => XS.iload Xg108.here hx rfl (hb hby at_423) rfl  k) ?_
    show Run p e below s 2 28 (Q_rm0 Z q1 p2 p3 p4 p5 h0 n0) (T108.setTop (mkF m 425 #[.val (.long q1), .second, .val (.int p2), .val (.int p3), .val (.int p4), .val (.int p5), .val (.ref pw), .val (.int z45), .val (.int z46), .val (.long z47), .second, .val (.int z48), .val (.int w50), .val (.int z52), .unset, .unset, .unset, .unset, .unset, .unset, .unset, .unset, .unset] [(.int z48), (.int w50), (.ref pw), (.long z47), (.int z46), (.int z45), (.int (11 : Int32)), (.int (11 : Int32)), (.ref ar), (.ref ar)]))
    refine Run.go (fun _ k => XS.iload Xg108.here hx rfl (hb hby at_425) rfl  k) ?_
    show Run p e below s 2 28 (Q_rm0 Z q1 p2 p3 p4 p5 h0 n0) (T108.setTop (mkF m 427 #[.val (.long q1), .second, .val (.int p2), .val (.int p3), .val (.int p4), .val (.int p5), .val (.ref pw), .val (.int z45), .val (.int z46), .val (.long z47), .second, .val (.int z48), .val (.int w50), .val (.int z52), .unset, .unset, .unset, .unset, .unset, .unset, .unset, .unset, .unset] [(.int z52), (.int z48), (.int w50), (.ref pw), (.long z47), (.int z46), (.int z45), (.int (11 : Int32)), (.int (11 : Int32)), (.ref ar), (.ref ar)]))
    refine Run.go (fun _ k => XS.iload Xg108.here hx rfl (hb hby at_427) rfl  k) ?_
    show Run p e below s 2 28 (Q_rm0 Z q1 p2 p3 p4 p5 h0 n0) (T108.setTop (mkF m 429 #[.val (.long q1), .second, .val (.int p2), .val (.int p3), .val (.int p4), .val (.int p5), .val (.ref pw), .val (.int z45), .val (.int z46), .val (.long z47), .second, .val (.int z48), .val (.int w50), .val (.int z52), .unset, .unset, .unset, .unset, .unset, .unset, .unset, .unset, .unset] [(.int p5), (.int z52), (.int z48), (.int w50), (.ref pw), (.long z47), (.int z46), (.int z45), (.int (11 : Int32)), (.int (11 : Int32)), (.ref ar), (.ref ar)]))
    have fx112 := (fx107.other W108 ne_pw_ar)
    obtain ⟨_, _, ⟨T111, L111, k111, n111⟩, -, X111, ⟨Lc111, hQ111, l111, y111, z111⟩, st111⟩ := Jvm.LawKit.callS Xg108 hx (y := (⟨"com/example/comera/comera/sip/SyntaxUnsigned32PinLaw", "cell", "(IIIJ[JZIBI)B"⟩ : MethodName)) hown (mvT hZ (hw _ (List.mem_of_getElem? (i := 14) rfl))) (mvT hZ (hw _ (List.mem_of_getElem? (i := 15) rfl))) (mvT hZ (hw _ (List.mem_of_getElem? (i := 16) rfl))) (mvT hZ (hw _ (List.mem_of_getElem? (i := 17) rfl))) (by decide) (backOf (W := 3) (rm1 l Z a0 hw [] (11 : Int32) z45 z46 z47 pw w50 z48 z52 p5 ff44 h108 n0 Z108 fx112 hpw (by rw [hz45]; exact (own_s p2).1) (by rw [hz45]; exact (own_s p2).2) (by rw [hz46]; exact (own_ln p2).1) (by rw [hz46]; exact (own_ln p2).2.1) (by rw [hz52]; exact b_idem _)) hZ (hw _ (List.mem_of_getElem? (i := 17) rfl)) (hw _ (List.mem_of_getElem? (i := 16) rfl)) (by decide) (by decide)) (g := (mkF m 429 #[.val (.long q1), .second, .val (.int p2), .val (.int p3), .val (.int p4), .val (.int p5), .val (.ref pw), .val (.int z45), .val (.int z46), .val (.long z47), .second, .val (.int z48), .val (.int w50), .val (.int z52), .unset, .unset, .unset, .unset, .unset, .unset, .unset, .unset, .unset] [(.int p5), (.int z52), (.int z48), (.int w50), (.ref pw), (.long z47), (.int z46), (.int z45), (.int (11 : Int32)), (.int (11 : Int32)), (.ref ar), (.ref ar)])) rfl (by rw [hml]; rfl) (argsL := [(.int (11 : Int32)), (.int z45), (.int z46), (.long z47), (.ref pw), (.int w50), (.int z48), (.int z52), (.int p5)]) (rest := [(.int (11 : Int32)), (.ref ar), (.ref ar)]) (lenOf pd_0 rfl) rfl (by show 2 * 0 + _ ≤ _; exact Nat.le_of_eq rfl) (hb hby at_429) (fun _ _ => ⟨rfl, e108, (by decide : 2 + 0 ≤ _), (by decide : 28 + 0 ≤ _)⟩)
    dsimp only [Pt.U, Pt.locs, Pt.cells, Pt.slots] at X111 l111 y111 z111 st111 hQ111
    subst l111 y111 z111
    obtain ⟨rfl, N111q, e111q⟩ := hQ111
    have N111 := Fr.app Ng108 N111q
    obtain ⟨Lg111, Xg111, Ng111⟩ := Stand_gen X111 N111
    refine Run.go st111 ?_
    show Run p e below s 2 28 (Q_rm0 Z q1 p2 p3 p4 p5 h0 n0) (T111.setTop (mkF m 432 #[.val (.long q1), .second, .val (.int p2), .val (.int p3), .val (.int p4), .val (.int p5), .val (.ref pw), .val (.int z45), .val (.int z46), .val (.long z47), .second, .val (.int z48), .val (.int w50), .val (.int z52), .unset, .unset, .unset, .unset, .unset, .unset, .unset, .unset, .unset] [(.int (F_rm1 (11 : Int32) z45 z46 z47 w50 z48 z52 p5)), (.int (11 : Int32)), (.ref ar), (.ref ar)]))
    obtain ⟨T113, h113, X113, e113, W113, st113⟩ := ary_bset Xg111 hx hZ e111q fx109 (j := (11 : Int32)) (by decide) (by decide) (g := (mkF m 432 #[.val (.long q1), .second, .val (.int p2), .val (.int p3), .val (.int p4), .val (.int p5), .val (.ref pw), .val (.int z45), .val (.int z46), .val (.long z47), .second, .val (.int z48), .val (.int w50), .val (.int z52), .unset, .unset, .unset, .unset, .unset, .unset, .unset, .unset, .unset] [(.int (F_rm1 (11 : Int32) z45 z46 z47 w50 z48 z52 p5)), (.int (11 : Int32)), (.ref ar), (.ref ar)])) rfl rfl (hb hby at_432) (y := (F_rm1 (11 : Int32) z45 z46 z47 w50 z48 z52 p5)) (own_cell_b _ _ _ _ _ _ _ _ (by rw [hz52]; exact b_idem _))
    have N113 := Fr.snoc X113 Ng111 g_ar
    have Z113 : n0 ≤ h113.size := Nat.le_trans Z108 (Keep.of_wr W113).1
    obtain ⟨Lg113, Xg113, Ng113⟩ := Stand_gen X113 N113
    have fx114 : Ary Z h113 ar .byte 16 (fun i => if i = 11 then (.int (F_rm1 (11 : Int32) z45 z46 z47 w50 z48 z52 p5)) else ff110 i) := fx109.same W113
    obtain ⟨ff115, hff115⟩ : ∃ f : Nat → Value, f = (fun i => if i = 11 then (.int (F_rm1 (11 : Int32) z45 z46 z47 w50 z48 z52 p5)) else ff110 i) := ⟨_, rfl⟩
    rw [← hff115] at fx114
    refine Run.go st113 ?_
    show Run p e below s 2 28 (Q_rm0 Z q1 p2 p3 p4 p5 h0 n0) (T113.setTop (mkF m 433 #[.val (.long q1), .second, .val (.int p2), .val (.int p3), .val (.int p4), .val (.int p5), .val (.ref pw), .val (.int z45), .val (.int z46), .val (.long z47), .second, .val (.int z48), .val (.int w50), .val (.int z52), .unset, .unset, .unset, .unset, .unset, .unset, .unset, .unset, .unset] [(.ref ar)]))
    refine Run.go (fun _ k => XS.dup Xg113.here hx rfl (hb hby at_433) rfl rfl k) ?_
    show Run p e below s 2 28 (Q_rm0 Z q1 p2 p3 p4 p5 h0 n0) (T113.setTop (mkF m 434 #[.val (.long q1), .second, .val (.int p2), .val (.int p3), .val (.int p4), .val (.int p5), .val (.ref pw), .val (.int z45), .val (.int z46), .val (.long z47), .second, .val (.int z48), .val (.int w50), .val (.int z52), .unset, .unset, .unset, .unset, .unset, .unset, .unset, .unset, .unset] [(.ref ar), (.ref ar)]))
    refine Run.go (fun _ k => XS.bipush Xg113.here hx rfl (hb hby at_434) k) ?_
    show Run p e below s 2 28 (Q_rm0 Z q1 p2 p3 p4 p5 h0 n0) (T113.setTop (mkF m 436 #[.val (.long q1), .second, .val (.int p2), .val (.int p3), .val (.int p4), .val (.int p5), .val (.ref pw), .val (.int z45), .val (.int z46), .val (.long z47), .second, .val (.int z48), .val (.int w50), .val (.int z52), .unset, .unset, .unset, .unset, .unset, .unset, .unset, .unset, .unset] [(.int (12 : Int32)), (.ref ar), (.ref ar)]))
    refine Run.go (fun _ k => XS.bipush Xg113.here hx rfl (hb hby at_436) k) ?_
    show Run p e below s 2 28 (Q_rm0 Z q1 p2 p3 p4 p5 h0 n0) (T113.setTop (mkF m 438 #[.val (.long q1), .second, .val (.int p2), .val (.int p3), .val (.int p4), .val (.int p5), .val (.ref pw), .val (.int z45), .val (.int z46), .val (.long z47), .second, .val (.int z48), .val (.int w50), .val (.int z52), .unset, .unset, .unset, .unset, .unset, .unset, .unset, .unset, .unset] [(.int (12 : Int32)), (.int (12 : Int32)), (.ref ar), (.ref ar)]))
    refine Run.go (fun _ k => XS.iload Xg113.here hx rfl (hb hby at_438) rfl  k) ?_
    show Run p e below s 2 28 (Q_rm0 Z q1 p2 p3 p4 p5 h0 n0) (T113.setTop (mkF m 440 #[.val (.long q1), .second, .val (.int p2), .val (.int p3), .val (.int p4), .val (.int p5), .val (.ref pw), .val (.int z45), .val (.int z46), .val (.long z47), .second, .val (.int z48), .val (.int w50), .val (.int z52), .unset, .unset, .unset, .unset, .unset, .unset, .unset, .unset, .unset] [(.int z45), (.int (12 : Int32)), (.int (12 : Int32)), (.ref ar), (.ref ar)]))
    refine Run.go (fun _ k => XS.iload Xg113.here hx rfl (hb hby at_440) rfl  k) ?_
    show Run p e below s 2 28 (Q_rm0 Z q1 p2 p3 p4 p5 h0 n0) (T113.setTop (mkF m 442 #[.val (.long q1), .second, .val (.int p2), .val (.int p3), .val (.int p4), .val (.int p5), .val (.ref pw), .val (.int z45), .val (.int z46), .val (.long z47), .second, .val (.int z48), .val (.int w50), .val (.int z52), .unset, .unset, .unset, .unset, .unset, .unset, .unset, .unset, .unset] [(.int z46), (.int z45), (.int (12 : Int32)), (.int (12 : Int32)), (.ref ar), (.ref ar)]))
    refine Run.go (fun _ k => XS.lload Xg113.here hx rfl (hb hby at_442) rfl  k) ?_
    show Run p e below s 2 28 (Q_rm0 Z q1 p2 p3 p4 p5 h0 n0) (T113.setTop (mkF m 444 #[.val (.long q1), .second, .val (.int p2), .val (.int p3), .val (.int p4), .val (.int p5), .val (.ref pw), .val (.int z45), .val (.int z46), .val (.long z47), .second, .val (.int z48), .val (.int w50), .val (.int z52), .unset, .unset, .unset, .unset, .unset, .unset, .unset, .unset, .unset] [(.long z47), (.int z46), (.int z45), (.int (12 : Int32)), (.int (12 : Int32)), (.ref ar), (.ref ar)]))
    refine Run.go (fun _ k => XS.aload Xg113.here hx rfl (hb hby at_444) rfl rfl k) ?_
    show Run p e below s 2 28 (Q_rm0 Z q1 p2 p3 p4 p5 h0 n0) (T113.setTop (mkF m 446 #[.val (.long q1), .second, .val (.int p2), .val (.int p3), .val (.int p4), .val (.int p5), .val (.ref pw), .val (.int z45), .val (.int z46), .val (.long z47), .second, .val (.int z48), .val (.int w50), .val (.int z52), .unset, .unset, .unset, .unset, .unset, .unset, .unset, .unset, .unset] [(.ref pw), (.long z47), (.int z46), (.int z45), (.int (12 : Int32)), (.int (12 : Int32)), (.ref ar), (.ref ar)]))
    refine Run.go (fun _ k => XS.iload Xg113.here hx rfl (hb hby at_446) rfl  k) ?_
    show Run p e below s 2 28 (Q_rm0 Z q1 p2 p3 p4 p5 h0 n0) (T113.setTop (mkF m 448 #[.val (.long q1), .second, .val (.int p2), .val (.int p3), .val (.int p4), .val (.int p5), .val (.ref pw), .val (.int z45), .val (.int z46), .val (.long z47), .second, .val (.int z48), .val (.int w50), .val (.int z52), .unset, .unset, .unset, .unset, .unset, .unset, .unset, .unset, .unset] [(.int w50), (.ref pw), (.long z47), (.int z46), (.int z45), (.int (12 : Int32)), (.int (12 : Int32)), (.ref ar), (.ref ar)]))
    refine Run.go (fun _ k => XS.iload Xg113.here hx rfl (hb hby at_448) rfl  k) ?_
    show Run p e below s 2 28 (Q_rm0 Z q1 p2 p3 p4 p5 h0 n0) (T113.setTop (mkF m 450 #[.val (.long q1), .second, .val (.int p2), .val (.int p3), .val (.int p4), .val (.int p5), .val (.ref pw), .val (.int z45), .val (.int z46), .val (.long z47), .second, .val (.int z48), .val (.int w50), .val (.int z52), .unset, .unset, .unset, .unset, .unset, .unset, .unset, .unset, .unset] [(.int z48), (.int w50), (.ref pw), (.long z47), (.int z46), (.int z45), (.int (12 : Int32)), (.int (12 : Int32)), (.ref ar), (.ref ar)]))
    refine Run.go (fun _ k => XS.iload Xg113.here hx rfl (hb hby at_450) rfl  k) ?_
    show Run p e below s 2 28 (Q_rm0 Z q1 p2 p3 p4 p5 h0 n0) (T113.setTop (mkF m 452 #[.val (.long q1), .second, .val (.int p2), .val (.int p3), .val (.int p4), .val (.int p5), .val (.ref pw), .val (.int z45), .val (.int z46), .val (.long z47), .second, .val (.int z48), .val (.int w50), .val (.int z52), .unset, .unset, .unset, .unset, .unset, .unset, .unset, .unset, .unset] [(.int z52), (.int z48), (.int w50), (.ref pw), (.long z47), (.int z46), (.int z45), (.int (12 : Int32)), (.int (12 : Int32)), (.ref ar), (.ref ar)]))
    refine Run.go (fun _ k => XS.iload Xg113.here hx rfl (hb hby at_452) rfl  k) ?_
    show Run p e below s 2 28 (Q_rm0 Z q1 p2 p3 p4 p5 h0 n0) (T113.setTop (mkF m 454 #[.val (.long q1), .second, .val (.int p2), .val (.int p3), .val (.int p4), .val (.int p5), .val (.ref pw), .val (.int z45), .val (.int z46), .val (.long z47), .second, .val (.int z48), .val (.int w50), .val (.int z52), .unset, .unset, .unset, .unset, .unset, .unset, .unset, .unset, .unset] [(.int p5), (.int z52), (.int z48), (.int w50), (.ref pw), (.long z47), (.int z46), (.int z45), (.int (12 : Int32)), (.int (12 : Int32)), (.ref ar), (.ref ar)]))
    have fx117 := (fx112.other W113 ne_pw_ar)
    obtain ⟨_, _, ⟨T116, L116, k116, n116⟩, -, X116, ⟨Lc116, hQ116, l116, y116, z116⟩, st116⟩ := Jvm.LawKit.callS Xg113 hx (y := (⟨"com/example/comera/comera/sip/SyntaxUnsigned32PinLaw", "cell", "(IIIJ[JZIBI)B"⟩ : MethodName)) hown (mvT hZ (hw _ (List.mem_of_getElem? (i := 14) rfl))) (mvT hZ (hw _ (List.mem_of_getElem? (i := 15) rfl))) (mvT hZ (hw _ (List.mem_of_getElem? (i := 16) rfl))) (mvT hZ (hw _ (List.mem_of_getElem? (i := 17) rfl))) (by decide) (backOf (W := 3) (rm1 l Z a0 hw [] (12 : Int32) z45 z46 z47 pw w50 z48 z52 p5 ff44 h113 n0 Z113 fx117 hpw (by rw [hz45]; exact (own_s p2).1) (by rw [hz45]; exact (own_s p2).2) (by rw [hz46]; exact (own_ln p2).1) (by rw [hz46]; exact (own_ln p2).2.1) (by rw [hz52]; exact b_idem _)) hZ (hw _ (List.mem_of_getElem? (i := 17) rfl)) (hw _ (List.mem_of_getElem? (i := 16) rfl)) (by decide) (by decide)) (g := (mkF m 454 #[.val (.long q1), .second, .val (.int p2), .val (.int p3), .val (.int p4), .val (.int p5), .val (.ref pw), .val (.int z45), .val (.int z46), .val (.long z47), .second, .val (.int z48), .val (.int w50), .val (.int z52), .unset, .unset, .unset, .unset, .unset, .unset, .unset, .unset, .unset] [(.int p5), (.int z52), (.int z48), (.int w50), (.ref pw), (.long z47), (.int z46), (.int z45), (.int (12 : Int32)), (.int (12 : Int32)), (.ref ar), (.ref ar)])) rfl (by rw [hml]; rfl) (argsL := [(.int (12 : Int32)), (.int z45), (.int z46), (.long z47), (.ref pw), (.int w50), (.int z48), (.int z52), (.int p5)]) (rest := [(.int (12 : Int32)), (.ref ar), (.ref ar)]) (lenOf pd_0 rfl) rfl (by show 2 * 0 + _ ≤ _; exact Nat.le_of_eq rfl) (hb hby at_454) (fun _ _ => ⟨rfl, e113, (by decide : 2 + 0 ≤ _), (by decide : 28 + 0 ≤ _)⟩)
    dsimp only [Pt.U, Pt.locs, Pt.cells, Pt.slots] at X116 l116 y116 z116 st116 hQ116
    subst l116 y116 z116
    obtain ⟨rfl, N116q, e116q⟩ := hQ116
    have N116 := Fr.app Ng113 N116q
    obtain ⟨Lg116, Xg116, Ng116⟩ := Stand_gen X116 N116
    refine Run.go st116 ?_
    show Run p e below s 2 28 (Q_rm0 Z q1 p2 p3 p4 p5 h0 n0) (T116.setTop (mkF m 457 #[.val (.long q1), .second, .val (.int p2), .val (.int p3), .val (.int p4), .val (.int p5), .val (.ref pw), .val (.int z45), .val (.int z46), .val (.long z47), .second, .val (.int z48), .val (.int w50), .val (.int z52), .unset, .unset, .unset, .unset, .unset, .unset, .unset, .unset, .unset] [(.int (F_rm1 (12 : Int32) z45 z46 z47 w50 z48 z52 p5)), (.int (12 : Int32)), (.ref ar), (.ref ar)]))
    obtain ⟨T118, h118, X118, e118, W118, st118⟩ := ary_bset Xg116 hx hZ e116q fx114 (j := (12 : Int32)) (by decide) (by decide) (g := (mkF m 457 #[.val (.long q1), .second, .val (.int p2), .val (.int p3), .val (.int p4), .val (.int p5), .val (.ref pw), .val (.int z45), .val (.int z46), .val (.long z47), .second, .val (.int z48), .val (.int w50), .val (.int z52), .unset, .unset, .unset, .unset, .unset, .unset, .unset, .unset, .unset] [(.int (F_rm1 (12 : Int32) z45 z46 z47 w50 z48 z52 p5)), (.int (12 : Int32)), (.ref ar), (.ref ar)])) rfl rfl (hb hby at_457) (y := (F_rm1 (12 : Int32) z45 z46 z47 w50 z48 z52 p5)) (own_cell_b _ _ _ _ _ _ _ _ (by rw [hz52]; exact b_idem _))
    have N118 := Fr.snoc X118 Ng116 g_ar
    have Z118 : n0 ≤ h118.size := Nat.le_trans Z113 (Keep.of_wr W118).1
    obtain ⟨Lg118, Xg118, Ng118⟩ := Stand_gen X118 N118
    have fx119 : Ary Z h118 ar .byte 16 (fun i => if i = 12 then (.int (F_rm1 (12 : Int32) z45 z46 z47 w50 z48 z52 p5)) else ff115 i) := fx114.same W118
    obtain ⟨ff120, hff120⟩ : ∃ f : Nat → Value, f = (fun i => if i = 12 then (.int (F_rm1 (12 : Int32) z45 z46 z47 w50 z48 z52 p5)) else ff115 i) := ⟨_, rfl⟩
    rw [← hff120] at fx119
    refine Run.go st118 ?_
    show Run p e below s 2 28 (Q_rm0 Z q1 p2 p3 p4 p5 h0 n0) (T118.setTop (mkF m 458 #[.val (.long q1), .second, .val (.int p2), .val (.int p3), .val (.int p4), .val (.int p5), .val (.ref pw), .val (.int z45), .val (.int z46), .val (.long z47), .second, .val (.int z48), .val (.int w50), .val (.int z52), .unset, .unset, .unset, .unset, .unset, .unset, .unset, .unset, .unset] [(.ref ar)]))
    refine Run.go (fun _ k => XS.dup Xg118.here hx rfl (hb hby at_458) rfl rfl k) ?_
    show Run p e below s 2 28 (Q_rm0 Z q1 p2 p3 p4 p5 h0 n0) (T118.setTop (mkF m 459 #[.val (.long q1), .second, .val (.int p2), .val (.int p3), .val (.int p4), .val (.int p5), .val (.ref pw), .val (.int z45), .val (.int z46), .val (.long z47), .second, .val (.int z48), .val (.int w50), .val (.int z52), .unset, .unset, .unset, .unset, .unset, .unset, .unset, .unset, .unset] [(.ref ar), (.ref ar)]))
    refine Run.go (fun _ k => XS.bipush Xg118.here hx rfl (hb hby at_459) k) ?_
    show Run p e below s 2 28 (Q_rm0 Z q1 p2 p3 p4 p5 h0 n0) (T118.setTop (mkF m 461 #[.val (.long q1), .second, .val (.int p2), .val (.int p3), .val (.int p4), .val (.int p5), .val (.ref pw), .val (.int z45), .val (.int z46), .val (.long z47), .second, .val (.int z48), .val (.int w50), .val (.int z52), .unset, .unset, .unset, .unset, .unset, .unset, .unset, .unset, .unset] [(.int (13 : Int32)), (.ref ar), (.ref ar)]))
    refine Run.go (fun _ k => XS.bipush Xg118.here hx rfl (hb hby at_461) k) ?_
    show Run p e below s 2 28 (Q_rm0 Z q1 p2 p3 p4 p5 h0 n0) (T118.setTop (mkF m 463 #[.val (.long q1), .second, .val (.int p2), .val (.int p3), .val (.int p4), .val (.int p5), .val (.ref pw), .val (.int z45), .val (.int z46), .val (.long z47), .second, .val (.int z48), .val (.int w50), .val (.int z52), .unset, .unset, .unset, .unset, .unset, .unset, .unset, .unset, .unset] [(.int (13 : Int32)), (.int (13 : Int32)), (.ref ar), (.ref ar)]))
    refine Run.go (fun _ k => XS.iload Xg118.here hx rfl (hb hby at_463) rfl  k) ?_
    show Run p e below s 2 28 (Q_rm0 Z q1 p2 p3 p4 p5 h0 n0) (T118.setTop (mkF m 465 #[.val (.long q1), .second, .val (.int p2), .val (.int p3), .val (.int p4), .val (.int p5), .val (.ref pw), .val (.int z45), .val (.int z46), .val (.long z47), .second, .val (.int z48), .val (.int w50), .val (.int z52), .unset, .unset, .unset, .unset, .unset, .unset, .unset, .unset, .unset] [(.int z45), (.int (13 : Int32)), (.int (13 : Int32)), (.ref ar), (.ref ar)]))
    refine Run.go (fun _ k => XS.iload Xg118.here hx rfl (hb hby at_465) rfl  k) ?_
    show Run p e below s 2 28 (Q_rm0 Z q1 p2 p3 p4 p5 h0 n0) (T118.setTop (mkF m 467 #[.val (.long q1), .second, .val (.int p2), .val (.int p3), .val (.int p4), .val (.int p5), .val (.ref pw), .val (.int z45), .val (.int z46), .val (.long z47), .second, .val (.int z48), .val (.int w50), .val (.int z52), .unset, .unset, .unset, .unset, .unset, .unset, .unset, .unset, .unset] [(.int z46), (.int z45), (.int (13 : Int32)), (.int (13 : Int32)), (.ref ar), (.ref ar)]))
    refine Run.go (fun _ k => XS.lload Xg118.here hx rfl (hb hby at_467) rfl  k) ?_
    show Run p e below s 2 28 (Q_rm0 Z q1 p2 p3 p4 p5 h0 n0) (T118.setTop (mkF m 469 #[.val (.long q1), .second, .val (.int p2), .val (.int p3), .val (.int p4), .val (.int p5), .val (.ref pw), .val (.int z45), .val (.int z46), .val (.long z47), .second, .val (.int z48), .val (.int w50), .val (.int z52), .unset, .unset, .unset, .unset, .unset, .unset, .unset, .unset, .unset] [(.long z47), (.int z46), (.int z45), (.int (13 : Int32)), (.int (13 : Int32)), (.ref ar), (.ref ar)]))
    refine Run.go (fun _ k => XS.aload Xg118.here hx rfl (hb hby at_469) rfl rfl k) ?_
    show Run p e below s 2 28 (Q_rm0 Z q1 p2 p3 p4 p5 h0 n0) (T118.setTop (mkF m 471 #[.val (.long q1), .second, .val (.int p2), .val (.int p3), .val (.int p4), .val (.int p5), .val (.ref pw), .val (.int z45), .val (.int z46), .val (.long z47), .second, .val (.int z48), .val (.int w50), .val (.int z52), .unset, .unset, .unset, .unset, .unset, .unset, .unset, .unset, .unset] [(.ref pw), (.long z47), (.int z46), (.int z45), (.int (13 : Int32)), (.int (13 : Int32)), (.ref ar), (.ref ar)]))
    refine Run.go (fun _ k => XS.iload Xg118.here hx rfl (hb hby at_471) rfl  k) ?_
    show Run p e below s 2 28 (Q_rm0 Z q1 p2 p3 p4 p5 h0 n0) (T118.setTop (mkF m 473 #[.val (.long q1), .second, .val (.int p2), .val (.int p3), .val (.int p4), .val (.int p5), .val (.ref pw), .val (.int z45), .val (.int z46), .val (.long z47), .second, .val (.int z48), .val (.int w50), .val (.int z52), .unset, .unset, .unset, .unset, .unset, .unset, .unset, .unset, .unset] [(.int w50), (.ref pw), (.long z47), (.int z46), (.int z45), (.int (13 : Int32)), (.int (13 : Int32)), (.ref ar), (.ref ar)]))
    refine Run.go (fun _ k => XS.iload Xg118.here hx rfl (hb hby at_473) rfl  k) ?_
    show Run p e below s 2 28 (Q_rm0 Z q1 p2 p3 p4 p5 h0 n0) (T118.setTop (mkF m 475 #[.val (.long q1), .second, .val (.int p2), .val (.int p3), .val (.int p4), .val (.int p5), .val (.ref pw), .val (.int z45), .val (.int z46), .val (.long z47), .second, .val (.int z48), .val (.int w50), .val (.int z52), .unset, .unset, .unset, .unset, .unset, .unset, .unset, .unset, .unset] [(.int z48), (.int w50), (.ref pw), (.long z47), (.int z46), (.int z45), (.int (13 : Int32)), (.int (13 : Int32)), (.ref ar), (.ref ar)]))
    refine Run.go (fun _ k => XS.iload Xg118.here hx rfl (hb hby at_475) rfl  k) ?_
    show Run p e below s 2 28 (Q_rm0 Z q1 p2 p3 p4 p5 h0 n0) (T118.setTop (mkF m 477 #[.val (.long q1), .second, .val (.int p2), .val (.int p3), .val (.int p4), .val (.int p5), .val (.ref pw), .val (.int z45), .val (.int z46), .val (.long z47), .second, .val (.int z48), .val (.int w50), .val (.int z52), .unset, .unset, .unset, .unset, .unset, .unset, .unset, .unset, .unset] [(.int z52), (.int z48), (.int w50), (.ref pw), (.long z47), (.int z46), (.int z45), (.int (13 : Int32)), (.int (13 : Int32)), (.ref ar), (.ref ar)]))
    refine Run.go (fun _ k => XS.iload Xg118.here hx rfl (hb hby at_477) rfl  k) ?_
    show Run p e below s 2 28 (Q_rm0 Z q1 p2 p3 p4 p5 h0 n0) (T118.setTop (mkF m 479 #[.val (.long q1), .second, .val (.int p2), .val (.int p3), .val (.int p4), .val (.int p5), .val (.ref pw), .val (.int z45), .val (.int z46), .val (.long z47), .second, .val (.int z48), .val (.int w50), .val (.int z52), .unset, .unset, .unset, .unset, .unset, .unset, .unset, .unset, .unset] [(.int p5), (.int z52), (.int z48), (.int w50), (.ref pw), (.long z47), (.int z46), (.int z45), (.int (13 : Int32)), (.int (13 : Int32)), (.ref ar), (.ref ar)]))
    have fx122 := (fx117.other W118 ne_pw_ar)
    obtain ⟨_, _, ⟨T121, L121, k121, n121⟩, -, X121, ⟨Lc121, hQ121, l121, y121, z121⟩, st121⟩ := Jvm.LawKit.callS Xg118 hx (y := (⟨"com/example/comera/comera/sip/SyntaxUnsigned32PinLaw", "cell", "(IIIJ[JZIBI)B"⟩ : MethodName)) hown (mvT hZ (hw _ (List.mem_of_getElem? (i := 14) rfl))) (mvT hZ (hw _ (List.mem_of_getElem? (i := 15) rfl))) (mvT hZ (hw _ (List.mem_of_getElem? (i := 16) rfl))) (mvT hZ (hw _ (List.mem_of_getElem? (i := 17) rfl))) (by decide) (backOf (W := 3) (rm1 l Z a0 hw [] (13 : Int32) z45 z46 z47 pw w50 z48 z52 p5 ff44 h118 n0 Z118 fx122 hpw (by rw [hz45]; exact (own_s p2).1) (by rw [hz45]; exact (own_s p2).2) (by rw [hz46]; exact (own_ln p2).1) (by rw [hz46]; exact (own_ln p2).2.1) (by rw [hz52]; exact b_idem _)) hZ (hw _ (List.mem_of_getElem? (i := 17) rfl)) (hw _ (List.mem_of_getElem? (i := 16) rfl)) (by decide) (by decide)) (g := (mkF m 479 #[.val (.long q1), .second, .val (.int p2), .val (.int p3), .val (.int p4), .val (.int p5), .val (.ref pw), .val (.int z45), .val (.int z46), .val (.long z47), .second, .val (.int z48), .val (.int w50), .val (.int z52), .unset, .unset, .unset, .unset, .unset, .unset, .unset, .unset, .unset] [(.int p5), (.int z52), (.int z48), (.int w50), (.ref pw), (.long z47), (.int z46), (.int z45), (.int (13 : Int32)), (.int (13 : Int32)), (.ref ar), (.ref ar)])) rfl (by rw [hml]; rfl) (argsL := [(.int (13 : Int32)), (.int z45), (.int z46), (.long z47), (.ref pw), (.int w50), (.int z48), (.int z52), (.int p5)]) (rest := [(.int (13 : Int32)), (.ref ar), (.ref ar)]) (lenOf pd_0 rfl) rfl (by show 2 * 0 + _ ≤ _; exact Nat.le_of_eq rfl) (hb hby at_479) (fun _ _ => ⟨rfl, e118, (by decide : 2 + 0 ≤ _), (by decide : 28 + 0 ≤ _)⟩)
    dsimp only [Pt.U, Pt.locs, Pt.cells, Pt.slots] at X121 l121 y121 z121 st121 hQ121
    subst l121 y121 z121
    obtain ⟨rfl, N121q, e121q⟩ := hQ121
    have N121 := Fr.app Ng118 N121q
    obtain ⟨Lg121, Xg121, Ng121⟩ := Stand_gen X121 N121
    refine Run.go st121 ?_
    show Run p e below s 2 28 (Q_rm0 Z q1 p2 p3 p4 p5 h0 n0) (T121.setTop (mkF m 482 #[.val (.long q1), .second, .val (.int p2), .val (.int p3), .val (.int p4), .val (.int p5), .val (.ref pw), .val (.int z45), .val (.int z46), .val (.long z47), .second, .val (.int z48), .val (.int w50), .val (.int z52), .unset, .unset, .unset, .unset, .unset, .unset, .unset, .unset, .unset] [(.int (F_rm1 (13 : Int32) z45 z46 z47 w50 z48 z52 p5)), (.int (13 : Int32)), (.ref ar), (.ref ar)]))
    obtain ⟨T123, h123, X123, e123, W123, st123⟩ := ary_bset Xg121 hx hZ e121q fx119 (j := (13 : Int32)) (by decide) (by decide) (g := (mkF m 482 #[.val (.long q1), .second, .val (.int p2), .val (.int p3), .val (.int p4), .val (.int p5), .val (.ref pw), .val (.int z45), .val (.int z46), .val (.long z47), .second, .val (.int z48), .val (.int w50), .val (.int z52), .unset, .unset, .unset, .unset, .unset, .unset, .unset, .unset, .unset] [(.int (F_rm1 (13 : Int32) z45 z46 z47 w50 z48 z52 p5)), (.int (13 : Int32)), (.ref ar), (.ref ar)])) rfl rfl (hb hby at_482) (y := (F_rm1 (13 : Int32) z45 z46 z47 w50 z48 z52 p5)) (own_cell_b _ _ _ _ _ _ _ _ (by rw [hz52]; exact b_idem _))
    have N123 := Fr.snoc X123 Ng121 g_ar
    have Z123 : n0 ≤ h123.size := Nat.le_trans Z118 (Keep.of_wr W123).1
    obtain ⟨Lg123, Xg123, Ng123⟩ := Stand_gen X123 N123
    have fx124 : Ary Z h123 ar .byte 16 (fun i => if i = 13 then (.int (F_rm1 (13 : Int32) z45 z46 z47 w50 z48 z52 p5)) else ff120 i) := fx119.same W123
    obtain ⟨ff125, hff125⟩ : ∃ f : Nat → Value, f = (fun i => if i = 13 then (.int (F_rm1 (13 : Int32) z45 z46 z47 w50 z48 z52 p5)) else ff120 i) := ⟨_, rfl⟩
    rw [← hff125] at fx124
    refine Run.go st123 ?_
    show Run p e below s 2 28 (Q_rm0 Z q1 p2 p3 p4 p5 h0 n0) (T123.setTop (mkF m 483 #[.val (.long q1), .second, .val (.int p2), .val (.int p3), .val (.int p4), .val (.int p5), .val (.ref pw), .val (.int z45), .val (.int z46), .val (.long z47), .second, .val (.int z48), .val (.int w50), .val (.int z52), .unset, .unset, .unset, .unset, .unset, .unset, .unset, .unset, .unset] [(.ref ar)]))
    refine Run.go (fun _ k => XS.dup Xg123.here hx rfl (hb hby at_483) rfl rfl k) ?_
    show Run p e below s 2 28 (Q_rm0 Z q1 p2 p3 p4 p5 h0 n0) (T123.setTop (mkF m 484 #[.val (.long q1), .second, .val (.int p2), .val (.int p3), .val (.int p4), .val (.int p5), .val (.ref pw), .val (.int z45), .val (.int z46), .val (.long z47), .second, .val (.int z48), .val (.int w50), .val (.int z52), .unset, .unset, .unset, .unset, .unset, .unset, .unset, .unset, .unset] [(.ref ar), (.ref ar)]))
    refine Run.go (fun _ k => XS.bipush Xg123.here hx rfl (hb hby at_484) k) ?_
    show Run p e below s 2 28 (Q_rm0 Z q1 p2 p3 p4 p5 h0 n0) (T123.setTop (mkF m 486 #[.val (.long q1), .second, .val (.int p2), .val (.int p3), .val (.int p4), .val (.int p5), .val (.ref pw), .val (.int z45), .val (.int z46), .val (.long z47), .second, .val (.int z48), .val (.int w50), .val (.int z52), .unset, .unset, .unset, .unset, .unset, .unset, .unset, .unset, .unset] [(.int (14 : Int32)), (.ref ar), (.ref ar)]))
    refine Run.go (fun _ k => XS.bipush Xg123.here hx rfl (hb hby at_486) k) ?_
    show Run p e below s 2 28 (Q_rm0 Z q1 p2 p3 p4 p5 h0 n0) (T123.setTop (mkF m 488 #[.val (.long q1), .second, .val (.int p2), .val (.int p3), .val (.int p4), .val (.int p5), .val (.ref pw), .val (.int z45), .val (.int z46), .val (.long z47), .second, .val (.int z48), .val (.int w50), .val (.int z52), .unset, .unset, .unset, .unset, .unset, .unset, .unset, .unset, .unset] [(.int (14 : Int32)), (.int (14 : Int32)), (.ref ar), (.ref ar)]))
    refine Run.go (fun _ k => XS.iload Xg123.here hx rfl (hb hby at_488) rfl  k) ?_
    show Run p e below s 2 28 (Q_rm0 Z q1 p2 p3 p4 p5 h0 n0) (T123.setTop (mkF m 490 #[.val (.long q1), .second, .val (.int p2), .val (.int p3), .val (.int p4), .val (.int p5), .val (.ref pw), .val (.int z45), .val (.int z46), .val (.long z47), .second, .val (.int z48), .val (.int w50), .val (.int z52), .unset, .unset, .unset, .unset, .unset, .unset, .unset, .unset, .unset] [(.int z45), (.int (14 : Int32)), (.int (14 : Int32)), (.ref ar), (.ref ar)]))
    refine Run.go (fun _ k => XS.iload Xg123.here hx rfl (hb hby at_490) rfl  k) ?_
    show Run p e below s 2 28 (Q_rm0 Z q1 p2 p3 p4 p5 h0 n0) (T123.setTop (mkF m 492 #[.val (.long q1), .second, .val (.int p2), .val (.int p3), .val (.int p4), .val (.int p5), .val (.ref pw), .val (.int z45), .val (.int z46), .val (.long z47), .second, .val (.int z48), .val (.int w50), .val (.int z52), .unset, .unset, .unset, .unset, .unset, .unset, .unset, .unset, .unset] [(.int z46), (.int z45), (.int (14 : Int32)), (.int (14 : Int32)), (.ref ar), (.ref ar)]))
    refine Run.go (fun _ k => XS.lload Xg123.here hx rfl (hb hby at_492) rfl  k) ?_
    show Run p e below s 2 28 (Q_rm0 Z q1 p2 p3 p4 p5 h0 n0) (T123.setTop (mkF m 494 #[.val (.long q1), .second, .val (.int p2), .val (.int p3), .val (.int p4), .val (.int p5), .val (.ref pw), .val (.int z45), .val (.int z46), .val (.long z47), .second, .val (.int z48), .val (.int w50), .val (.int z52), .unset, .unset, .unset, .unset, .unset, .unset, .unset, .unset, .unset] [(.long z47), (.int z46), (.int z45), (.int (14 : Int32)), (.int (14 : Int32)), (.ref ar), (.ref ar)]))
    refine Run.go (fun _ k => XS.aload Xg123.here hx rfl (hb hby at_494) rfl rfl k) ?_
    show Run p e below s 2 28 (Q_rm0 Z q1 p2 p3 p4 p5 h0 n0) (T123.setTop (mkF m 496 #[.val (.long q1), .second, .val (.int p2), .val (.int p3), .val (.int p4), .val (.int p5), .val (.ref pw), .val (.int z45), .val (.int z46), .val (.long z47), .second, .val (.int z48), .val (.int w50), .val (.int z52), .unset, .unset, .unset, .unset, .unset, .unset, .unset, .unset, .unset] [(.ref pw), (.long z47), (.int z46), (.int z45), (.int (14 : Int32)), (.int (14 : Int32)), (.ref ar), (.ref ar)]))
    refine Run.go (fun _ k => XS.iload Xg123.here hx rfl (hb hby at_496) rfl  k) ?_
    show Run p e below s 2 28 (Q_rm0 Z q1 p2 p3 p4 p5 h0 n0) (T123.setTop (mkF m 498 #[.val (.long q1), .second, .val (.int p2), .val (.int p3), .val (.int p4), .val (.int p5), .val (.ref pw), .val (.int z45), .val (.int z46), .val (.long z47), .second, .val (.int z48), .val (.int w50), .val (.int z52), .unset, .unset, .unset, .unset, .unset, .unset, .unset, .unset, .unset] [(.int w50), (.ref pw), (.long z47), (.int z46), (.int z45), (.int (14 : Int32)), (.int (14 : Int32)), (.ref ar), (.ref ar)]))
    refine Run.go (fun _ k => XS.iload Xg123.here hx rfl (hb hby at_498) rfl  k) ?_
    show Run p e below s 2 28 (Q_rm0 Z q1 p2 p3 p4 p5 h0 n0) (T123.setTop (mkF m 500 #[.val (.long q1), .second, .val (.int p2), .val (.int p3), .val (.int p4), .val (.int p5), .val (.ref pw), .val (.int z45), .val (.int z46), .val (.long z47), .second, .val (.int z48), .val (.int w50), .val (.int z52), .unset, .unset, .unset, .unset, .unset, .unset, .unset, .unset, .unset] [(.int z48), (.int w50), (.ref pw), (.long z47), (.int z46), (.int z45), (.int (14 : Int32)), (.int (14 : Int32)), (.ref ar), (.ref ar)]))
    refine Run.go (fun _ k => XS.iload Xg123.here hx rfl (hb hby at_500) rfl  k) ?_
    show Run p e below s 2 28 (Q_rm0 Z q1 p2 p3 p4 p5 h0 n0) (T123.setTop (mkF m 502 #[.val (.long q1), .second, .val (.int p2), .val (.int p3), .val (.int p4), .val (.int p5), .val (.ref pw), .val (.int z45), .val (.int z46), .val (.long z47), .second, .val (.int z48), .val (.int w50), .val (.int z52), .unset, .unset, .unset, .unset, .unset, .unset, .unset, .unset, .unset] [(.int z52), (.int z48), (.int w50), (.ref pw), (.long z47), (.int z46), (.int z45), (.int (14 : Int32)), (.int (14 : Int32)), (.ref ar), (.ref ar)]))
    refine Run.go (fun _ k => XS.iload Xg123.here hx rfl (hb hby at_502) rfl  k) ?_
    show Run p e below s 2 28 (Q_rm0 Z q1 p2 p3 p4 p5 h0 n0) (T123.setTop (mkF m 504 #[.val (.long q1), .second, .val (.int p2), .val (.int p3), .val (.int p4), .val (.int p5), .val (.ref pw), .val (.int z45), .val (.int z46), .val (.long z47), .second, .val (.int z48), .val (.int w50), .val (.int z52), .unset, .unset, .unset, .unset, .unset, .unset, .unset, .unset, .unset] [(.int p5), (.int z52), (.int z48), (.int w50), (.ref pw), (.long z47), (.int z46), (.int z45), (.int (14 : Int32)), (.int (14 : Int32)), (.ref ar), (.ref ar)]))
    have fx127 := (fx122.other W123 ne_pw_ar)
    obtain ⟨_, _, ⟨T126, L126, k126, n126⟩, -, X126, ⟨Lc126, hQ126, l126, y126, z126⟩, st126⟩ := Jvm.LawKit.callS Xg123 hx (y := (⟨"com/example/comera/comera/sip/SyntaxUnsigned32PinLaw", "cell", "(IIIJ[JZIBI)B"⟩ : MethodName)) hown (mvT hZ (hw _ (List.mem_of_getElem? (i := 14) rfl))) (mvT hZ (hw _ (List.mem_of_getElem? (i := 15) rfl))) (mvT hZ (hw _ (List.mem_of_getElem? (i := 16) rfl))) (mvT hZ (hw _ (List.mem_of_getElem? (i := 17) rfl))) (by decide) (backOf (W := 3) (rm1 l Z a0 hw [] (14 : Int32) z45 z46 z47 pw w50 z48 z52 p5 ff44 h123 n0 Z123 fx127 hpw (by rw [hz45]; exact (own_s p2).1) (by rw [hz45]; exact (own_s p2).2) (by rw [hz46]; exact (own_ln p2).1) (by rw [hz46]; exact (own_ln p2).2.1) (by rw [hz52]; exact b_idem _)) hZ (hw _ (List.mem_of_getElem? (i := 17) rfl)) (hw _ (List.mem_of_getElem? (i := 16) rfl)) (by decide) (by decide)) (g := (mkF m 504 #[.val (.long q1), .second, .val (.int p2), .val (.int p3), .val (.int p4), .val (.int p5), .val (.ref pw), .val (.int z45), .val (.int z46), .val (.long z47), .second, .val (.int z48), .val (.int w50), .val (.int z52), .unset, .unset, .unset, .unset, .unset, .unset, .unset, .unset, .unset] [(.int p5), (.int z52), (.int z48), (.int w50), (.ref pw), (.long z47), (.int z46), (.int z45), (.int (14 : Int32)), (.int (14 : Int32)), (.ref ar), (.ref ar)])) rfl (by rw [hml]; rfl) (argsL := [(.int (14 : Int32)), (.int z45), (.int z46), (.long z47), (.ref pw), (.int w50), (.int z48), (.int z52), (.int p5)]) (rest := [(.int (14 : Int32)), (.ref ar), (.ref ar)]) (lenOf pd_0 rfl) rfl (by show 2 * 0 + _ ≤ _; exact Nat.le_of_eq rfl) (hb hby at_504) (fun _ _ => ⟨rfl, e123, (by decide : 2 + 0 ≤ _), (by decide : 28 + 0 ≤ _)⟩)
    dsimp only [Pt.U, Pt.locs, Pt.cells, Pt.slots] at X126 l126 y126 z126 st126 hQ126
    subst l126 y126 z126
    obtain ⟨rfl, N126q, e126q⟩ := hQ126
    have N126 := Fr.app Ng123 N126q
    obtain ⟨Lg126, Xg126, Ng126⟩ := Stand_gen X126 N126
    refine Run.go st126 ?_
    show Run p e below s 2 28 (Q_rm0 Z q1 p2 p3 p4 p5 h0 n0) (T126.setTop (mkF m 507 #[.val (.long q1), .second, .val (.int p2), .val (.int p3), .val (.int p4), .val (.int p5), .val (.ref pw), .val (.int z45), .val (.int z46), .val (.long z47), .second, .val (.int z48), .val (.int w50), .val (.int z52), .unset, .unset, .unset, .unset, .unset, .unset, .unset, .unset, .unset] [(.int (F_rm1 (14 : Int32) z45 z46 z47 w50 z48 z52 p5)), (.int (14 : Int32)), (.ref ar), (.ref ar)]))
    obtain ⟨T128, h128, X128, e128, W128, st128⟩ := ary_bset Xg126 hx hZ e126q fx124 (j := (14 : Int32)) (by decide) (by decide) (g := (mkF m 507 #[.val (.long q1), .second, .val (.int p2), .val (.int p3), .val (.int p4), .val (.int p5), .val (.ref pw), .val (.int z45), .val (.int z46), .val (.long z47), .second, .val (.int z48), .val (.int w50), .val (.int z52), .unset, .unset, .unset, .unset, .unset, .unset, .unset, .unset, .unset] [(.int (F_rm1 (14 : Int32) z45 z46 z47 w50 z48 z52 p5)), (.int (14 : Int32)), (.ref ar), (.ref ar)])) rfl rfl (hb hby at_507) (y := (F_rm1 (14 : Int32) z45 z46 z47 w50 z48 z52 p5)) (own_cell_b _ _ _ _ _ _ _ _ (by rw [hz52]; exact b_idem _))
    have N128 := Fr.snoc X128 Ng126 g_ar
    have Z128 : n0 ≤ h128.size := Nat.le_trans Z123 (Keep.of_wr W128).1
    obtain ⟨Lg128, Xg128, Ng128⟩ := Stand_gen X128 N128
    have fx129 : Ary Z h128 ar .byte 16 (fun i => if i = 14 then (.int (F_rm1 (14 : Int32) z45 z46 z47 w50 z48 z52 p5)) else ff125 i) := fx124.same W128
    obtain ⟨ff130, hff130⟩ : ∃ f : Nat → Value, f = (fun i => if i = 14 then (.int (F_rm1 (14 : Int32) z45 z46 z47 w50 z48 z52 p5)) else ff125 i) := ⟨_, rfl⟩
    rw [← hff130] at fx129
    refine Run.go st128 ?_
    show Run p e below s 2 28 (Q_rm0 Z q1 p2 p3 p4 p5 h0 n0) (T128.setTop (mkF m 508 #[.val (.long q1), .second, .val (.int p2), .val (.int p3), .val (.int p4), .val (.int p5), .val (.ref pw), .val (.int z45), .val (.int z46), .val (.long z47), .second, .val (.int z48), .val (.int w50), .val (.int z52), .unset, .unset, .unset, .unset, .unset, .unset, .unset, .unset, .unset] [(.ref ar)]))
    refine Run.go (fun _ k => XS.dup Xg128.here hx rfl (hb hby at_508) rfl rfl k) ?_
    show Run p e below s 2 28 (Q_rm0 Z q1 p2 p3 p4 p5 h0 n0) (T128.setTop (mkF m 509 #[.val (.long q1), .second, .val (.int p2), .val (.int p3), .val (.int p4), .val (.int p5), .val (.ref pw), .val (.int z45), .val (.int z46), .val (.long z47), .second, .val (.int z48), .val (.int w50), .val (.int z52), .unset, .unset, .unset, .unset, .unset, .unset, .unset, .unset, .unset] [(.ref ar), (.ref ar)]))
    refine Run.go (fun _ k => XS.bipush Xg128.here hx rfl (hb hby at_509) k) ?_
    show Run p e below s 2 28 (Q_rm0 Z q1 p2 p3 p4 p5 h0 n0) (T128.setTop (mkF m 511 #[.val (.long q1), .second, .val (.int p2), .val (.int p3), .val (.int p4), .val (.int p5), .val (.ref pw), .val (.int z45), .val (.int z46), .val (.long z47), .second, .val (.int z48), .val (.int w50), .val (.int z52), .unset, .unset, .unset, .unset, .unset, .unset, .unset, .unset, .unset] [(.int (15 : Int32)), (.ref ar), (.ref ar)]))
    refine Run.go (fun _ k => XS.bipush Xg128.here hx rfl (hb hby at_511) k) ?_
    show Run p e below s 2 28 (Q_rm0 Z q1 p2 p3 p4 p5 h0 n0) (T128.setTop (mkF m 513 #[.val (.long q1), .second, .val (.int p2), .val (.int p3), .val (.int p4), .val (.int p5), .val (.ref pw), .val (.int z45), .val (.int z46), .val (.long z47), .second, .val (.int z48), .val (.int w50), .val (.int z52), .unset, .unset, .unset, .unset, .unset, .unset, .unset, .unset, .unset] [(.int (15 : Int32)), (.int (15 : Int32)), (.ref ar), (.ref ar)]))
    refine Run.go (fun _ k => XS.iload Xg128.here hx rfl (hb hby at_513) rfl  k) ?_
    show Run p e below s 2 28 (Q_rm0 Z q1 p2 p3 p4 p5 h0 n0) (T128.setTop (mkF m 515 #[.val (.long q1), .second, .val (.int p2), .val (.int p3), .val (.int p4), .val (.int p5), .val (.ref pw), .val (.int z45), .val (.int z46), .val (.long z47), .second, .val (.int z48), .val (.int w50), .val (.int z52), .unset, .unset, .unset, .unset, .unset, .unset, .unset, .unset, .unset] [(.int z45), (.int (15 : Int32)), (.int (15 : Int32)), (.ref ar), (.ref ar)]))
    refine Run.go (fun _ k => XS.iload Xg128.here hx rfl (hb hby at_515) rfl  k) ?_
    show Run p e below s 2 28 (Q_rm0 Z q1 p2 p3 p4 p5 h0 n0) (T128.setTop (mkF m 517 #[.val (.long q1), .second, .val (.int p2), .val (.int p3), .val (.int p4), .val (.int p5), .val (.ref pw), .val (.int z45), .val (.int z46), .val (.long z47), .second, .val (.int z48), .val (.int w50), .val (.int z52), .unset, .unset, .unset, .unset, .unset, .unset, .unset, .unset, .unset] [(.int z46), (.int z45), (.int (15 : Int32)), (.int (15 : Int32)), (.ref ar), (.ref ar)]))
    refine Run.go (fun _ k => XS.lload Xg128.here hx rfl (hb hby at_517) rfl  k) ?_
    show Run p e below s 2 28 (Q_rm0 Z q1 p2 p3 p4 p5 h0 n0) (T128.setTop (mkF m 519 #[.val (.long q1), .second, .val (.int p2), .val (.int p3), .val (.int p4), .val (.int p5), .val (.ref pw), .val (.int z45), .val (.int z46), .val (.long z47), .second, .val (.int z48), .val (.int w50), .val (.int z52), .unset, .unset, .unset, .unset, .unset, .unset, .unset, .unset, .unset] [(.long z47), (.int z46), (.int z45), (.int (15 : Int32)), (.int (15 : Int32)), (.ref ar), (.ref ar)]))
    refine Run.go (fun _ k => XS.aload Xg128.here hx rfl (hb hby at_519) rfl rfl k) ?_
    show Run p e below s 2 28 (Q_rm0 Z q1 p2 p3 p4 p5 h0 n0) (T128.setTop (mkF m 521 #[.val (.long q1), .second, .val (.int p2), .val (.int p3), .val (.int p4), .val (.int p5), .val (.ref pw), .val (.int z45), .val (.int z46), .val (.long z47), .second, .val (.int z48), .val (.int w50), .val (.int z52), .unset, .unset, .unset, .unset, .unset, .unset, .unset, .unset, .unset] [(.ref pw), (.long z47), (.int z46), (.int z45), (.int (15 : Int32)), (.int (15 : Int32)), (.ref ar), (.ref ar)]))
    refine Run.go (fun _ k => XS.iload Xg128.here hx rfl (hb hby at_521) rfl  k) ?_
    show Run p e below s 2 28 (Q_rm0 Z q1 p2 p3 p4 p5 h0 n0) (T128.setTop (mkF m 523 #[.val (.long q1), .second, .val (.int p2), .val (.int p3), .val (.int p4), .val (.int p5), .val (.ref pw), .val (.int z45), .val (.int z46), .val (.long z47), .second, .val (.int z48), .val (.int w50), .val (.int z52), .unset, .unset, .unset, .unset, .unset, .unset, .unset, .unset, .unset] [(.int w50), (.ref pw), (.long z47), (.int z46), (.int z45), (.int (15 : Int32)), (.int (15 : Int32)), (.ref ar), (.ref ar)]))
    refine Run.go (fun _ k => XS.iload Xg128.here hx rfl (hb hby at_523) rfl  k) ?_
    show Run p e below s 2 28 (Q_rm0 Z q1 p2 p3 p4 p5 h0 n0) (T128.setTop (mkF m 525 #[.val (.long q1), .second, .val (.int p2), .val (.int p3), .val (.int p4), .val (.int p5), .val (.ref pw), .val (.int z45), .val (.int z46), .val (.long z47), .second, .val (.int z48), .val (.int w50), .val (.int z52), .unset, .unset, .unset, .unset, .unset, .unset, .unset, .unset, .unset] [(.int z48), (.int w50), (.ref pw), (.long z47), (.int z46), (.int z45), (.int (15 : Int32)), (.int (15 : Int32)), (.ref ar), (.ref ar)]))
    refine Run.go (fun _ k => XS.iload Xg128.here hx rfl (hb hby at_525) rfl  k) ?_
    show Run p e below s 2 28 (Q_rm0 Z q1 p2 p3 p4 p5 h0 n0) (T128.setTop (mkF m 527 #[.val (.long q1), .second, .val (.int p2), .val (.int p3), .val (.int p4), .val (.int p5), .val (.ref pw), .val (.int z45), .val (.int z46), .val (.long z47), .second, .val (.int z48), .val (.int w50), .val (.int z52), .unset, .unset, .unset, .unset, .unset, .unset, .unset, .unset, .unset] [(.int z52), (.int z48), (.int w50), (.ref pw), (.long z47), (.int z46), (.int z45), (.int (15 : Int32)), (.int (15 : Int32)), (.ref ar), (.ref ar)]))
    refine Run.go (fun _ k => XS.iload Xg128.here hx rfl (hb hby at_527) rfl  k) ?_
    show Run p e below s 2 28 (Q_rm0 Z q1 p2 p3 p4 p5 h0 n0) (T128.setTop (mkF m 529 #[.val (.long q1), .second, .val (.int p2), .val (.int p3), .val (.int p4), .val (.int p5), .val (.ref pw), .val (.int z45), .val (.int z46), .val (.long z47), .second, .val (.int z48), .val (.int w50), .val (.int z52), .unset, .unset, .unset, .unset, .unset, .unset, .unset, .unset, .unset] [(.int p5), (.int z52), (.int z48), (.int w50), (.ref pw), (.long z47), (.int z46), (.int z45), (.int (15 : Int32)), (.int (15 : Int32)), (.ref ar), (.ref ar)]))
    have fx132 := (fx127.other W128 ne_pw_ar)
    obtain ⟨_, _, ⟨T131, L131, k131, n131⟩, -, X131, ⟨Lc131, hQ131, l131, y131, z131⟩, st131⟩ := Jvm.LawKit.callS Xg128 hx (y := (⟨"com/example/comera/comera/sip/SyntaxUnsigned32PinLaw", "cell", "(IIIJ[JZIBI)B"⟩ : MethodName)) hown (mvT hZ (hw _ (List.mem_of_getElem? (i := 14) rfl))) (mvT hZ (hw _ (List.mem_of_getElem? (i := 15) rfl))) (mvT hZ (hw _ (List.mem_of_getElem? (i := 16) rfl))) (mvT hZ (hw _ (List.mem_of_getElem? (i := 17) rfl))) (by decide) (backOf (W := 3) (rm1 l Z a0 hw [] (15 : Int32) z45 z46 z47 pw w50 z48 z52 p5 ff44 h128 n0 Z128 fx132 hpw (by rw [hz45]; exact (own_s p2).1) (by rw [hz45]; exact (own_s p2).2) (by rw [hz46]; exact (own_ln p2).1) (by rw [hz46]; exact (own_ln p2).2.1) (by rw [hz52]; exact b_idem _)) hZ (hw _ (List.mem_of_getElem? (i := 17) rfl)) (hw _ (List.mem_of_getElem? (i := 16) rfl)) (by decide) (by decide)) (g := (mkF m 529 #[.val (.long q1), .second, .val (.int p2), .val (.int p3), .val (.int p4), .val (.int p5), .val (.ref pw), .val (.int z45), .val (.int z46), .val (.long z47), .second, .val (.int z48), .val (.int w50), .val (.int z52), .unset, .unset, .unset, .unset, .unset, .unset, .unset, .unset, .unset] [(.int p5), (.int z52), (.int z48), (.int w50), (.ref pw), (.long z47), (.int z46), (.int z45), (.int (15 : Int32)), (.int (15 : Int32)), (.ref ar), (.ref ar)])) rfl (by rw [hml]; rfl) (argsL := [(.int (15 : Int32)), (.int z45), (.int z46), (.long z47), (.ref pw), (.int w50), (.int z48), (.int z52), (.int p5)]) (rest := [(.int (15 : Int32)), (.ref ar), (.ref ar)]) (lenOf pd_0 rfl) rfl (by show 2 * 0 + _ ≤ _; exact Nat.le_of_eq rfl) (hb hby at_529) (fun _ _ => ⟨rfl, e128, (by decide : 2 + 0 ≤ _), (by decide : 28 + 0 ≤ _)⟩)
    dsimp only [Pt.U, Pt.locs, Pt.cells, Pt.slots] at X131 l131 y131 z131 st131 hQ131
    subst l131 y131 z131
    obtain ⟨rfl, N131q, e131q⟩ := hQ131
    have N131 := Fr.app Ng128 N131q
    obtain ⟨Lg131, Xg131, Ng131⟩ := Stand_gen X131 N131
    refine Run.go st131 ?_
    show Run p e below s 2 28 (Q_rm0 Z q1 p2 p3 p4 p5 h0 n0) (T131.setTop (mkF m 532 #[.val (.long q1), .second, .val (.int p2), .val (.int p3), .val (.int p4), .val (.int p5), .val (.ref pw), .val (.int z45), .val (.int z46), .val (.long z47), .second, .val (.int z48), .val (.int w50), .val (.int z52), .unset, .unset, .unset, .unset, .unset, .unset, .unset, .unset, .unset] [(.int (F_rm1 (15 : Int32) z45 z46 z47 w50 z48 z52 p5)), (.int (15 : Int32)), (.ref ar), (.ref ar)]))
    obtain ⟨T133, h133, X133, e133, W133, st133⟩ := ary_bset Xg131 hx hZ e131q fx129 (j := (15 : Int32)) (by decide) (by decide) (g := (mkF m 532 #[.val (.long q1), .second, .val (.int p2), .val (.int p3), .val (.int p4), .val (.int p5), .val (.ref pw), .val (.int z45), .val (.int z46), .val (.long z47), .second, .val (.int z48), .val (.int w50), .val (.int z52), .unset, .unset, .unset, .unset, .unset, .unset, .unset, .unset, .unset] [(.int (F_rm1 (15 : Int32) z45 z46 z47 w50 z48 z52 p5)), (.int (15 : Int32)), (.ref ar), (.ref ar)])) rfl rfl (hb hby at_532) (y := (F_rm1 (15 : Int32) z45 z46 z47 w50 z48 z52 p5)) (own_cell_b _ _ _ _ _ _ _ _ (by rw [hz52]; exact b_idem _))
    have N133 := Fr.snoc X133 Ng131 g_ar
    have Z133 : n0 ≤ h133.size := Nat.le_trans Z128 (Keep.of_wr W133).1
    obtain ⟨Lg133, Xg133, Ng133⟩ := Stand_gen X133 N133
    have fx134 : Ary Z h133 ar .byte 16 (fun i => if i = 15 then (.int (F_rm1 (15 : Int32) z45 z46 z47 w50 z48 z52 p5)) else ff130 i) := fx129.same W133
    obtain ⟨ff135, hff135⟩ : ∃ f : Nat → Value, f = (fun i => if i = 15 then (.int (F_rm1 (15 : Int32) z45 z46 z47 w50 z48 z52 p5)) else ff130 i) := ⟨_, rfl⟩
    rw [← hff135] at fx134
    refine Run.go st133 ?_
    show Run p e below s 2 28 (Q_rm0 Z q1 p2 p3 p4 p5 h0 n0) (T133.setTop (mkF m 533 #[.val (.long q1), .second, .val (.int p2), .val (.int p3), .val (.int p4), .val (.int p5), .val (.ref pw), .val (.int z45), .val (.int z46), .val (.long z47), .second, .val (.int z48), .val (.int w50), .val (.int z52), .unset, .unset, .unset, .unset, .unset, .unset, .unset, .unset, .unset] [(.ref ar)]))
    refine Run.go (fun _ k => XS.astore Xg133.here hx rfl (hb hby at_533) rfl rfl (l' := #[.val (.long q1), .second, .val (.int p2), .val (.int p3), .val (.int p4), .val (.int p5), .val (.ref pw), .val (.int z45), .val (.int z46), .val (.long z47), .second, .val (.int z48), .val (.int w50), .val (.int z52), .val (.ref ar), .unset, .unset, .unset, .unset, .unset, .unset, .unset, .unset]) rfl k) ?_
    show Run p e below s 2 28 (Q_rm0 Z q1 p2 p3 p4 p5 h0 n0) (T133.setTop (mkF m 535 #[.val (.long q1), .second, .val (.int p2), .val (.int p3), .val (.int p4), .val (.int p5), .val (.ref pw), .val (.int z45), .val (.int z46), .val (.long z47), .second, .val (.int z48), .val (.int w50), .val (.int z52), .val (.ref ar), .unset, .unset, .unset, .unset, .unset, .unset, .unset, .unset] []))
    have hcl : ∀ i, i < 16 → ff135 i = Value.int (F_rm1 (Int32.ofNat i) z45 z46 z47 w50 z48 z52 p5) := fun i hi => match i, hi with
      | 0, _ => (upd_miss hff135 (by decide) (upd_miss hff130 (by decide) (upd_miss hff125 (by decide) (upd_miss hff120 (by decide) (upd_miss hff115 (by decide) (upd_miss hff110 (by decide) (upd_miss hff105 (by decide) (upd_miss hff100 (by decide) (upd_miss hff95 (by decide) (upd_miss hff90 (by decide) (upd_miss hff85 (by decide) (upd_miss hff80 (by decide) (upd_miss hff75 (by decide) (upd_miss hff70 (by decide) (upd_miss hff65 (by decide) (upd_hit hff60))))))))))))))))
      | 1, _ => (upd_miss hff135 (by decide) (upd_miss hff130 (by decide) (upd_miss hff125 (by decide) (upd_miss hff120 (by decide) (upd_miss hff115 (by decide) (upd_miss hff110 (by decide) (upd_miss hff105 (by decide) (upd_miss hff100 (by decide) (upd_miss hff95 (by decide) (upd_miss hff90 (by decide) (upd_miss hff85 (by decide) (upd_miss hff80 (by decide) (upd_miss hff75 (by decide) (upd_miss hff70 (by decide) (upd_hit hff65)))))))))))))))
      | 2, _ => (upd_miss hff135 (by decide) (upd_miss hff130 (by decide) (upd_miss hff125 (by decide) (upd_miss hff120 (by decide) (upd_miss hff115 (by decide) (upd_miss hff110 (by decide) (upd_miss hff105 (by decide) (upd_miss hff100 (by decide) (upd_miss hff95 (by decide) (upd_miss hff90 (by decide) (upd_miss hff85 (by decide) (upd_miss hff80 (by decide) (upd_miss hff75 (by decide) (upd_hit hff70))))))))))))))
      | 3, _ => (upd_miss hff135 (by decide) (upd_miss hff130 (by decide) (upd_miss hff125 (by decide) (upd_miss hff120 (by decide) (upd_miss hff115 (by decide) (upd_miss hff110 (by decide) (upd_miss hff105 (by decide) (upd_miss hff100 (by decide) (upd_miss hff95 (by decide) (upd_miss hff90 (by decide) (upd_miss hff85 (by decide) (upd_miss hff80 (by decide) (upd_hit hff75)))))))))))))
      | 4, _ => (upd_miss hff135 (by decide) (upd_miss hff130 (by decide) (upd_miss hff125 (by decide) (upd_miss hff120 (by decide) (upd_miss hff115 (by decide) (upd_miss hff110 (by decide) (upd_miss hff105 (by decide) (upd_miss hff100 (by decide) (upd_miss hff95 (by decide) (upd_miss hff90 (by decide) (upd_miss hff85 (by decide) (upd_hit hff80))))))))))))
      | 5, _ => (upd_miss hff135 (by decide) (upd_miss hff130 (by decide) (upd_miss hff125 (by decide) (upd_miss hff120 (by decide) (upd_miss hff115 (by decide) (upd_miss hff110 (by decide) (upd_miss hff105 (by decide) (upd_miss hff100 (by decide) (upd_miss hff95 (by decide) (upd_miss hff90 (by decide) (upd_hit hff85)))))))))))
      | 6, _ => (upd_miss hff135 (by decide) (upd_miss hff130 (by decide) (upd_miss hff125 (by decide) (upd_miss hff120 (by decide) (upd_miss hff115 (by decide) (upd_miss hff110 (by decide) (upd_miss hff105 (by decide) (upd_miss hff100 (by decide) (upd_miss hff95 (by decide) (upd_hit hff90))))))))))
      | 7, _ => (upd_miss hff135 (by decide) (upd_miss hff130 (by decide) (upd_miss hff125 (by decide) (upd_miss hff120 (by decide) (upd_miss hff115 (by decide) (upd_miss hff110 (by decide) (upd_miss hff105 (by decide) (upd_miss hff100 (by decide) (upd_hit hff95)))))))))
      | 8, _ => (upd_miss hff135 (by decide) (upd_miss hff130 (by decide) (upd_miss hff125 (by decide) (upd_miss hff120 (by decide) (upd_miss hff115 (by decide) (upd_miss hff110 (by decide) (upd_miss hff105 (by decide) (upd_hit hff100))))))))
      | 9, _ => (upd_miss hff135 (by decide) (upd_miss hff130 (by decide) (upd_miss hff125 (by decide) (upd_miss hff120 (by decide) (upd_miss hff115 (by decide) (upd_miss hff110 (by decide) (upd_hit hff105)))))))
      | 10, _ => (upd_miss hff135 (by decide) (upd_miss hff130 (by decide) (upd_miss hff125 (by decide) (upd_miss hff120 (by decide) (upd_miss hff115 (by decide) (upd_hit hff110))))))
      | 11, _ => (upd_miss hff135 (by decide) (upd_miss hff130 (by decide) (upd_miss hff125 (by decide) (upd_miss hff120 (by decide) (upd_hit hff115)))))
      | 12, _ => (upd_miss hff135 (by decide) (upd_miss hff130 (by decide) (upd_miss hff125 (by decide) (upd_hit hff120))))
      | 13, _ => (upd_miss hff135 (by decide) (upd_miss hff130 (by decide) (upd_hit hff125)))
      | 14, _ => (upd_miss hff135 (by decide) (upd_hit hff130))
      | 15, _ => (upd_hit hff135)
      | n + 16, hi => absurd hi (by omega)
    refine Run.go (fun _ k => XS.aload Xg133.here hx rfl (hb hby at_535) rfl rfl k) ?_
    show Run p e below s 2 28 (Q_rm0 Z q1 p2 p3 p4 p5 h0 n0) (T133.setTop (mkF m 537 #[.val (.long q1), .second, .val (.int p2), .val (.int p3), .val (.int p4), .val (.int p5), .val (.ref pw), .val (.int z45), .val (.int z46), .val (.long z47), .second, .val (.int z48), .val (.int w50), .val (.int z52), .val (.ref ar), .unset, .unset, .unset, .unset, .unset, .unset, .unset, .unset] [(.ref ar)]))
    refine Run.go (fun _ k => XS.iload Xg133.here hx rfl (hb hby at_537) rfl  k) ?_
    show Run p e below s 2 28 (Q_rm0 Z q1 p2 p3 p4 p5 h0 n0) (T133.setTop (mkF m 539 #[.val (.long q1), .second, .val (.int p2), .val (.int p3), .val (.int p4), .val (.int p5), .val (.ref pw), .val (.int z45), .val (.int z46), .val (.long z47), .second, .val (.int z48), .val (.int w50), .val (.int z52), .val (.ref ar), .unset, .unset, .unset, .unset, .unset, .unset, .unset, .unset] [(.int z45), (.ref ar)]))
    refine Run.go (fun _ k => XS.iload Xg133.here hx rfl (hb hby at_539) rfl  k) ?_
    show Run p e below s 2 28 (Q_rm0 Z q1 p2 p3 p4 p5 h0 n0) (T133.setTop (mkF m 541 #[.val (.long q1), .second, .val (.int p2), .val (.int p3), .val (.int p4), .val (.int p5), .val (.ref pw), .val (.int z45), .val (.int z46), .val (.long z47), .second, .val (.int z48), .val (.int w50), .val (.int z52), .val (.ref ar), .unset, .unset, .unset, .unset, .unset, .unset, .unset, .unset] [(.int z45), (.int z45), (.ref ar)]))
    refine Run.go (fun _ k => XS.iload Xg133.here hx rfl (hb hby at_541) rfl  k) ?_
    show Run p e below s 2 28 (Q_rm0 Z q1 p2 p3 p4 p5 h0 n0) (T133.setTop (mkF m 543 #[.val (.long q1), .second, .val (.int p2), .val (.int p3), .val (.int p4), .val (.int p5), .val (.ref pw), .val (.int z45), .val (.int z46), .val (.long z47), .second, .val (.int z48), .val (.int w50), .val (.int z52), .val (.ref ar), .unset, .unset, .unset, .unset, .unset, .unset, .unset, .unset] [(.int z46), (.int z45), (.int z45), (.ref ar)]))
    refine Run.go (fun _ k => XS.iadd Xg133.here hx rfl (hb hby at_543) rfl k) ?_
    show Run p e below s 2 28 (Q_rm0 Z q1 p2 p3 p4 p5 h0 n0) (T133.setTop (mkF m 544 #[.val (.long q1), .second, .val (.int p2), .val (.int p3), .val (.int p4), .val (.int p5), .val (.ref pw), .val (.int z45), .val (.int z46), .val (.long z47), .second, .val (.int z48), .val (.int w50), .val (.int z52), .val (.ref ar), .unset, .unset, .unset, .unset, .unset, .unset, .unset, .unset] [(.int (z45 + z46)), (.int z45), (.ref ar)]))
    obtain ⟨_, _, ⟨T136, L136, k136, n136⟩, -, X136, ⟨Lc136, hQ136, l136, y136, z136⟩, st136⟩ := Jvm.LawKit.callS Xg133 hx (y := (⟨"com/example/comera/comera/sip/Syntax", "unsigned32", "([BII)J"⟩ : MethodName)) hown (mvT hZ (hw _ (List.mem_of_getElem? (i := 18) rfl))) (mvT hZ (hw _ (List.mem_of_getElem? (i := 19) rfl))) (mvT hZ (hw _ (List.mem_of_getElem? (i := 20) rfl))) (mvT hZ (hw _ (List.mem_of_getElem? (i := 21) rfl))) (by decide) (backOf (W := 0) (rm2 l Z a0 hw [] ar z45 (z45 + z46) ff135 h133 n0 Z133 fx134 (fun i hi => ⟨_, hcl i hi⟩) (by rw [hz45]; exact (own_s p2).1) (own_end (by rw [hz45]; exact (own_s p2).1) (by rw [hz45]; exact (own_s p2).2) (by rw [hz46]; exact (own_ln p2).1) (by rw [hz46]; exact (own_ln p2).2.1)).1 (own_end (by rw [hz45]; exact (own_s p2).1) (by rw [hz45]; exact (own_s p2).2) (by rw [hz46]; exact (own_ln p2).1) (by rw [hz46]; exact (own_ln p2).2.1)).2.1 (own_end (by rw [hz45]; exact (own_s p2).1) (by rw [hz45]; exact (own_s p2).2) (by rw [hz46]; exact (own_ln p2).1) (by rw [hz46]; exact (own_ln p2).2.1)).2.2.1) hZ (hw _ (List.mem_of_getElem? (i := 21) rfl)) (hw _ (List.mem_of_getElem? (i := 20) rfl)) (by decide) (by decide)) (g := (mkF m 544 #[.val (.long q1), .second, .val (.int p2), .val (.int p3), .val (.int p4), .val (.int p5), .val (.ref pw), .val (.int z45), .val (.int z46), .val (.long z47), .second, .val (.int z48), .val (.int w50), .val (.int z52), .val (.ref ar), .unset, .unset, .unset, .unset, .unset, .unset, .unset, .unset] [(.int (z45 + z46)), (.int z45), (.ref ar)])) rfl (by rw [hml]; rfl) (argsL := [(.ref ar), (.int z45), (.int (z45 + z46))]) (rest := []) (lenOf pd_1 rfl) rfl (by show 2 * 0 + _ ≤ _; exact Nat.le_of_eq rfl) (hb hby at_544) (fun _ _ => ⟨rfl, e133, (by decide : 2 + 0 ≤ _), (by decide : 28 + 0 ≤ _)⟩)
    dsimp only [Pt.U, Pt.locs, Pt.cells, Pt.slots] at X136 l136 y136 z136 st136 hQ136
    subst l136 y136 z136
    obtain ⟨rfl, N136q, e136q⟩ := hQ136
    have N136 := Fr.app Ng133 N136q
    obtain ⟨Lg136, Xg136, Ng136⟩ := Stand_gen X136 N136
    refine Run.go st136 ?_
    show Run p e below s 2 28 (Q_rm0 Z q1 p2 p3 p4 p5 h0 n0) (T136.setTop (mkF m 547 #[.val (.long q1), .second, .val (.int p2), .val (.int p3), .val (.int p4), .val (.int p5), .val (.ref pw), .val (.int z45), .val (.int z46), .val (.long z47), .second, .val (.int z48), .val (.int w50), .val (.int z52), .val (.ref ar), .unset, .unset, .unset, .unset, .unset, .unset, .unset, .unset] [(.long (own_u32 ff135 z45 (z45 + z46)))]))
    refine Run.go (fun _ k => XS.lstore Xg136.here hx rfl (hb hby at_547) rfl (l' := #[.val (.long q1), .second, .val (.int p2), .val (.int p3), .val (.int p4), .val (.int p5), .val (.ref pw), .val (.int z45), .val (.int z46), .val (.long z47), .second, .val (.int z48), .val (.int w50), .val (.int z52), .val (.ref ar), .val (.long (own_u32 ff135 z45 (z45 + z46))), .second, .unset, .unset, .unset, .unset, .unset, .unset]) rfl k) ?_
    show Run p e below s 2 28 (Q_rm0 Z q1 p2 p3 p4 p5 h0 n0) (T136.setTop (mkF m 549 #[.val (.long q1), .second, .val (.int p2), .val (.int p3), .val (.int p4), .val (.int p5), .val (.ref pw), .val (.int z45), .val (.int z46), .val (.long z47), .second, .val (.int z48), .val (.int w50), .val (.int z52), .val (.ref ar), .val (.long (own_u32 ff135 z45 (z45 + z46))), .second, .unset, .unset, .unset, .unset, .unset, .unset] []))
    refine Run.go (fun _ k => XS.iload Xg136.here hx rfl (hb hby at_549) rfl  k) ?_
    show Run p e below s 2 28 (Q_rm0 Z q1 p2 p3 p4 p5 h0 n0) (T136.setTop (mkF m 551 #[.val (.long q1), .second, .val (.int p2), .val (.int p3), .val (.int p4), .val (.int p5), .val (.ref pw), .val (.int z45), .val (.int z46), .val (.long z47), .second, .val (.int z48), .val (.int w50), .val (.int z52), .val (.ref ar), .val (.long (own_u32 ff135 z45 (z45 + z46))), .second, .unset, .unset, .unset, .unset, .unset, .unset] [(.int z46)]))
    have J138 : ∀ (w139 : Int64) (hw139 : w139 = (if (z46 = (0 : Int32)) then (-1 : Int64) else (if ((10 : Int32) < z46) then (-1 : Int64) else (if ((¬ ((p3 &&& (1 : Int32)) = (0 : Int32))) ∧ (z48 < z46)) then (if (z52 < (48 : Int32)) then (-1 : Int64) else (if ((57 : Int32) < z52) then (-1 : Int64) else (if ((4294967295 : Int64) < ((z47 - (((z47 / (own_pw ((z46 - (1 : Int32)) - z48).toNatClampNeg)) - ((z47 / (own_pw ((z46 - (1 : Int32)) - z48).toNatClampNeg)) / (10 : Int64)) * (10 : Int64)) * (own_pw ((z46 - (1 : Int32)) - z48).toNatClampNeg))) + (((z52 - (48 : Int32)).toInt64) * (own_pw ((z46 - (1 : Int32)) - z48).toNatClampNeg)))) then (-1 : Int64) else ((z47 - (((z47 / (own_pw ((z46 - (1 : Int32)) - z48).toNatClampNeg)) - ((z47 / (own_pw ((z46 - (1 : Int32)) - z48).toNatClampNeg)) / (10 : Int64)) * (10 : Int64)) * (own_pw ((z46 - (1 : Int32)) - z48).toNatClampNeg))) + (((z52 - (48 : Int32)).toInt64) * (own_pw ((z46 - (1 : Int32)) - z48).toNatClampNeg)))))) else (if ((4294967295 : Int64) < z47) then (-1 : Int64) else z47))))) (sl140 : Slot) (sl141 : Slot) (sl142 : Slot) (sl143 : Slot) (T144 : State) (L144 : List Loc) (X144 : Stand p l e room_1 s m #[(.long q1), (.int p2), (.int p3), (.int p4), (.int p5)] below meth c T144 L144 2 28) (e144 : T144.heap = h133) (N144 : Fr n0 L144), Run p e below s 2 28 (Q_rm0 Z q1 p2 p3 p4 p5 h0 n0) (T144.setTop (mkF m 663 #[.val (.long q1), .second, .val (.int p2), .val (.int p3), .val (.int p4), .val (.int p5), .val (.ref pw), .val (.int z45), .val (.int z46), .val (.long z47), .second, .val (.int z48), .val (.int w50), .val (.int z52), .val (.ref ar), .val (.long (own_u32 ff135 z45 (z45 + z46))), .second, .val (.long w139), .second, sl140, sl141, sl142, sl143] [])) := by
      intro w139 hw139 sl140 sl141 sl142 sl143 T144 L144 X144 e144 N144
      show Run p e below s 2 28 (Q_rm0 Z q1 p2 p3 p4 p5 h0 n0) (T144.setTop (mkF m 663 #[.val (.long q1), .second, .val (.int p2), .val (.int p3), .val (.int p4), .val (.int p5), .val (.ref pw), .val (.int z45), .val (.int z46), .val (.long z47), .second, .val (.int z48), .val (.int w50), .val (.int z52), .val (.ref ar), .val (.long (own_u32 ff135 z45 (z45 + z46))), .second, .val (.long w139), .second, sl140, sl141, sl142, sl143] []))
      refine Run.go (fun _ k => XS.lload X144.here hx rfl (hb hby at_663) rfl  k) ?_
      show Run p e below s 2 28 (Q_rm0 Z q1 p2 p3 p4 p5 h0 n0) (T144.setTop (mkF m 665 #[.val (.long q1), .second, .val (.int p2), .val (.int p3), .val (.int p4), .val (.int p5), .val (.ref pw), .val (.int z45), .val (.int z46), .val (.long z47), .second, .val (.int z48), .val (.int w50), .val (.int z52), .val (.ref ar), .val (.long (own_u32 ff135 z45 (z45 + z46))), .second, .val (.long w139), .second, sl140, sl141, sl142, sl143] [(.long (own_u32 ff135 z45 (z45 + z46)))]))
      refine Run.go (fun _ k => XS.lload X144.here hx rfl (hb hby at_665) rfl  k) ?_
      show Run p e below s 2 28 (Q_rm0 Z q1 p2 p3 p4 p5 h0 n0) (T144.setTop (mkF m 667 #[.val (.long q1), .second, .val (.int p2), .val (.int p3), .val (.int p4), .val (.int p5), .val (.ref pw), .val (.int z45), .val (.int z46), .val (.long z47), .second, .val (.int z48), .val (.int w50), .val (.int z52), .val (.ref ar), .val (.long (own_u32 ff135 z45 (z45 + z46))), .second, .val (.long w139), .second, sl140, sl141, sl142, sl143] [(.long w139), (.long (own_u32 ff135 z45 (z45 + z46)))]))
      refine Run.go (fun _ k => XS.lcmp X144.here hx rfl (hb hby at_667) rfl k) ?_
      show Run p e below s 2 28 (Q_rm0 Z q1 p2 p3 p4 p5 h0 n0) (T144.setTop (mkF m 668 #[.val (.long q1), .second, .val (.int p2), .val (.int p3), .val (.int p4), .val (.int p5), .val (.ref pw), .val (.int z45), .val (.int z46), .val (.long z47), .second, .val (.int z48), .val (.int w50), .val (.int z52), .val (.ref ar), .val (.long (own_u32 ff135 z45 (z45 + z46))), .second, .val (.long w139), .second, sl140, sl141, sl142, sl143] [(.int (lcmpW (own_u32 ff135 z45 (z45 + z46)) w139))]))
      refine Run.go (fun _ k => XS.ifNo X144.here hx rfl (hb hby at_668) rfl ((if0 _ _).trans (teq ((lw_eq (own_u32 ff135 z45 (z45 + z46)) w139).mpr ((own_final ff135 z45 z46 z48 z52 w50 p5 z47 _ (by rw [hz45]; exact (own_s p2).1) (by rw [hz45]; exact (own_s p2).2) (by rw [hz46]; exact (own_ln p2).1) (by rw [hz46]; exact (own_ln p2).2.1) (by rw [hz48]; exact (own_p p3).1) hw50 (fun q => q.2) (by rw [hz47]; exact (own_vb _ _ (by rw [hz46]; exact (own_ln p2).2.2)).1) (by rw [hz47]; exact (own_vb _ _ (by rw [hz46]; exact (own_ln p2).2.2)).2) hcl).trans hw139.symm))).2) k) ?_
      show Run p e below s 2 28 (Q_rm0 Z q1 p2 p3 p4 p5 h0 n0) (T144.setTop (mkF m 671 #[.val (.long q1), .second, .val (.int p2), .val (.int p3), .val (.int p4), .val (.int p5), .val (.ref pw), .val (.int z45), .val (.int z46), .val (.long z47), .second, .val (.int z48), .val (.int w50), .val (.int z52), .val (.ref ar), .val (.long (own_u32 ff135 z45 (z45 + z46))), .second, .val (.long w139), .second, sl140, sl141, sl142, sl143] []))
      refine Run.go (fun _ k => XS.iconst X144.here hx rfl (hb hby at_671) k) ?_
      show Run p e below s 2 28 (Q_rm0 Z q1 p2 p3 p4 p5 h0 n0) (T144.setTop (mkF m 672 #[.val (.long q1), .second, .val (.int p2), .val (.int p3), .val (.int p4), .val (.int p5), .val (.ref pw), .val (.int z45), .val (.int z46), .val (.long z47), .second, .val (.int z48), .val (.int w50), .val (.int z52), .val (.ref ar), .val (.long (own_u32 ff135 z45 (z45 + z46))), .second, .val (.long w139), .second, sl140, sl141, sl142, sl143] [(.int (1 : Int32))]))
      refine Run.go (fun _ k => XS.goto X144.here hx rfl (pc0 := 672) (pc' := 676) rfl (hb hby at_672) (by decide) (by decide) k) ?_
      show Run p e below s 2 28 (Q_rm0 Z q1 p2 p3 p4 p5 h0 n0) (T144.setTop (mkF m 676 #[.val (.long q1), .second, .val (.int p2), .val (.int p3), .val (.int p4), .val (.int p5), .val (.ref pw), .val (.int z45), .val (.int z46), .val (.long z47), .second, .val (.int z48), .val (.int w50), .val (.int z52), .val (.ref ar), .val (.long (own_u32 ff135 z45 (z45 + z46))), .second, .val (.long w139), .second, sl140, sl141, sl142, sl143] [(.int (1 : Int32))]))
      exact Run.retN (y := 1) X144 hx (t := .boolean) Bd.returns (by simp) rfl Bd.notSynchronized (hb hby at_676) (by decide) (by decide) ⟨rfl, N144⟩
    by_cases hc145 : (z46 = (0 : Int32))
    · refine Run.go (fun _ k => XS.ifYes Xg136.here hx rfl (pc0 := 551) (pc' := 561) rfl (hb hby at_551) rfl ((if0 _ _).trans (teq hc145).1) (by decide) (by decide) k) ?_
      show Run p e below s 2 28 (Q_rm0 Z q1 p2 p3 p4 p5 h0 n0) (T136.setTop (mkF m 561 #[.val (.long q1), .second, .val (.int p2), .val (.int p3), .val (.int p4), .val (.int p5), .val (.ref pw), .val (.int z45), .val (.int z46), .val (.long z47), .second, .val (.int z48), .val (.int w50), .val (.int z52), .val (.ref ar), .val (.long (own_u32 ff135 z45 (z45 + z46))), .second, .unset, .unset, .unset, .unset, .unset, .unset] []))
      refine Run.go (fun _ k => Xg136.ldc2Long hx hown (mvT hZ (hw _ (List.mem_of_getElem? (i := 23) rfl))) (g := (mkF m 561 #[.val (.long q1), .second, .val (.int p2), .val (.int p3), .val (.int p4), .val (.int p5), .val (.ref pw), .val (.int z45), .val (.int z46), .val (.long z47), .second, .val (.int z48), .val (.int w50), .val (.int z52), .val (.ref ar), .val (.long (own_u32 ff135 z45 (z45 + z46))), .second, .unset, .unset, .unset, .unset, .unset, .unset] [])) rfl (hb hby at_561) _ k) ?_
      show Run p e below s 2 28 (Q_rm0 Z q1 p2 p3 p4 p5 h0 n0) (T136.setTop (mkF m 564 #[.val (.long q1), .second, .val (.int p2), .val (.int p3), .val (.int p4), .val (.int p5), .val (.ref pw), .val (.int z45), .val (.int z46), .val (.long z47), .second, .val (.int z48), .val (.int w50), .val (.int z52), .val (.ref ar), .val (.long (own_u32 ff135 z45 (z45 + z46))), .second, .unset, .unset, .unset, .unset, .unset, .unset] [(.long (-1 : Int64))]))
      refine Run.go (fun _ k => XS.lstore Xg136.here hx rfl (hb hby at_564) rfl (l' := #[.val (.long q1), .second, .val (.int p2), .val (.int p3), .val (.int p4), .val (.int p5), .val (.ref pw), .val (.int z45), .val (.int z46), .val (.long z47), .second, .val (.int z48), .val (.int w50), .val (.int z52), .val (.ref ar), .val (.long (own_u32 ff135 z45 (z45 + z46))), .second, .val (.long (-1 : Int64)), .second, .unset, .unset, .unset, .unset]) rfl k) ?_
      show Run p e below s 2 28 (Q_rm0 Z q1 p2 p3 p4 p5 h0 n0) (T136.setTop (mkF m 566 #[.val (.long q1), .second, .val (.int p2), .val (.int p3), .val (.int p4), .val (.int p5), .val (.ref pw), .val (.int z45), .val (.int z46), .val (.long z47), .second, .val (.int z48), .val (.int w50), .val (.int z52), .val (.ref ar), .val (.long (own_u32 ff135 z45 (z45 + z46))), .second, .val (.long (-1 : Int64)), .second, .unset, .unset, .unset, .unset] []))
      refine Run.go (fun _ k => XS.goto Xg136.here hx rfl (pc0 := 566) (pc' := 663) rfl (hb hby at_566) (by decide) (by decide) k) ?_
      show Run p e below s 2 28 (Q_rm0 Z q1 p2 p3 p4 p5 h0 n0) (T136.setTop (mkF m 663 #[.val (.long q1), .second, .val (.int p2), .val (.int p3), .val (.int p4), .val (.int p5), .val (.ref pw), .val (.int z45), .val (.int z46), .val (.long z47), .second, .val (.int z48), .val (.int w50), .val (.int z52), .val (.ref ar), .val (.long (own_u32 ff135 z45 (z45 + z46))), .second, .val (.long (-1 : Int64)), .second, .unset, .unset, .unset, .unset] []))
      exact J138 _ (by rw [if_pos hc145]) _ _ _ _ _ _ Xg136 e136q Ng136
    · refine Run.go (fun _ k => XS.ifNo Xg136.here hx rfl (hb hby at_551) rfl ((if0 _ _).trans (feq hc145).1) k) ?_
      show Run p e below s 2 28 (Q_rm0 Z q1 p2 p3 p4 p5 h0 n0) (T136.setTop (mkF m 554 #[.val (.long q1), .second, .val (.int p2), .val (.int p3), .val (.int p4), .val (.int p5), .val (.ref pw), .val (.int z45), .val (.int z46), .val (.long z47), .second, .val (.int z48), .val (.int w50), .val (.int z52), .val (.ref ar), .val (.long (own_u32 ff135 z45 (z45 + z46))), .second, .unset, .unset, .unset, .unset, .unset, .unset] []))
      refine Run.go (fun _ k => XS.iload Xg136.here hx rfl (hb hby at_554) rfl  k) ?_
      show Run p e below s 2 28 (Q_rm0 Z q1 p2 p3 p4 p5 h0 n0) (T136.setTop (mkF m 556 #[.val (.long q1), .second, .val (.int p2), .val (.int p3), .val (.int p4), .val (.int p5), .val (.ref pw), .val (.int z45), .val (.int z46), .val (.long z47), .second, .val (.int z48), .val (.int w50), .val (.int z52), .val (.ref ar), .val (.long (own_u32 ff135 z45 (z45 + z46))), .second, .unset, .unset, .unset, .unset, .unset, .unset] [(.int z46)]))
      refine Run.go (fun _ k => XS.bipush Xg136.here hx rfl (hb hby at_556) k) ?_
      show Run p e below s 2 28 (Q_rm0 Z q1 p2 p3 p4 p5 h0 n0) (T136.setTop (mkF m 558 #[.val (.long q1), .second, .val (.int p2), .val (.int p3), .val (.int p4), .val (.int p5), .val (.ref pw), .val (.int z45), .val (.int z46), .val (.long z47), .second, .val (.int z48), .val (.int w50), .val (.int z52), .val (.ref ar), .val (.long (own_u32 ff135 z45 (z45 + z46))), .second, .unset, .unset, .unset, .unset, .unset, .unset] [(.int (10 : Int32)), (.int z46)]))
      by_cases hc146 : ((10 : Int32) < z46)
      · refine Run.go (fun _ k => XS.icmpNo Xg136.here hx rfl (hb hby at_558) rfl (tlt hc146).2.2.2 k) ?_
        show Run p e below s 2 28 (Q_rm0 Z q1 p2 p3 p4 p5 h0 n0) (T136.setTop (mkF m 561 #[.val (.long q1), .second, .val (.int p2), .val (.int p3), .val (.int p4), .val (.int p5), .val (.ref pw), .val (.int z45), .val (.int z46), .val (.long z47), .second, .val (.int z48), .val (.int w50), .val (.int z52), .val (.ref ar), .val (.long (own_u32 ff135 z45 (z45 + z46))), .second, .unset, .unset, .unset, .unset, .unset, .unset] []))
        refine Run.go (fun _ k => Xg136.ldc2Long hx hown (mvT hZ (hw _ (List.mem_of_getElem? (i := 23) rfl))) (g := (mkF m 561 #[.val (.long q1), .second, .val (.int p2), .val (.int p3), .val (.int p4), .val (.int p5), .val (.ref pw), .val (.int z45), .val (.int z46), .val (.long z47), .second, .val (.int z48), .val (.int w50), .val (.int z52), .val (.ref ar), .val (.long (own_u32 ff135 z45 (z45 + z46))), .second, .unset, .unset, .unset, .unset, .unset, .unset] [])) rfl (hb hby at_561) _ k) ?_
        show Run p e below s 2 28 (Q_rm0 Z q1 p2 p3 p4 p5 h0 n0) (T136.setTop (mkF m 564 #[.val (.long q1), .second, .val (.int p2), .val (.int p3), .val (.int p4), .val (.int p5), .val (.ref pw), .val (.int z45), .val (.int z46), .val (.long z47), .second, .val (.int z48), .val (.int w50), .val (.int z52), .val (.ref ar), .val (.long (own_u32 ff135 z45 (z45 + z46))), .second, .unset, .unset, .unset, .unset, .unset, .unset] [(.long (-1 : Int64))]))
        refine Run.go (fun _ k => XS.lstore Xg136.here hx rfl (hb hby at_564) rfl (l' := #[.val (.long q1), .second, .val (.int p2), .val (.int p3), .val (.int p4), .val (.int p5), .val (.ref pw), .val (.int z45), .val (.int z46), .val (.long z47), .second, .val (.int z48), .val (.int w50), .val (.int z52), .val (.ref ar), .val (.long (own_u32 ff135 z45 (z45 + z46))), .second, .val (.long (-1 : Int64)), .second, .unset, .unset, .unset, .unset]) rfl k) ?_
        show Run p e below s 2 28 (Q_rm0 Z q1 p2 p3 p4 p5 h0 n0) (T136.setTop (mkF m 566 #[.val (.long q1), .second, .val (.int p2), .val (.int p3), .val (.int p4), .val (.int p5), .val (.ref pw), .val (.int z45), .val (.int z46), .val (.long z47), .second, .val (.int z48), .val (.int w50), .val (.int z52), .val (.ref ar), .val (.long (own_u32 ff135 z45 (z45 + z46))), .second, .val (.long (-1 : Int64)), .second, .unset, .unset, .unset, .unset] []))
        refine Run.go (fun _ k => XS.goto Xg136.here hx rfl (pc0 := 566) (pc' := 663) rfl (hb hby at_566) (by decide) (by decide) k) ?_
        show Run p e below s 2 28 (Q_rm0 Z q1 p2 p3 p4 p5 h0 n0) (T136.setTop (mkF m 663 #[.val (.long q1), .second, .val (.int p2), .val (.int p3), .val (.int p4), .val (.int p5), .val (.ref pw), .val (.int z45), .val (.int z46), .val (.long z47), .second, .val (.int z48), .val (.int w50), .val (.int z52), .val (.ref ar), .val (.long (own_u32 ff135 z45 (z45 + z46))), .second, .val (.long (-1 : Int64)), .second, .unset, .unset, .unset, .unset] []))
        exact J138 _ (by rw [if_neg hc145, if_pos hc146]) _ _ _ _ _ _ Xg136 e136q Ng136
      · refine Run.go (fun _ k => XS.icmpYes Xg136.here hx rfl (pc0 := 558) (pc' := 569) rfl (hb hby at_558) rfl (flt hc146).2.2.2 (by decide) (by decide) k) ?_
        show Run p e below s 2 28 (Q_rm0 Z q1 p2 p3 p4 p5 h0 n0) (T136.setTop (mkF m 569 #[.val (.long q1), .second, .val (.int p2), .val (.int p3), .val (.int p4), .val (.int p5), .val (.ref pw), .val (.int z45), .val (.int z46), .val (.long z47), .second, .val (.int z48), .val (.int w50), .val (.int z52), .val (.ref ar), .val (.long (own_u32 ff135 z45 (z45 + z46))), .second, .unset, .unset, .unset, .unset, .unset, .unset] []))
        refine Run.go (fun _ k => XS.iload Xg136.here hx rfl (hb hby at_569) rfl  k) ?_
        show Run p e below s 2 28 (Q_rm0 Z q1 p2 p3 p4 p5 h0 n0) (T136.setTop (mkF m 571 #[.val (.long q1), .second, .val (.int p2), .val (.int p3), .val (.int p4), .val (.int p5), .val (.ref pw), .val (.int z45), .val (.int z46), .val (.long z47), .second, .val (.int z48), .val (.int w50), .val (.int z52), .val (.ref ar), .val (.long (own_u32 ff135 z45 (z45 + z46))), .second, .unset, .unset, .unset, .unset, .unset, .unset] [(.int w50)]))
        by_cases hc147 : ((¬ ((p3 &&& (1 : Int32)) = (0 : Int32))) ∧ (z48 < z46))
        · refine Run.go (fun _ k => XS.ifNo Xg136.here hx rfl (hb hby at_571) rfl ((if0 _ _).trans (feq (by rw [hw50, if_pos hc147]; decide)).1) k) ?_
          show Run p e below s 2 28 (Q_rm0 Z q1 p2 p3 p4 p5 h0 n0) (T136.setTop (mkF m 574 #[.val (.long q1), .second, .val (.int p2), .val (.int p3), .val (.int p4), .val (.int p5), .val (.ref pw), .val (.int z45), .val (.int z46), .val (.long z47), .second, .val (.int z48), .val (.int w50), .val (.int z52), .val (.ref ar), .val (.long (own_u32 ff135 z45 (z45 + z46))), .second, .unset, .unset, .unset, .unset, .unset, .unset] []))
          refine Run.go (fun _ k => XS.iload Xg136.here hx rfl (hb hby at_574) rfl  k) ?_
          show Run p e below s 2 28 (Q_rm0 Z q1 p2 p3 p4 p5 h0 n0) (T136.setTop (mkF m 576 #[.val (.long q1), .second, .val (.int p2), .val (.int p3), .val (.int p4), .val (.int p5), .val (.ref pw), .val (.int z45), .val (.int z46), .val (.long z47), .second, .val (.int z48), .val (.int w50), .val (.int z52), .val (.ref ar), .val (.long (own_u32 ff135 z45 (z45 + z46))), .second, .unset, .unset, .unset, .unset, .unset, .unset] [(.int z52)]))
          refine Run.go (fun _ k => XS.bipush Xg136.here hx rfl (hb hby at_576) k) ?_
          show Run p e below s 2 28 (Q_rm0 Z q1 p2 p3 p4 p5 h0 n0) (T136.setTop (mkF m 578 #[.val (.long q1), .second, .val (.int p2), .val (.int p3), .val (.int p4), .val (.int p5), .val (.ref pw), .val (.int z45), .val (.int z46), .val (.long z47), .second, .val (.int z48), .val (.int w50), .val (.int z52), .val (.ref ar), .val (.long (own_u32 ff135 z45 (z45 + z46))), .second, .unset, .unset, .unset, .unset, .unset, .unset] [(.int (48 : Int32)), (.int z52)]))
          by_cases hc148 : (z52 < (48 : Int32))
          · refine Run.go (fun _ k => XS.icmpYes Xg136.here hx rfl (pc0 := 578) (pc' := 588) rfl (hb hby at_578) rfl (tlt hc148).1 (by decide) (by decide) k) ?_
            show Run p e below s 2 28 (Q_rm0 Z q1 p2 p3 p4 p5 h0 n0) (T136.setTop (mkF m 588 #[.val (.long q1), .second, .val (.int p2), .val (.int p3), .val (.int p4), .val (.int p5), .val (.ref pw), .val (.int z45), .val (.int z46), .val (.long z47), .second, .val (.int z48), .val (.int w50), .val (.int z52), .val (.ref ar), .val (.long (own_u32 ff135 z45 (z45 + z46))), .second, .unset, .unset, .unset, .unset, .unset, .unset] []))
            refine Run.go (fun _ k => Xg136.ldc2Long hx hown (mvT hZ (hw _ (List.mem_of_getElem? (i := 23) rfl))) (g := (mkF m 588 #[.val (.long q1), .second, .val (.int p2), .val (.int p3), .val (.int p4), .val (.int p5), .val (.ref pw), .val (.int z45), .val (.int z46), .val (.long z47), .second, .val (.int z48), .val (.int w50), .val (.int z52), .val (.ref ar), .val (.long (own_u32 ff135 z45 (z45 + z46))), .second, .unset, .unset, .unset, .unset, .unset, .unset] [])) rfl (hb hby at_588) _ k) ?_
            show Run p e below s 2 28 (Q_rm0 Z q1 p2 p3 p4 p5 h0 n0) (T136.setTop (mkF m 591 #[.val (.long q1), .second, .val (.int p2), .val (.int p3), .val (.int p4), .val (.int p5), .val (.ref pw), .val (.int z45), .val (.int z46), .val (.long z47), .second, .val (.int z48), .val (.int w50), .val (.int z52), .val (.ref ar), .val (.long (own_u32 ff135 z45 (z45 + z46))), .second, .unset, .unset, .unset, .unset, .unset, .unset] [(.long (-1 : Int64))]))
            refine Run.go (fun _ k => XS.lstore Xg136.here hx rfl (hb hby at_591) rfl (l' := #[.val (.long q1), .second, .val (.int p2), .val (.int p3), .val (.int p4), .val (.int p5), .val (.ref pw), .val (.int z45), .val (.int z46), .val (.long z47), .second, .val (.int z48), .val (.int w50), .val (.int z52), .val (.ref ar), .val (.long (own_u32 ff135 z45 (z45 + z46))), .second, .val (.long (-1 : Int64)), .second, .unset, .unset, .unset, .unset]) rfl k) ?_
            show Run p e below s 2 28 (Q_rm0 Z q1 p2 p3 p4 p5 h0 n0) (T136.setTop (mkF m 593 #[.val (.long q1), .second, .val (.int p2), .val (.int p3), .val (.int p4), .val (.int p5), .val (.ref pw), .val (.int z45), .val (.int z46), .val (.long z47), .second, .val (.int z48), .val (.int w50), .val (.int z52), .val (.ref ar), .val (.long (own_u32 ff135 z45 (z45 + z46))), .second, .val (.long (-1 : Int64)), .second, .unset, .unset, .unset, .unset] []))
            refine Run.go (fun _ k => XS.goto Xg136.here hx rfl (pc0 := 593) (pc' := 663) rfl (hb hby at_593) (by decide) (by decide) k) ?_
            show Run p e below s 2 28 (Q_rm0 Z q1 p2 p3 p4 p5 h0 n0) (T136.setTop (mkF m 663 #[.val (.long q1), .second, .val (.int p2), .val (.int p3), .val (.int p4), .val (.int p5), .val (.ref pw), .val (.int z45), .val (.int z46), .val (.long z47), .second, .val (.int z48), .val (.int w50), .val (.int z52), .val (.ref ar), .val (.long (own_u32 ff135 z45 (z45 + z46))), .second, .val (.long (-1 : Int64)), .second, .unset, .unset, .unset, .unset] []))
            exact J138 _ (by rw [if_neg hc145, if_neg hc146, if_pos hc147, if_pos hc148]) _ _ _ _ _ _ Xg136 e136q Ng136
          · refine Run.go (fun _ k => XS.icmpNo Xg136.here hx rfl (hb hby at_578) rfl (flt hc148).1 k) ?_
            show Run p e below s 2 28 (Q_rm0 Z q1 p2 p3 p4 p5 h0 n0) (T136.setTop (mkF m 581 #[.val (.long q1), .second, .val (.int p2), .val (.int p3), .val (.int p4), .val (.int p5), .val (.ref pw), .val (.int z45), .val (.int z46), .val (.long z47), .second, .val (.int z48), .val (.int w50), .val (.int z52), .val (.ref ar), .val (.long (own_u32 ff135 z45 (z45 + z46))), .second, .unset, .unset, .unset, .unset, .unset, .unset] []))
            refine Run.go (fun _ k => XS.iload Xg136.here hx rfl (hb hby at_581) rfl  k) ?_
            show Run p e below s 2 28 (Q_rm0 Z q1 p2 p3 p4 p5 h0 n0) (T136.setTop (mkF m 583 #[.val (.long q1), .second, .val (.int p2), .val (.int p3), .val (.int p4), .val (.int p5), .val (.ref pw), .val (.int z45), .val (.int z46), .val (.long z47), .second, .val (.int z48), .val (.int w50), .val (.int z52), .val (.ref ar), .val (.long (own_u32 ff135 z45 (z45 + z46))), .second, .unset, .unset, .unset, .unset, .unset, .unset] [(.int z52)]))
            refine Run.go (fun _ k => XS.bipush Xg136.here hx rfl (hb hby at_583) k) ?_
            show Run p e below s 2 28 (Q_rm0 Z q1 p2 p3 p4 p5 h0 n0) (T136.setTop (mkF m 585 #[.val (.long q1), .second, .val (.int p2), .val (.int p3), .val (.int p4), .val (.int p5), .val (.ref pw), .val (.int z45), .val (.int z46), .val (.long z47), .second, .val (.int z48), .val (.int w50), .val (.int z52), .val (.ref ar), .val (.long (own_u32 ff135 z45 (z45 + z46))), .second, .unset, .unset, .unset, .unset, .unset, .unset] [(.int (57 : Int32)), (.int z52)]))
            by_cases hc149 : ((57 : Int32) < z52)
            · refine Run.go (fun _ k => XS.icmpNo Xg136.here hx rfl (hb hby at_585) rfl (tlt hc149).2.2.2 k) ?_
              show Run p e below s 2 28 (Q_rm0 Z q1 p2 p3 p4 p5 h0 n0) (T136.setTop (mkF m 588 #[.val (.long q1), .second, .val (.int p2), .val (.int p3), .val (.int p4), .val (.int p5), .val (.ref pw), .val (.int z45), .val (.int z46), .val (.long z47), .second, .val (.int z48), .val (.int w50), .val (.int z52), .val (.ref ar), .val (.long (own_u32 ff135 z45 (z45 + z46))), .second, .unset, .unset, .unset, .unset, .unset, .unset] []))
              refine Run.go (fun _ k => Xg136.ldc2Long hx hown (mvT hZ (hw _ (List.mem_of_getElem? (i := 23) rfl))) (g := (mkF m 588 #[.val (.long q1), .second, .val (.int p2), .val (.int p3), .val (.int p4), .val (.int p5), .val (.ref pw), .val (.int z45), .val (.int z46), .val (.long z47), .second, .val (.int z48), .val (.int w50), .val (.int z52), .val (.ref ar), .val (.long (own_u32 ff135 z45 (z45 + z46))), .second, .unset, .unset, .unset, .unset, .unset, .unset] [])) rfl (hb hby at_588) _ k) ?_
              show Run p e below s 2 28 (Q_rm0 Z q1 p2 p3 p4 p5 h0 n0) (T136.setTop (mkF m 591 #[.val (.long q1), .second, .val (.int p2), .val (.int p3), .val (.int p4), .val (.int p5), .val (.ref pw), .val (.int z45), .val (.int z46), .val (.long z47), .second, .val (.int z48), .val (.int w50), .val (.int z52), .val (.ref ar), .val (.long (own_u32 ff135 z45 (z45 + z46))), .second, .unset, .unset, .unset, .unset, .unset, .unset] [(.long (-1 : Int64))]))
              refine Run.go (fun _ k => XS.lstore Xg136.here hx rfl (hb hby at_591) rfl (l' := #[.val (.long q1), .second, .val (.int p2), .val (.int p3), .val (.int p4), .val (.int p5), .val (.ref pw), .val (.int z45), .val (.int z46), .val (.long z47), .second, .val (.int z48), .val (.int w50), .val (.int z52), .val (.ref ar), .val (.long (own_u32 ff135 z45 (z45 + z46))), .second, .val (.long (-1 : Int64)), .second, .unset, .unset, .unset, .unset]) rfl k) ?_
              show Run p e below s 2 28 (Q_rm0 Z q1 p2 p3 p4 p5 h0 n0) (T136.setTop (mkF m 593 #[.val (.long q1), .second, .val (.int p2), .val (.int p3), .val (.int p4), .val (.int p5), .val (.ref pw), .val (.int z45), .val (.int z46), .val (.long z47), .second, .val (.int z48), .val (.int w50), .val (.int z52), .val (.ref ar), .val (.long (own_u32 ff135 z45 (z45 + z46))), .second, .val (.long (-1 : Int64)), .second, .unset, .unset, .unset, .unset] []))
              refine Run.go (fun _ k => XS.goto Xg136.here hx rfl (pc0 := 593) (pc' := 663) rfl (hb hby at_593) (by decide) (by decide) k) ?_
              show Run p e below s 2 28 (Q_rm0 Z q1 p2 p3 p4 p5 h0 n0) (T136.setTop (mkF m 663 #[.val (.long q1), .second, .val (.int p2), .val (.int p3), .val (.int p4), .val (.int p5), .val (.ref pw), .val (.int z45), .val (.int z46), .val (.long z47), .second, .val (.int z48), .val (.int w50), .val (.int z52), .val (.ref ar), .val (.long (own_u32 ff135 z45 (z45 + z46))), .second, .val (.long (-1 : Int64)), .second, .unset, .unset, .unset, .unset] []))
              exact J138 _ (by rw [if_neg hc145, if_neg hc146, if_pos hc147, if_neg hc148, if_pos hc149]) _ _ _ _ _ _ Xg136 e136q Ng136
            · refine Run.go (fun _ k => XS.icmpYes Xg136.here hx rfl (pc0 := 585) (pc' := 596) rfl (hb hby at_585) rfl (flt hc149).2.2.2 (by decide) (by decide) k) ?_
              show Run p e below s 2 28 (Q_rm0 Z q1 p2 p3 p4 p5 h0 n0) (T136.setTop (mkF m 596 #[.val (.long q1), .second, .val (.int p2), .val (.int p3), .val (.int p4), .val (.int p5), .val (.ref pw), .val (.int z45), .val (.int z46), .val (.long z47), .second, .val (.int z48), .val (.int w50), .val (.int z52), .val (.ref ar), .val (.long (own_u32 ff135 z45 (z45 + z46))), .second, .unset, .unset, .unset, .unset, .unset, .unset] []))
              refine Run.go (fun _ k => XS.lload Xg136.here hx rfl (hb hby at_596) rfl  k) ?_
              show Run p e below s 2 28 (Q_rm0 Z q1 p2 p3 p4 p5 h0 n0) (T136.setTop (mkF m 598 #[.val (.long q1), .second, .val (.int p2), .val (.int p3), .val (.int p4), .val (.int p5), .val (.ref pw), .val (.int z45), .val (.int z46), .val (.long z47), .second, .val (.int z48), .val (.int w50), .val (.int z52), .val (.ref ar), .val (.long (own_u32 ff135 z45 (z45 + z46))), .second, .unset, .unset, .unset, .unset, .unset, .unset] [(.long z47)]))
              refine Run.go (fun _ k => XS.lstore Xg136.here hx rfl (hb hby at_598) rfl (l' := #[.val (.long q1), .second, .val (.int p2), .val (.int p3), .val (.int p4), .val (.int p5), .val (.ref pw), .val (.int z45), .val (.int z46), .val (.long z47), .second, .val (.int z48), .val (.int w50), .val (.int z52), .val (.ref ar), .val (.long (own_u32 ff135 z45 (z45 + z46))), .second, .unset, .unset, .val (.long z47), .second, .unset, .unset]) rfl k) ?_
              show Run p e below s 2 28 (Q_rm0 Z q1 p2 p3 p4 p5 h0 n0) (T136.setTop (mkF m 600 #[.val (.long q1), .second, .val (.int p2), .val (.int p3), .val (.int p4), .val (.int p5), .val (.ref pw), .val (.int z45), .val (.int z46), .val (.long z47), .second, .val (.int z48), .val (.int w50), .val (.int z52), .val (.ref ar), .val (.long (own_u32 ff135 z45 (z45 + z46))), .second, .unset, .unset, .val (.long z47), .second, .unset, .unset] []))
              refine Run.go (fun _ k => XS.iload Xg136.here hx rfl (hb hby at_600) rfl  k) ?_
              show Run p e below s 2 28 (Q_rm0 Z q1 p2 p3 p4 p5 h0 n0) (T136.setTop (mkF m 602 #[.val (.long q1), .second, .val (.int p2), .val (.int p3), .val (.int p4), .val (.int p5), .val (.ref pw), .val (.int z45), .val (.int z46), .val (.long z47), .second, .val (.int z48), .val (.int w50), .val (.int z52), .val (.ref ar), .val (.long (own_u32 ff135 z45 (z45 + z46))), .second, .unset, .unset, .val (.long z47), .second, .unset, .unset] [(.int w50)]))
              refine Run.go (fun _ k => XS.ifNo Xg136.here hx rfl (hb hby at_602) rfl ((if0 _ _).trans (feq (by rw [hw50, if_pos hc147]; decide)).1) k) ?_
              show Run p e below s 2 28 (Q_rm0 Z q1 p2 p3 p4 p5 h0 n0) (T136.setTop (mkF m 605 #[.val (.long q1), .second, .val (.int p2), .val (.int p3), .val (.int p4), .val (.int p5), .val (.ref pw), .val (.int z45), .val (.int z46), .val (.long z47), .second, .val (.int z48), .val (.int w50), .val (.int z52), .val (.ref ar), .val (.long (own_u32 ff135 z45 (z45 + z46))), .second, .unset, .unset, .val (.long z47), .second, .unset, .unset] []))
              refine Run.go (fun _ k => XS.aload Xg136.here hx rfl (hb hby at_605) rfl rfl k) ?_
              show Run p e below s 2 28 (Q_rm0 Z q1 p2 p3 p4 p5 h0 n0) (T136.setTop (mkF m 607 #[.val (.long q1), .second, .val (.int p2), .val (.int p3), .val (.int p4), .val (.int p5), .val (.ref pw), .val (.int z45), .val (.int z46), .val (.long z47), .second, .val (.int z48), .val (.int w50), .val (.int z52), .val (.ref ar), .val (.long (own_u32 ff135 z45 (z45 + z46))), .second, .unset, .unset, .val (.long z47), .second, .unset, .unset] [(.ref pw)]))
              refine Run.go (fun _ k => XS.iload Xg136.here hx rfl (hb hby at_607) rfl  k) ?_
              show Run p e below s 2 28 (Q_rm0 Z q1 p2 p3 p4 p5 h0 n0) (T136.setTop (mkF m 609 #[.val (.long q1), .second, .val (.int p2), .val (.int p3), .val (.int p4), .val (.int p5), .val (.ref pw), .val (.int z45), .val (.int z46), .val (.long z47), .second, .val (.int z48), .val (.int w50), .val (.int z52), .val (.ref ar), .val (.long (own_u32 ff135 z45 (z45 + z46))), .second, .unset, .unset, .val (.long z47), .second, .unset, .unset] [(.int z46), (.ref pw)]))
              refine Run.go (fun _ k => XS.iconst Xg136.here hx rfl (hb hby at_609) k) ?_
              show Run p e below s 2 28 (Q_rm0 Z q1 p2 p3 p4 p5 h0 n0) (T136.setTop (mkF m 610 #[.val (.long q1), .second, .val (.int p2), .val (.int p3), .val (.int p4), .val (.int p5), .val (.ref pw), .val (.int z45), .val (.int z46), .val (.long z47), .second, .val (.int z48), .val (.int w50), .val (.int z52), .val (.ref ar), .val (.long (own_u32 ff135 z45 (z45 + z46))), .second, .unset, .unset, .val (.long z47), .second, .unset, .unset] [(.int (1 : Int32)), (.int z46), (.ref pw)]))
              refine Run.go (fun _ k => XS.isub Xg136.here hx rfl (hb hby at_610) rfl k) ?_
              show Run p e below s 2 28 (Q_rm0 Z q1 p2 p3 p4 p5 h0 n0) (T136.setTop (mkF m 611 #[.val (.long q1), .second, .val (.int p2), .val (.int p3), .val (.int p4), .val (.int p5), .val (.ref pw), .val (.int z45), .val (.int z46), .val (.long z47), .second, .val (.int z48), .val (.int w50), .val (.int z52), .val (.ref ar), .val (.long (own_u32 ff135 z45 (z45 + z46))), .second, .unset, .unset, .val (.long z47), .second, .unset, .unset] [(.int (z46 - (1 : Int32))), (.ref pw)]))
              refine Run.go (fun _ k => XS.iload Xg136.here hx rfl (hb hby at_611) rfl  k) ?_
              show Run p e below s 2 28 (Q_rm0 Z q1 p2 p3 p4 p5 h0 n0) (T136.setTop (mkF m 613 #[.val (.long q1), .second, .val (.int p2), .val (.int p3), .val (.int p4), .val (.int p5), .val (.ref pw), .val (.int z45), .val (.int z46), .val (.long z47), .second, .val (.int z48), .val (.int w50), .val (.int z52), .val (.ref ar), .val (.long (own_u32 ff135 z45 (z45 + z46))), .second, .unset, .unset, .val (.long z47), .second, .unset, .unset] [(.int z48), (.int (z46 - (1 : Int32))), (.ref pw)]))
              refine Run.go (fun _ k => XS.isub Xg136.here hx rfl (hb hby at_613) rfl k) ?_
              show Run p e below s 2 28 (Q_rm0 Z q1 p2 p3 p4 p5 h0 n0) (T136.setTop (mkF m 614 #[.val (.long q1), .second, .val (.int p2), .val (.int p3), .val (.int p4), .val (.int p5), .val (.ref pw), .val (.int z45), .val (.int z46), .val (.long z47), .second, .val (.int z48), .val (.int w50), .val (.int z52), .val (.ref ar), .val (.long (own_u32 ff135 z45 (z45 + z46))), .second, .unset, .unset, .val (.long z47), .second, .unset, .unset] [(.int ((z46 - (1 : Int32)) - z48)), (.ref pw)]))
              have fx150 := (fx132.other W133 ne_pw_ar)
              refine Run.go (fun _ k => ary_lget Xg136 hx hZ e136q fx150 (j := ((z46 - (1 : Int32)) - z48)) (own_ixp (by rw [hz46]; exact (own_ln p2).1) (by rw [hz48]; exact (own_p p3).1) hc147.2 (by rw [hz46]; exact (own_ln p2).2.1)).1 (own_ixp (by rw [hz46]; exact (own_ln p2).1) (by rw [hz48]; exact (own_p p3).1) hc147.2 (by rw [hz46]; exact (own_ln p2).2.1)).2.1 (g := (mkF m 614 #[.val (.long q1), .second, .val (.int p2), .val (.int p3), .val (.int p4), .val (.int p5), .val (.ref pw), .val (.int z45), .val (.int z46), .val (.long z47), .second, .val (.int z48), .val (.int w50), .val (.int z52), .val (.ref ar), .val (.long (own_u32 ff135 z45 (z45 + z46))), .second, .unset, .unset, .val (.long z47), .second, .unset, .unset] [(.int ((z46 - (1 : Int32)) - z48)), (.ref pw)])) rfl rfl (hb hby at_614) (hpw _ (own_ixp (by rw [hz46]; exact (own_ln p2).1) (by rw [hz48]; exact (own_p p3).1) hc147.2 (by rw [hz46]; exact (own_ln p2).2.1)).2.1) _ k) ?_
              show Run p e below s 2 28 (Q_rm0 Z q1 p2 p3 p4 p5 h0 n0) (T136.setTop (mkF m 615 #[.val (.long q1), .second, .val (.int p2), .val (.int p3), .val (.int p4), .val (.int p5), .val (.ref pw), .val (.int z45), .val (.int z46), .val (.long z47), .second, .val (.int z48), .val (.int w50), .val (.int z52), .val (.ref ar), .val (.long (own_u32 ff135 z45 (z45 + z46))), .second, .unset, .unset, .val (.long z47), .second, .unset, .unset] [(.long (own_pw ((z46 - (1 : Int32)) - z48).toNatClampNeg))]))
              refine Run.go (fun _ k => XS.lstore Xg136.here hx rfl (hb hby at_615) rfl (l' := #[.val (.long q1), .second, .val (.int p2), .val (.int p3), .val (.int p4), .val (.int p5), .val (.ref pw), .val (.int z45), .val (.int z46), .val (.long z47), .second, .val (.int z48), .val (.int w50), .val (.int z52), .val (.ref ar), .val (.long (own_u32 ff135 z45 (z45 + z46))), .second, .unset, .unset, .val (.long z47), .second, .val (.long (own_pw ((z46 - (1 : Int32)) - z48).toNatClampNeg)), .second]) rfl k) ?_
              show Run p e below s 2 28 (Q_rm0 Z q1 p2 p3 p4 p5 h0 n0) (T136.setTop (mkF m 617 #[.val (.long q1), .second, .val (.int p2), .val (.int p3), .val (.int p4), .val (.int p5), .val (.ref pw), .val (.int z45), .val (.int z46), .val (.long z47), .second, .val (.int z48), .val (.int w50), .val (.int z52), .val (.ref ar), .val (.long (own_u32 ff135 z45 (z45 + z46))), .second, .unset, .unset, .val (.long z47), .second, .val (.long (own_pw ((z46 - (1 : Int32)) - z48).toNatClampNeg)), .second] []))
              refine Run.go (fun _ k => XS.lload Xg136.here hx rfl (hb hby at_617) rfl  k) ?_
              show Run p e below s 2 28 (Q_rm0 Z q1 p2 p3 p4 p5 h0 n0) (T136.setTop (mkF m 619 #[.val (.long q1), .second, .val (.int p2), .val (.int p3), .val (.int p4), .val (.int p5), .val (.ref pw), .val (.int z45), .val (.int z46), .val (.long z47), .second, .val (.int z48), .val (.int w50), .val (.int z52), .val (.ref ar), .val (.long (own_u32 ff135 z45 (z45 + z46))), .second, .unset, .unset, .val (.long z47), .second, .val (.long (own_pw ((z46 - (1 : Int32)) - z48).toNatClampNeg)), .second] [(.long z47)]))
              refine Run.go (fun _ k => XS.lload Xg136.here hx rfl (hb hby at_619) rfl  k) ?_
              show Run p e below s 2 28 (Q_rm0 Z q1 p2 p3 p4 p5 h0 n0) (T136.setTop (mkF m 621 #[.val (.long q1), .second, .val (.int p2), .val (.int p3), .val (.int p4), .val (.int p5), .val (.ref pw), .val (.int z45), .val (.int z46), .val (.long z47), .second, .val (.int z48), .val (.int w50), .val (.int z52), .val (.ref ar), .val (.long (own_u32 ff135 z45 (z45 + z46))), .second, .unset, .unset, .val (.long z47), .second, .val (.long (own_pw ((z46 - (1 : Int32)) - z48).toNatClampNeg)), .second] [(.long z47), (.long z47)]))
              refine Run.go (fun _ k => XS.lload Xg136.here hx rfl (hb hby at_621) rfl  k) ?_
              show Run p e below s 2 28 (Q_rm0 Z q1 p2 p3 p4 p5 h0 n0) (T136.setTop (mkF m 623 #[.val (.long q1), .second, .val (.int p2), .val (.int p3), .val (.int p4), .val (.int p5), .val (.ref pw), .val (.int z45), .val (.int z46), .val (.long z47), .second, .val (.int z48), .val (.int w50), .val (.int z52), .val (.ref ar), .val (.long (own_u32 ff135 z45 (z45 + z46))), .second, .unset, .unset, .val (.long z47), .second, .val (.long (own_pw ((z46 - (1 : Int32)) - z48).toNatClampNeg)), .second] [(.long (own_pw ((z46 - (1 : Int32)) - z48).toNatClampNeg)), (.long z47), (.long z47)]))
              refine Run.go (fun _ k => XS.ldiv Xg136.here hx rfl (hb hby at_623) rfl (own_pw_nz _ (own_ixp (by rw [hz46]; exact (own_ln p2).1) (by rw [hz48]; exact (own_p p3).1) hc147.2 (by rw [hz46]; exact (own_ln p2).2.1)).2.1) k) ?_
              show Run p e below s 2 28 (Q_rm0 Z q1 p2 p3 p4 p5 h0 n0) (T136.setTop (mkF m 624 #[.val (.long q1), .second, .val (.int p2), .val (.int p3), .val (.int p4), .val (.int p5), .val (.ref pw), .val (.int z45), .val (.int z46), .val (.long z47), .second, .val (.int z48), .val (.int w50), .val (.int z52), .val (.ref ar), .val (.long (own_u32 ff135 z45 (z45 + z46))), .second, .unset, .unset, .val (.long z47), .second, .val (.long (own_pw ((z46 - (1 : Int32)) - z48).toNatClampNeg)), .second] [(.long (z47 / (own_pw ((z46 - (1 : Int32)) - z48).toNatClampNeg))), (.long z47)]))
              refine Run.go (fun _ k => Xg136.ldc2Long hx hown (mvT hZ (hw _ (List.mem_of_getElem? (i := 1) rfl))) (g := (mkF m 624 #[.val (.long q1), .second, .val (.int p2), .val (.int p3), .val (.int p4), .val (.int p5), .val (.ref pw), .val (.int z45), .val (.int z46), .val (.long z47), .second, .val (.int z48), .val (.int w50), .val (.int z52), .val (.ref ar), .val (.long (own_u32 ff135 z45 (z45 + z46))), .second, .unset, .unset, .val (.long z47), .second, .val (.long (own_pw ((z46 - (1 : Int32)) - z48).toNatClampNeg)), .second] [(.long (z47 / (own_pw ((z46 - (1 : Int32)) - z48).toNatClampNeg))), (.long z47)])) rfl (hb hby at_624) _ k) ?_
              show Run p e below s 2 28 (Q_rm0 Z q1 p2 p3 p4 p5 h0 n0) (T136.setTop (mkF m 627 #[.val (.long q1), .second, .val (.int p2), .val (.int p3), .val (.int p4), .val (.int p5), .val (.ref pw), .val (.int z45), .val (.int z46), .val (.long z47), .second, .val (.int z48), .val (.int w50), .val (.int z52), .val (.ref ar), .val (.long (own_u32 ff135 z45 (z45 + z46))), .second, .unset, .unset, .val (.long z47), .second, .val (.long (own_pw ((z46 - (1 : Int32)) - z48).toNatClampNeg)), .second] [(.long (10 : Int64)), (.long (z47 / (own_pw ((z46 - (1 : Int32)) - z48).toNatClampNeg))), (.long z47)]))
              refine Run.go (fun _ k => XS.lrem Xg136.here hx rfl (hb hby at_627) rfl (by decide) k) ?_
              show Run p e below s 2 28 (Q_rm0 Z q1 p2 p3 p4 p5 h0 n0) (T136.setTop (mkF m 628 #[.val (.long q1), .second, .val (.int p2), .val (.int p3), .val (.int p4), .val (.int p5), .val (.ref pw), .val (.int z45), .val (.int z46), .val (.long z47), .second, .val (.int z48), .val (.int w50), .val (.int z52), .val (.ref ar), .val (.long (own_u32 ff135 z45 (z45 + z46))), .second, .unset, .unset, .val (.long z47), .second, .val (.long (own_pw ((z46 - (1 : Int32)) - z48).toNatClampNeg)), .second] [(.long ((z47 / (own_pw ((z46 - (1 : Int32)) - z48).toNatClampNeg)) - ((z47 / (own_pw ((z46 - (1 : Int32)) - z48).toNatClampNeg)) / (10 : Int64)) * (10 : Int64))), (.long z47)]))
              refine Run.go (fun _ k => XS.lload Xg136.here hx rfl (hb hby at_628) rfl  k) ?_
              show Run p e below s 2 28 (Q_rm0 Z q1 p2 p3 p4 p5 h0 n0) (T136.setTop (mkF m 630 #[.val (.long q1), .second, .val (.int p2), .val (.int p3), .val (.int p4), .val (.int p5), .val (.ref pw), .val (.int z45), .val (.int z46), .val (.long z47), .second, .val (.int z48), .val (.int w50), .val (.int z52), .val (.ref ar), .val (.long (own_u32 ff135 z45 (z45 + z46))), .second, .unset, .unset, .val (.long z47), .second, .val (.long (own_pw ((z46 - (1 : Int32)) - z48).toNatClampNeg)), .second] [(.long (own_pw ((z46 - (1 : Int32)) - z48).toNatClampNeg)), (.long ((z47 / (own_pw ((z46 - (1 : Int32)) - z48).toNatClampNeg)) - ((z47 / (own_pw ((z46 - (1 : Int32)) - z48).toNatClampNeg)) / (10 : Int64)) * (10 : Int64))), (.long z47)]))
              refine Run.go (fun _ k => XS.lmul Xg136.here hx rfl (hb hby at_630) rfl k) ?_
              show Run p e below s 2 28 (Q_rm0 Z q1 p2 p3 p4 p5 h0 n0) (T136.setTop (mkF m 631 #[.val (.long q1), .second, .val (.int p2), .val (.int p3), .val (.int p4), .val (.int p5), .val (.ref pw), .val (.int z45), .val (.int z46), .val (.long z47), .second, .val (.int z48), .val (.int w50), .val (.int z52), .val (.ref ar), .val (.long (own_u32 ff135 z45 (z45 + z46))), .second, .unset, .unset, .val (.long z47), .second, .val (.long (own_pw ((z46 - (1 : Int32)) - z48).toNatClampNeg)), .second] [(.long (((z47 / (own_pw ((z46 - (1 : Int32)) - z48).toNatClampNeg)) - ((z47 / (own_pw ((z46 - (1 : Int32)) - z48).toNatClampNeg)) / (10 : Int64)) * (10 : Int64)) * (own_pw ((z46 - (1 : Int32)) - z48).toNatClampNeg))), (.long z47)]))
              refine Run.go (fun _ k => XS.lsub Xg136.here hx rfl (hb hby at_631) rfl k) ?_
              show Run p e below s 2 28 (Q_rm0 Z q1 p2 p3 p4 p5 h0 n0) (T136.setTop (mkF m 632 #[.val (.long q1), .second, .val (.int p2), .val (.int p3), .val (.int p4), .val (.int p5), .val (.ref pw), .val (.int z45), .val (.int z46), .val (.long z47), .second, .val (.int z48), .val (.int w50), .val (.int z52), .val (.ref ar), .val (.long (own_u32 ff135 z45 (z45 + z46))), .second, .unset, .unset, .val (.long z47), .second, .val (.long (own_pw ((z46 - (1 : Int32)) - z48).toNatClampNeg)), .second] [(.long (z47 - (((z47 / (own_pw ((z46 - (1 : Int32)) - z48).toNatClampNeg)) - ((z47 / (own_pw ((z46 - (1 : Int32)) - z48).toNatClampNeg)) / (10 : Int64)) * (10 : Int64)) * (own_pw ((z46 - (1 : Int32)) - z48).toNatClampNeg))))]))
              refine Run.go (fun _ k => XS.iload Xg136.here hx rfl (hb hby at_632) rfl  k) ?_
              show Run p e below s 2 28 (Q_rm0 Z q1 p2 p3 p4 p5 h0 n0) (T136.setTop (mkF m 634 #[.val (.long q1), .second, .val (.int p2), .val (.int p3), .val (.int p4), .val (.int p5), .val (.ref pw), .val (.int z45), .val (.int z46), .val (.long z47), .second, .val (.int z48), .val (.int w50), .val (.int z52), .val (.ref ar), .val (.long (own_u32 ff135 z45 (z45 + z46))), .second, .unset, .unset, .val (.long z47), .second, .val (.long (own_pw ((z46 - (1 : Int32)) - z48).toNatClampNeg)), .second] [(.int z52), (.long (z47 - (((z47 / (own_pw ((z46 - (1 : Int32)) - z48).toNatClampNeg)) - ((z47 / (own_pw ((z46 - (1 : Int32)) - z48).toNatClampNeg)) / (10 : Int64)) * (10 : Int64)) * (own_pw ((z46 - (1 : Int32)) - z48).toNatClampNeg))))]))
              refine Run.go (fun _ k => XS.bipush Xg136.here hx rfl (hb hby at_634) k) ?_
              show Run p e below s 2 28 (Q_rm0 Z q1 p2 p3 p4 p5 h0 n0) (T136.setTop (mkF m 636 #[.val (.long q1), .second, .val (.int p2), .val (.int p3), .val (.int p4), .val (.int p5), .val (.ref pw), .val (.int z45), .val (.int z46), .val (.long z47), .second, .val (.int z48), .val (.int w50), .val (.int z52), .val (.ref ar), .val (.long (own_u32 ff135 z45 (z45 + z46))), .second, .unset, .unset, .val (.long z47), .second, .val (.long (own_pw ((z46 - (1 : Int32)) - z48).toNatClampNeg)), .second] [(.int (48 : Int32)), (.int z52), (.long (z47 - (((z47 / (own_pw ((z46 - (1 : Int32)) - z48).toNatClampNeg)) - ((z47 / (own_pw ((z46 - (1 : Int32)) - z48).toNatClampNeg)) / (10 : Int64)) * (10 : Int64)) * (own_pw ((z46 - (1 : Int32)) - z48).toNatClampNeg))))]))
              refine Run.go (fun _ k => XS.isub Xg136.here hx rfl (hb hby at_636) rfl k) ?_
              show Run p e below s 2 28 (Q_rm0 Z q1 p2 p3 p4 p5 h0 n0) (T136.setTop (mkF m 637 #[.val (.long q1), .second, .val (.int p2), .val (.int p3), .val (.int p4), .val (.int p5), .val (.ref pw), .val (.int z45), .val (.int z46), .val (.long z47), .second, .val (.int z48), .val (.int w50), .val (.int z52), .val (.ref ar), .val (.long (own_u32 ff135 z45 (z45 + z46))), .second, .unset, .unset, .val (.long z47), .second, .val (.long (own_pw ((z46 - (1 : Int32)) - z48).toNatClampNeg)), .second] [(.int (z52 - (48 : Int32))), (.long (z47 - (((z47 / (own_pw ((z46 - (1 : Int32)) - z48).toNatClampNeg)) - ((z47 / (own_pw ((z46 - (1 : Int32)) - z48).toNatClampNeg)) / (10 : Int64)) * (10 : Int64)) * (own_pw ((z46 - (1 : Int32)) - z48).toNatClampNeg))))]))
              refine Run.go (fun _ k => XS.i2l Xg136.here hx rfl (hb hby at_637) rfl k) ?_
              show Run p e below s 2 28 (Q_rm0 Z q1 p2 p3 p4 p5 h0 n0) (T136.setTop (mkF m 638 #[.val (.long q1), .second, .val (.int p2), .val (.int p3), .val (.int p4), .val (.int p5), .val (.ref pw), .val (.int z45), .val (.int z46), .val (.long z47), .second, .val (.int z48), .val (.int w50), .val (.int z52), .val (.ref ar), .val (.long (own_u32 ff135 z45 (z45 + z46))), .second, .unset, .unset, .val (.long z47), .second, .val (.long (own_pw ((z46 - (1 : Int32)) - z48).toNatClampNeg)), .second] [(.long ((z52 - (48 : Int32)).toInt64)), (.long (z47 - (((z47 / (own_pw ((z46 - (1 : Int32)) - z48).toNatClampNeg)) - ((z47 / (own_pw ((z46 - (1 : Int32)) - z48).toNatClampNeg)) / (10 : Int64)) * (10 : Int64)) * (own_pw ((z46 - (1 : Int32)) - z48).toNatClampNeg))))]))
              refine Run.go (fun _ k => XS.lload Xg136.here hx rfl (hb hby at_638) rfl  k) ?_
              show Run p e below s 2 28 (Q_rm0 Z q1 p2 p3 p4 p5 h0 n0) (T136.setTop (mkF m 640 #[.val (.long q1), .second, .val (.int p2), .val (.int p3), .val (.int p4), .val (.int p5), .val (.ref pw), .val (.int z45), .val (.int z46), .val (.long z47), .second, .val (.int z48), .val (.int w50), .val (.int z52), .val (.ref ar), .val (.long (own_u32 ff135 z45 (z45 + z46))), .second, .unset, .unset, .val (.long z47), .second, .val (.long (own_pw ((z46 - (1 : Int32)) - z48).toNatClampNeg)), .second] [(.long (own_pw ((z46 - (1 : Int32)) - z48).toNatClampNeg)), (.long ((z52 - (48 : Int32)).toInt64)), (.long (z47 - (((z47 / (own_pw ((z46 - (1 : Int32)) - z48).toNatClampNeg)) - ((z47 / (own_pw ((z46 - (1 : Int32)) - z48).toNatClampNeg)) / (10 : Int64)) * (10 : Int64)) * (own_pw ((z46 - (1 : Int32)) - z48).toNatClampNeg))))]))
              refine Run.go (fun _ k => XS.lmul Xg136.here hx rfl (hb hby at_640) rfl k) ?_
              show Run p e below s 2 28 (Q_rm0 Z q1 p2 p3 p4 p5 h0 n0) (T136.setTop (mkF m 641 #[.val (.long q1), .second, .val (.int p2), .val (.int p3), .val (.int p4), .val (.int p5), .val (.ref pw), .val (.int z45), .val (.int z46), .val (.long z47), .second, .val (.int z48), .val (.int w50), .val (.int z52), .val (.ref ar), .val (.long (own_u32 ff135 z45 (z45 + z46))), .second, .unset, .unset, .val (.long z47), .second, .val (.long (own_pw ((z46 - (1 : Int32)) - z48).toNatClampNeg)), .second] [(.long (((z52 - (48 : Int32)).toInt64) * (own_pw ((z46 - (1 : Int32)) - z48).toNatClampNeg))), (.long (z47 - (((z47 / (own_pw ((z46 - (1 : Int32)) - z48).toNatClampNeg)) - ((z47 / (own_pw ((z46 - (1 : Int32)) - z48).toNatClampNeg)) / (10 : Int64)) * (10 : Int64)) * (own_pw ((z46 - (1 : Int32)) - z48).toNatClampNeg))))]))
              refine Run.go (fun _ k => XS.ladd Xg136.here hx rfl (hb hby at_641) rfl k) ?_
              show Run p e below s 2 28 (Q_rm0 Z q1 p2 p3 p4 p5 h0 n0) (T136.setTop (mkF m 642 #[.val (.long q1), .second, .val (.int p2), .val (.int p3), .val (.int p4), .val (.int p5), .val (.ref pw), .val (.int z45), .val (.int z46), .val (.long z47), .second, .val (.int z48), .val (.int w50), .val (.int z52), .val (.ref ar), .val (.long (own_u32 ff135 z45 (z45 + z46))), .second, .unset, .unset, .val (.long z47), .second, .val (.long (own_pw ((z46 - (1 : Int32)) - z48).toNatClampNeg)), .second] [(.long ((z47 - (((z47 / (own_pw ((z46 - (1 : Int32)) - z48).toNatClampNeg)) - ((z47 / (own_pw ((z46 - (1 : Int32)) - z48).toNatClampNeg)) / (10 : Int64)) * (10 : Int64)) * (own_pw ((z46 - (1 : Int32)) - z48).toNatClampNeg))) + (((z52 - (48 : Int32)).toInt64) * (own_pw ((z46 - (1 : Int32)) - z48).toNatClampNeg))))]))
              refine Run.go (fun _ k => XS.lstore Xg136.here hx rfl (hb hby at_642) rfl (l' := #[.val (.long q1), .second, .val (.int p2), .val (.int p3), .val (.int p4), .val (.int p5), .val (.ref pw), .val (.int z45), .val (.int z46), .val (.long z47), .second, .val (.int z48), .val (.int w50), .val (.int z52), .val (.ref ar), .val (.long (own_u32 ff135 z45 (z45 + z46))), .second, .unset, .unset, .val (.long ((z47 - (((z47 / (own_pw ((z46 - (1 : Int32)) - z48).toNatClampNeg)) - ((z47 / (own_pw ((z46 - (1 : Int32)) - z48).toNatClampNeg)) / (10 : Int64)) * (10 : Int64)) * (own_pw ((z46 - (1 : Int32)) - z48).toNatClampNeg))) + (((z52 - (48 : Int32)).toInt64) * (own_pw ((z46 - (1 : Int32)) - z48).toNatClampNeg)))), .second, .val (.long (own_pw ((z46 - (1 : Int32)) - z48).toNatClampNeg)), .second]) rfl k) ?_
              show Run p e below s 2 28 (Q_rm0 Z q1 p2 p3 p4 p5 h0 n0) (T136.setTop (mkF m 644 #[.val (.long q1), .second, .val (.int p2), .val (.int p3), .val (.int p4), .val (.int p5), .val (.ref pw), .val (.int z45), .val (.int z46), .val (.long z47), .second, .val (.int z48), .val (.int w50), .val (.int z52), .val (.ref ar), .val (.long (own_u32 ff135 z45 (z45 + z46))), .second, .unset, .unset, .val (.long ((z47 - (((z47 / (own_pw ((z46 - (1 : Int32)) - z48).toNatClampNeg)) - ((z47 / (own_pw ((z46 - (1 : Int32)) - z48).toNatClampNeg)) / (10 : Int64)) * (10 : Int64)) * (own_pw ((z46 - (1 : Int32)) - z48).toNatClampNeg))) + (((z52 - (48 : Int32)).toInt64) * (own_pw ((z46 - (1 : Int32)) - z48).toNatClampNeg)))), .second, .val (.long (own_pw ((z46 - (1 : Int32)) - z48).toNatClampNeg)), .second] []))
              refine Run.go (fun _ k => XS.lload Xg136.here hx rfl (hb hby at_644) rfl  k) ?_
              show Run p e below s 2 28 (Q_rm0 Z q1 p2 p3 p4 p5 h0 n0) (T136.setTop (mkF m 646 #[.val (.long q1), .second, .val (.int p2), .val (.int p3), .val (.int p4), .val (.int p5), .val (.ref pw), .val (.int z45), .val (.int z46), .val (.long z47), .second, .val (.int z48), .val (.int w50), .val (.int z52), .val (.ref ar), .val (.long (own_u32 ff135 z45 (z45 + z46))), .second, .unset, .unset, .val (.long ((z47 - (((z47 / (own_pw ((z46 - (1 : Int32)) - z48).toNatClampNeg)) - ((z47 / (own_pw ((z46 - (1 : Int32)) - z48).toNatClampNeg)) / (10 : Int64)) * (10 : Int64)) * (own_pw ((z46 - (1 : Int32)) - z48).toNatClampNeg))) + (((z52 - (48 : Int32)).toInt64) * (own_pw ((z46 - (1 : Int32)) - z48).toNatClampNeg)))), .second, .val (.long (own_pw ((z46 - (1 : Int32)) - z48).toNatClampNeg)), .second] [(.long ((z47 - (((z47 / (own_pw ((z46 - (1 : Int32)) - z48).toNatClampNeg)) - ((z47 / (own_pw ((z46 - (1 : Int32)) - z48).toNatClampNeg)) / (10 : Int64)) * (10 : Int64)) * (own_pw ((z46 - (1 : Int32)) - z48).toNatClampNeg))) + (((z52 - (48 : Int32)).toInt64) * (own_pw ((z46 - (1 : Int32)) - z48).toNatClampNeg))))]))
              refine Run.go (fun _ k => Xg136.ldc2Long hx hown (mvT hZ (hw _ (List.mem_of_getElem? (i := 27) rfl))) (g := (mkF m 646 #[.val (.long q1), .second, .val (.int p2), .val (.int p3), .val (.int p4), .val (.int p5), .val (.ref pw), .val (.int z45), .val (.int z46), .val (.long z47), .second, .val (.int z48), .val (.int w50), .val (.int z52), .val (.ref ar), .val (.long (own_u32 ff135 z45 (z45 + z46))), .second, .unset, .unset, .val (.long ((z47 - (((z47 / (own_pw ((z46 - (1 : Int32)) - z48).toNatClampNeg)) - ((z47 / (own_pw ((z46 - (1 : Int32)) - z48).toNatClampNeg)) / (10 : Int64)) * (10 : Int64)) * (own_pw ((z46 - (1 : Int32)) - z48).toNatClampNeg))) + (((z52 - (48 : Int32)).toInt64) * (own_pw ((z46 - (1 : Int32)) - z48).toNatClampNeg)))), .second, .val (.long (own_pw ((z46 - (1 : Int32)) - z48).toNatClampNeg)), .second] [(.long ((z47 - (((z47 / (own_pw ((z46 - (1 : Int32)) - z48).toNatClampNeg)) - ((z47 / (own_pw ((z46 - (1 : Int32)) - z48).toNatClampNeg)) / (10 : Int64)) * (10 : Int64)) * (own_pw ((z46 - (1 : Int32)) - z48).toNatClampNeg))) + (((z52 - (48 : Int32)).toInt64) * (own_pw ((z46 - (1 : Int32)) - z48).toNatClampNeg))))])) rfl (hb hby at_646) _ k) ?_
              show Run p e below s 2 28 (Q_rm0 Z q1 p2 p3 p4 p5 h0 n0) (T136.setTop (mkF m 649 #[.val (.long q1), .second, .val (.int p2), .val (.int p3), .val (.int p4), .val (.int p5), .val (.ref pw), .val (.int z45), .val (.int z46), .val (.long z47), .second, .val (.int z48), .val (.int w50), .val (.int z52), .val (.ref ar), .val (.long (own_u32 ff135 z45 (z45 + z46))), .second, .unset, .unset, .val (.long ((z47 - (((z47 / (own_pw ((z46 - (1 : Int32)) - z48).toNatClampNeg)) - ((z47 / (own_pw ((z46 - (1 : Int32)) - z48).toNatClampNeg)) / (10 : Int64)) * (10 : Int64)) * (own_pw ((z46 - (1 : Int32)) - z48).toNatClampNeg))) + (((z52 - (48 : Int32)).toInt64) * (own_pw ((z46 - (1 : Int32)) - z48).toNatClampNeg)))), .second, .val (.long (own_pw ((z46 - (1 : Int32)) - z48).toNatClampNeg)), .second] [(.long (4294967295 : Int64)), (.long ((z47 - (((z47 / (own_pw ((z46 - (1 : Int32)) - z48).toNatClampNeg)) - ((z47 / (own_pw ((z46 - (1 : Int32)) - z48).toNatClampNeg)) / (10 : Int64)) * (10 : Int64)) * (own_pw ((z46 - (1 : Int32)) - z48).toNatClampNeg))) + (((z52 - (48 : Int32)).toInt64) * (own_pw ((z46 - (1 : Int32)) - z48).toNatClampNeg))))]))
              refine Run.go (fun _ k => XS.lcmp Xg136.here hx rfl (hb hby at_649) rfl k) ?_
              show Run p e below s 2 28 (Q_rm0 Z q1 p2 p3 p4 p5 h0 n0) (T136.setTop (mkF m 650 #[.val (.long q1), .second, .val (.int p2), .val (.int p3), .val (.int p4), .val (.int p5), .val (.ref pw), .val (.int z45), .val (.int z46), .val (.long z47), .second, .val (.int z48), .val (.int w50), .val (.int z52), .val (.ref ar), .val (.long (own_u32 ff135 z45 (z45 + z46))), .second, .unset, .unset, .val (.long ((z47 - (((z47 / (own_pw ((z46 - (1 : Int32)) - z48).toNatClampNeg)) - ((z47 / (own_pw ((z46 - (1 : Int32)) - z48).toNatClampNeg)) / (10 : Int64)) * (10 : Int64)) * (own_pw ((z46 - (1 : Int32)) - z48).toNatClampNeg))) + (((z52 - (48 : Int32)).toInt64) * (own_pw ((z46 - (1 : Int32)) - z48).toNatClampNeg)))), .second, .val (.long (own_pw ((z46 - (1 : Int32)) - z48).toNatClampNeg)), .second] [(.int (lcmpW ((z47 - (((z47 / (own_pw ((z46 - (1 : Int32)) - z48).toNatClampNeg)) - ((z47 / (own_pw ((z46 - (1 : Int32)) - z48).toNatClampNeg)) / (10 : Int64)) * (10 : Int64)) * (own_pw ((z46 - (1 : Int32)) - z48).toNatClampNeg))) + (((z52 - (48 : Int32)).toInt64) * (own_pw ((z46 - (1 : Int32)) - z48).toNatClampNeg))) (4294967295 : Int64)))]))
              by_cases hc151 : ((4294967295 : Int64) < ((z47 - (((z47 / (own_pw ((z46 - (1 : Int32)) - z48).toNatClampNeg)) - ((z47 / (own_pw ((z46 - (1 : Int32)) - z48).toNatClampNeg)) / (10 : Int64)) * (10 : Int64)) * (own_pw ((z46 - (1 : Int32)) - z48).toNatClampNeg))) + (((z52 - (48 : Int32)).toInt64) * (own_pw ((z46 - (1 : Int32)) - z48).toNatClampNeg))))
              · refine Run.go (fun _ k => XS.ifYes Xg136.here hx rfl (pc0 := 650) (pc' := 658) rfl (hb hby at_650) rfl ((if0 _ _).trans (tlt ((lw_gt ((z47 - (((z47 / (own_pw ((z46 - (1 : Int32)) - z48).toNatClampNeg)) - ((z47 / (own_pw ((z46 - (1 : Int32)) - z48).toNatClampNeg)) / (10 : Int64)) * (10 : Int64)) * (own_pw ((z46 - (1 : Int32)) - z48).toNatClampNeg))) + (((z52 - (48 : Int32)).toInt64) * (own_pw ((z46 - (1 : Int32)) - z48).toNatClampNeg))) (4294967295 : Int64)).mpr hc151)).2.2.1) (by decide) (by decide) k) ?_
                show Run p e below s 2 28 (Q_rm0 Z q1 p2 p3 p4 p5 h0 n0) (T136.setTop (mkF m 658 #[.val (.long q1), .second, .val (.int p2), .val (.int p3), .val (.int p4), .val (.int p5), .val (.ref pw), .val (.int z45), .val (.int z46), .val (.long z47), .second, .val (.int z48), .val (.int w50), .val (.int z52), .val (.ref ar), .val (.long (own_u32 ff135 z45 (z45 + z46))), .second, .unset, .unset, .val (.long ((z47 - (((z47 / (own_pw ((z46 - (1 : Int32)) - z48).toNatClampNeg)) - ((z47 / (own_pw ((z46 - (1 : Int32)) - z48).toNatClampNeg)) / (10 : Int64)) * (10 : Int64)) * (own_pw ((z46 - (1 : Int32)) - z48).toNatClampNeg))) + (((z52 - (48 : Int32)).toInt64) * (own_pw ((z46 - (1 : Int32)) - z48).toNatClampNeg)))), .second, .val (.long (own_pw ((z46 - (1 : Int32)) - z48).toNatClampNeg)), .second] []))
                refine Run.go (fun _ k => Xg136.ldc2Long hx hown (mvT hZ (hw _ (List.mem_of_getElem? (i := 23) rfl))) (g := (mkF m 658 #[.val (.long q1), .second, .val (.int p2), .val (.int p3), .val (.int p4), .val (.int p5), .val (.ref pw), .val (.int z45), .val (.int z46), .val (.long z47), .second, .val (.int z48), .val (.int w50), .val (.int z52), .val (.ref ar), .val (.long (own_u32 ff135 z45 (z45 + z46))), .second, .unset, .unset, .val (.long ((z47 - (((z47 / (own_pw ((z46 - (1 : Int32)) - z48).toNatClampNeg)) - ((z47 / (own_pw ((z46 - (1 : Int32)) - z48).toNatClampNeg)) / (10 : Int64)) * (10 : Int64)) * (own_pw ((z46 - (1 : Int32)) - z48).toNatClampNeg))) + (((z52 - (48 : Int32)).toInt64) * (own_pw ((z46 - (1 : Int32)) - z48).toNatClampNeg)))), .second, .val (.long (own_pw ((z46 - (1 : Int32)) - z48).toNatClampNeg)), .second] [])) rfl (hb hby at_658) _ k) ?_
                show Run p e below s 2 28 (Q_rm0 Z q1 p2 p3 p4 p5 h0 n0) (T136.setTop (mkF m 661 #[.val (.long q1), .second, .val (.int p2), .val (.int p3), .val (.int p4), .val (.int p5), .val (.ref pw), .val (.int z45), .val (.int z46), .val (.long z47), .second, .val (.int z48), .val (.int w50), .val (.int z52), .val (.ref ar), .val (.long (own_u32 ff135 z45 (z45 + z46))), .second, .unset, .unset, .val (.long ((z47 - (((z47 / (own_pw ((z46 - (1 : Int32)) - z48).toNatClampNeg)) - ((z47 / (own_pw ((z46 - (1 : Int32)) - z48).toNatClampNeg)) / (10 : Int64)) * (10 : Int64)) * (own_pw ((z46 - (1 : Int32)) - z48).toNatClampNeg))) + (((z52 - (48 : Int32)).toInt64) * (own_pw ((z46 - (1 : Int32)) - z48).toNatClampNeg)))), .second, .val (.long (own_pw ((z46 - (1 : Int32)) - z48).toNatClampNeg)), .second] [(.long (-1 : Int64))]))
                refine Run.go (fun _ k => XS.lstore Xg136.here hx rfl (hb hby at_661) rfl (l' := #[.val (.long q1), .second, .val (.int p2), .val (.int p3), .val (.int p4), .val (.int p5), .val (.ref pw), .val (.int z45), .val (.int z46), .val (.long z47), .second, .val (.int z48), .val (.int w50), .val (.int z52), .val (.ref ar), .val (.long (own_u32 ff135 z45 (z45 + z46))), .second, .val (.long (-1 : Int64)), .second, .val (.long ((z47 - (((z47 / (own_pw ((z46 - (1 : Int32)) - z48).toNatClampNeg)) - ((z47 / (own_pw ((z46 - (1 : Int32)) - z48).toNatClampNeg)) / (10 : Int64)) * (10 : Int64)) * (own_pw ((z46 - (1 : Int32)) - z48).toNatClampNeg))) + (((z52 - (48 : Int32)).toInt64) * (own_pw ((z46 - (1 : Int32)) - z48).toNatClampNeg)))), .second, .val (.long (own_pw ((z46 - (1 : Int32)) - z48).toNatClampNeg)), .second]) rfl k) ?_
                show Run p e below s 2 28 (Q_rm0 Z q1 p2 p3 p4 p5 h0 n0) (T136.setTop (mkF m 663 #[.val (.long q1), .second, .val (.int p2), .val (.int p3), .val (.int p4), .val (.int p5), .val (.ref pw), .val (.int z45), .val (.int z46), .val (.long z47), .second, .val (.int z48), .val (.int w50), .val (.int z52), .val (.ref ar), .val (.long (own_u32 ff135 z45 (z45 + z46))), .second, .val (.long (-1 : Int64)), .second, .val (.long ((z47 - (((z47 / (own_pw ((z46 - (1 : Int32)) - z48).toNatClampNeg)) - ((z47 / (own_pw ((z46 - (1 : Int32)) - z48).toNatClampNeg)) / (10 : Int64)) * (10 : Int64)) * (own_pw ((z46 - (1 : Int32)) - z48).toNatClampNeg))) + (((z52 - (48 : Int32)).toInt64) * (own_pw ((z46 - (1 : Int32)) - z48).toNatClampNeg)))), .second, .val (.long (own_pw ((z46 - (1 : Int32)) - z48).toNatClampNeg)), .second] []))
                exact J138 _ (by rw [if_neg hc145, if_neg hc146, if_pos hc147, if_neg hc148, if_neg hc149, if_pos hc151]) _ _ _ _ _ _ Xg136 e136q Ng136
              · refine Run.go (fun _ k => XS.ifNo Xg136.here hx rfl (hb hby at_650) rfl ((if0 _ _).trans (flt (mt (lw_gt ((z47 - (((z47 / (own_pw ((z46 - (1 : Int32)) - z48).toNatClampNeg)) - ((z47 / (own_pw ((z46 - (1 : Int32)) - z48).toNatClampNeg)) / (10 : Int64)) * (10 : Int64)) * (own_pw ((z46 - (1 : Int32)) - z48).toNatClampNeg))) + (((z52 - (48 : Int32)).toInt64) * (own_pw ((z46 - (1 : Int32)) - z48).toNatClampNeg))) (4294967295 : Int64)).mp hc151)).2.2.1) k) ?_
                show Run p e below s 2 28 (Q_rm0 Z q1 p2 p3 p4 p5 h0 n0) (T136.setTop (mkF m 653 #[.val (.long q1), .second, .val (.int p2), .val (.int p3), .val (.int p4), .val (.int p5), .val (.ref pw), .val (.int z45), .val (.int z46), .val (.long z47), .second, .val (.int z48), .val (.int w50), .val (.int z52), .val (.ref ar), .val (.long (own_u32 ff135 z45 (z45 + z46))), .second, .unset, .unset, .val (.long ((z47 - (((z47 / (own_pw ((z46 - (1 : Int32)) - z48).toNatClampNeg)) - ((z47 / (own_pw ((z46 - (1 : Int32)) - z48).toNatClampNeg)) / (10 : Int64)) * (10 : Int64)) * (own_pw ((z46 - (1 : Int32)) - z48).toNatClampNeg))) + (((z52 - (48 : Int32)).toInt64) * (own_pw ((z46 - (1 : Int32)) - z48).toNatClampNeg)))), .second, .val (.long (own_pw ((z46 - (1 : Int32)) - z48).toNatClampNeg)), .second] []))
                refine Run.go (fun _ k => XS.lload Xg136.here hx rfl (hb hby at_653) rfl  k) ?_
                show Run p e below s 2 28 (Q_rm0 Z q1 p2 p3 p4 p5 h0 n0) (T136.setTop (mkF m 655 #[.val (.long q1), .second, .val (.int p2), .val (.int p3), .val (.int p4), .val (.int p5), .val (.ref pw), .val (.int z45), .val (.int z46), .val (.long z47), .second, .val (.int z48), .val (.int w50), .val (.int z52), .val (.ref ar), .val (.long (own_u32 ff135 z45 (z45 + z46))), .second, .unset, .unset, .val (.long ((z47 - (((z47 / (own_pw ((z46 - (1 : Int32)) - z48).toNatClampNeg)) - ((z47 / (own_pw ((z46 - (1 : Int32)) - z48).toNatClampNeg)) / (10 : Int64)) * (10 : Int64)) * (own_pw ((z46 - (1 : Int32)) - z48).toNatClampNeg))) + (((z52 - (48 : Int32)).toInt64) * (own_pw ((z46 - (1 : Int32)) - z48).toNatClampNeg)))), .second, .val (.long (own_pw ((z46 - (1 : Int32)) - z48).toNatClampNeg)), .second] [(.long ((z47 - (((z47 / (own_pw ((z46 - (1 : Int32)) - z48).toNatClampNeg)) - ((z47 / (own_pw ((z46 - (1 : Int32)) - z48).toNatClampNeg)) / (10 : Int64)) * (10 : Int64)) * (own_pw ((z46 - (1 : Int32)) - z48).toNatClampNeg))) + (((z52 - (48 : Int32)).toInt64) * (own_pw ((z46 - (1 : Int32)) - z48).toNatClampNeg))))]))
                refine Run.go (fun _ k => XS.goto Xg136.here hx rfl (pc0 := 655) (pc' := 661) rfl (hb hby at_655) (by decide) (by decide) k) ?_
                show Run p e below s 2 28 (Q_rm0 Z q1 p2 p3 p4 p5 h0 n0) (T136.setTop (mkF m 661 #[.val (.long q1), .second, .val (.int p2), .val (.int p3), .val (.int p4), .val (.int p5), .val (.ref pw), .val (.int z45), .val (.int z46), .val (.long z47), .second, .val (.int z48), .val (.int w50), .val (.int z52), .val (.ref ar), .val (.long (own_u32 ff135 z45 (z45 + z46))), .second, .unset, .unset, .val (.long ((z47 - (((z47 / (own_pw ((z46 - (1 : Int32)) - z48).toNatClampNeg)) - ((z47 / (own_pw ((z46 - (1 : Int32)) - z48).toNatClampNeg)) / (10 : Int64)) * (10 : Int64)) * (own_pw ((z46 - (1 : Int32)) - z48).toNatClampNeg))) + (((z52 - (48 : Int32)).toInt64) * (own_pw ((z46 - (1 : Int32)) - z48).toNatClampNeg)))), .second, .val (.long (own_pw ((z46 - (1 : Int32)) - z48).toNatClampNeg)), .second] [(.long ((z47 - (((z47 / (own_pw ((z46 - (1 : Int32)) - z48).toNatClampNeg)) - ((z47 / (own_pw ((z46 - (1 : Int32)) - z48).toNatClampNeg)) / (10 : Int64)) * (10 : Int64)) * (own_pw ((z46 - (1 : Int32)) - z48).toNatClampNeg))) + (((z52 - (48 : Int32)).toInt64) * (own_pw ((z46 - (1 : Int32)) - z48).toNatClampNeg))))]))
                refine Run.go (fun _ k => XS.lstore Xg136.here hx rfl (hb hby at_661) rfl (l' := #[.val (.long q1), .second, .val (.int p2), .val (.int p3), .val (.int p4), .val (.int p5), .val (.ref pw), .val (.int z45), .val (.int z46), .val (.long z47), .second, .val (.int z48), .val (.int w50), .val (.int z52), .val (.ref ar), .val (.long (own_u32 ff135 z45 (z45 + z46))), .second, .val (.long ((z47 - (((z47 / (own_pw ((z46 - (1 : Int32)) - z48).toNatClampNeg)) - ((z47 / (own_pw ((z46 - (1 : Int32)) - z48).toNatClampNeg)) / (10 : Int64)) * (10 : Int64)) * (own_pw ((z46 - (1 : Int32)) - z48).toNatClampNeg))) + (((z52 - (48 : Int32)).toInt64) * (own_pw ((z46 - (1 : Int32)) - z48).toNatClampNeg)))), .second, .val (.long ((z47 - (((z47 / (own_pw ((z46 - (1 : Int32)) - z48).toNatClampNeg)) - ((z47 / (own_pw ((z46 - (1 : Int32)) - z48).toNatClampNeg)) / (10 : Int64)) * (10 : Int64)) * (own_pw ((z46 - (1 : Int32)) - z48).toNatClampNeg))) + (((z52 - (48 : Int32)).toInt64) * (own_pw ((z46 - (1 : Int32)) - z48).toNatClampNeg)))), .second, .val (.long (own_pw ((z46 - (1 : Int32)) - z48).toNatClampNeg)), .second]) rfl k) ?_
                show Run p e below s 2 28 (Q_rm0 Z q1 p2 p3 p4 p5 h0 n0) (T136.setTop (mkF m 663 #[.val (.long q1), .second, .val (.int p2), .val (.int p3), .val (.int p4), .val (.int p5), .val (.ref pw), .val (.int z45), .val (.int z46), .val (.long z47), .second, .val (.int z48), .val (.int w50), .val (.int z52), .val (.ref ar), .val (.long (own_u32 ff135 z45 (z45 + z46))), .second, .val (.long ((z47 - (((z47 / (own_pw ((z46 - (1 : Int32)) - z48).toNatClampNeg)) - ((z47 / (own_pw ((z46 - (1 : Int32)) - z48).toNatClampNeg)) / (10 : Int64)) * (10 : Int64)) * (own_pw ((z46 - (1 : Int32)) - z48).toNatClampNeg))) + (((z52 - (48 : Int32)).toInt64) * (own_pw ((z46 - (1 : Int32)) - z48).toNatClampNeg)))), .second, .val (.long ((z47 - (((z47 / (own_pw ((z46 - (1 : Int32)) - z48).toNatClampNeg)) - ((z47 / (own_pw ((z46 - (1 : Int32)) - z48).toNatClampNeg)) / (10 : Int64)) * (10 : Int64)) * (own_pw ((z46 - (1 : Int32)) - z48).toNatClampNeg))) + (((z52 - (48 : Int32)).toInt64) * (own_pw ((z46 - (1 : Int32)) - z48).toNatClampNeg)))), .second, .val (.long (own_pw ((z46 - (1 : Int32)) - z48).toNatClampNeg)), .second] []))
                exact J138 _ (by rw [if_neg hc145, if_neg hc146, if_pos hc147, if_neg hc148, if_neg hc149, if_neg hc151]) _ _ _ _ _ _ Xg136 e136q Ng136
        · refine Run.go (fun _ k => XS.ifYes Xg136.here hx rfl (pc0 := 571) (pc' := 596) rfl (hb hby at_571) rfl ((if0 _ _).trans (teq (hw50.trans (if_neg hc147))).1) (by decide) (by decide) k) ?_
          show Run p e below s 2 28 (Q_rm0 Z q1 p2 p3 p4 p5 h0 n0) (T136.setTop (mkF m 596 #[.val (.long q1), .second, .val (.int p2), .val (.int p3), .val (.int p4), .val (.int p5), .val (.ref pw), .val (.int z45), .val (.int z46), .val (.long z47), .second, .val (.int z48), .val (.int w50), .val (.int z52), .val (.ref ar), .val (.long (own_u32 ff135 z45 (z45 + z46))), .second, .unset, .unset, .unset, .unset, .unset, .unset] []))
          refine Run.go (fun _ k => XS.lload Xg136.here hx rfl (hb hby at_596) rfl  k) ?_
          show Run p e below s 2 28 (Q_rm0 Z q1 p2 p3 p4 p5 h0 n0) (T136.setTop (mkF m 598 #[.val (.long q1), .second, .val (.int p2), .val (.int p3), .val (.int p4), .val (.int p5), .val (.ref pw), .val (.int z45), .val (.int z46), .val (.long z47), .second, .val (.int z48), .val (.int w50), .val (.int z52), .val (.ref ar), .val (.long (own_u32 ff135 z45 (z45 + z46))), .second, .unset, .unset, .unset, .unset, .unset, .unset] [(.long z47)]))
          refine Run.go (fun _ k => XS.lstore Xg136.here hx rfl (hb hby at_598) rfl (l' := #[.val (.long q1), .second, .val (.int p2), .val (.int p3), .val (.int p4), .val (.int p5), .val (.ref pw), .val (.int z45), .val (.int z46), .val (.long z47), .second, .val (.int z48), .val (.int w50), .val (.int z52), .val (.ref ar), .val (.long (own_u32 ff135 z45 (z45 + z46))), .second, .unset, .unset, .val (.long z47), .second, .unset, .unset]) rfl k) ?_
          show Run p e below s 2 28 (Q_rm0 Z q1 p2 p3 p4 p5 h0 n0) (T136.setTop (mkF m 600 #[.val (.long q1), .second, .val (.int p2), .val (.int p3), .val (.int p4), .val (.int p5), .val (.ref pw), .val (.int z45), .val (.int z46), .val (.long z47), .second, .val (.int z48), .val (.int w50), .val (.int z52), .val (.ref ar), .val (.long (own_u32 ff135 z45 (z45 + z46))), .second, .unset, .unset, .val (.long z47), .second, .unset, .unset] []))
          refine Run.go (fun _ k => XS.iload Xg136.here hx rfl (hb hby at_600) rfl  k) ?_
          show Run p e below s 2 28 (Q_rm0 Z q1 p2 p3 p4 p5 h0 n0) (T136.setTop (mkF m 602 #[.val (.long q1), .second, .val (.int p2), .val (.int p3), .val (.int p4), .val (.int p5), .val (.ref pw), .val (.int z45), .val (.int z46), .val (.long z47), .second, .val (.int z48), .val (.int w50), .val (.int z52), .val (.ref ar), .val (.long (own_u32 ff135 z45 (z45 + z46))), .second, .unset, .unset, .val (.long z47), .second, .unset, .unset] [(.int w50)]))
          refine Run.go (fun _ k => XS.ifYes Xg136.here hx rfl (pc0 := 602) (pc' := 644) rfl (hb hby at_602) rfl ((if0 _ _).trans (teq (hw50.trans (if_neg hc147))).1) (by decide) (by decide) k) ?_
          show Run p e below s 2 28 (Q_rm0 Z q1 p2 p3 p4 p5 h0 n0) (T136.setTop (mkF m 644 #[.val (.long q1), .second, .val (.int p2), .val (.int p3), .val (.int p4), .val (.int p5), .val (.ref pw), .val (.int z45), .val (.int z46), .val (.long z47), .second, .val (.int z48), .val (.int w50), .val (.int z52), .val (.ref ar), .val (.long (own_u32 ff135 z45 (z45 + z46))), .second, .unset, .unset, .val (.long z47), .second, .unset, .unset] []))
          refine Run.go (fun _ k => XS.lload Xg136.here hx rfl (hb hby at_644) rfl  k) ?_
          show Run p e below s 2 28 (Q_rm0 Z q1 p2 p3 p4 p5 h0 n0) (T136.setTop (mkF m 646 #[.val (.long q1), .second, .val (.int p2), .val (.int p3), .val (.int p4), .val (.int p5), .val (.ref pw), .val (.int z45), .val (.int z46), .val (.long z47), .second, .val (.int z48), .val (.int w50), .val (.int z52), .val (.ref ar), .val (.long (own_u32 ff135 z45 (z45 + z46))), .second, .unset, .unset, .val (.long z47), .second, .unset, .unset] [(.long z47)]))
          refine Run.go (fun _ k => Xg136.ldc2Long hx hown (mvT hZ (hw _ (List.mem_of_getElem? (i := 27) rfl))) (g := (mkF m 646 #[.val (.long q1), .second, .val (.int p2), .val (.int p3), .val (.int p4), .val (.int p5), .val (.ref pw), .val (.int z45), .val (.int z46), .val (.long z47), .second, .val (.int z48), .val (.int w50), .val (.int z52), .val (.ref ar), .val (.long (own_u32 ff135 z45 (z45 + z46))), .second, .unset, .unset, .val (.long z47), .second, .unset, .unset] [(.long z47)])) rfl (hb hby at_646) _ k) ?_
          show Run p e below s 2 28 (Q_rm0 Z q1 p2 p3 p4 p5 h0 n0) (T136.setTop (mkF m 649 #[.val (.long q1), .second, .val (.int p2), .val (.int p3), .val (.int p4), .val (.int p5), .val (.ref pw), .val (.int z45), .val (.int z46), .val (.long z47), .second, .val (.int z48), .val (.int w50), .val (.int z52), .val (.ref ar), .val (.long (own_u32 ff135 z45 (z45 + z46))), .second, .unset, .unset, .val (.long z47), .second, .unset, .unset] [(.long (4294967295 : Int64)), (.long z47)]))
          refine Run.go (fun _ k => XS.lcmp Xg136.here hx rfl (hb hby at_649) rfl k) ?_
          show Run p e below s 2 28 (Q_rm0 Z q1 p2 p3 p4 p5 h0 n0) (T136.setTop (mkF m 650 #[.val (.long q1), .second, .val (.int p2), .val (.int p3), .val (.int p4), .val (.int p5), .val (.ref pw), .val (.int z45), .val (.int z46), .val (.long z47), .second, .val (.int z48), .val (.int w50), .val (.int z52), .val (.ref ar), .val (.long (own_u32 ff135 z45 (z45 + z46))), .second, .unset, .unset, .val (.long z47), .second, .unset, .unset] [(.int (lcmpW z47 (4294967295 : Int64)))]))
          by_cases hc152 : ((4294967295 : Int64) < z47)
          · refine Run.go (fun _ k => XS.ifYes Xg136.here hx rfl (pc0 := 650) (pc' := 658) rfl (hb hby at_650) rfl ((if0 _ _).trans (tlt ((lw_gt z47 (4294967295 : Int64)).mpr hc152)).2.2.1) (by decide) (by decide) k) ?_
            show Run p e below s 2 28 (Q_rm0 Z q1 p2 p3 p4 p5 h0 n0) (T136.setTop (mkF m 658 #[.val (.long q1), .second, .val (.int p2), .val (.int p3), .val (.int p4), .val (.int p5), .val (.ref pw), .val (.int z45), .val (.int z46), .val (.long z47), .second, .val (.int z48), .val (.int w50), .val (.int z52), .val (.ref ar), .val (.long (own_u32 ff135 z45 (z45 + z46))), .second, .unset, .unset, .val (.long z47), .second, .unset, .unset] []))
            refine Run.go (fun _ k => Xg136.ldc2Long hx hown (mvT hZ (hw _ (List.mem_of_getElem? (i := 23) rfl))) (g := (mkF m 658 #[.val (.long q1), .second, .val (.int p2), .val (.int p3), .val (.int p4), .val (.int p5), .val (.ref pw), .val (.int z45), .val (.int z46), .val (.long z47), .second, .val (.int z48), .val (.int w50), .val (.int z52), .val (.ref ar), .val (.long (own_u32 ff135 z45 (z45 + z46))), .second, .unset, .unset, .val (.long z47), .second, .unset, .unset] [])) rfl (hb hby at_658) _ k) ?_
            show Run p e below s 2 28 (Q_rm0 Z q1 p2 p3 p4 p5 h0 n0) (T136.setTop (mkF m 661 #[.val (.long q1), .second, .val (.int p2), .val (.int p3), .val (.int p4), .val (.int p5), .val (.ref pw), .val (.int z45), .val (.int z46), .val (.long z47), .second, .val (.int z48), .val (.int w50), .val (.int z52), .val (.ref ar), .val (.long (own_u32 ff135 z45 (z45 + z46))), .second, .unset, .unset, .val (.long z47), .second, .unset, .unset] [(.long (-1 : Int64))]))
            refine Run.go (fun _ k => XS.lstore Xg136.here hx rfl (hb hby at_661) rfl (l' := #[.val (.long q1), .second, .val (.int p2), .val (.int p3), .val (.int p4), .val (.int p5), .val (.ref pw), .val (.int z45), .val (.int z46), .val (.long z47), .second, .val (.int z48), .val (.int w50), .val (.int z52), .val (.ref ar), .val (.long (own_u32 ff135 z45 (z45 + z46))), .second, .val (.long (-1 : Int64)), .second, .val (.long z47), .second, .unset, .unset]) rfl k) ?_
            show Run p e below s 2 28 (Q_rm0 Z q1 p2 p3 p4 p5 h0 n0) (T136.setTop (mkF m 663 #[.val (.long q1), .second, .val (.int p2), .val (.int p3), .val (.int p4), .val (.int p5), .val (.ref pw), .val (.int z45), .val (.int z46), .val (.long z47), .second, .val (.int z48), .val (.int w50), .val (.int z52), .val (.ref ar), .val (.long (own_u32 ff135 z45 (z45 + z46))), .second, .val (.long (-1 : Int64)), .second, .val (.long z47), .second, .unset, .unset] []))
            exact J138 _ (by rw [if_neg hc145, if_neg hc146, if_neg hc147, if_pos hc152]) _ _ _ _ _ _ Xg136 e136q Ng136
          · refine Run.go (fun _ k => XS.ifNo Xg136.here hx rfl (hb hby at_650) rfl ((if0 _ _).trans (flt (mt (lw_gt z47 (4294967295 : Int64)).mp hc152)).2.2.1) k) ?_
            show Run p e below s 2 28 (Q_rm0 Z q1 p2 p3 p4 p5 h0 n0) (T136.setTop (mkF m 653 #[.val (.long q1), .second, .val (.int p2), .val (.int p3), .val (.int p4), .val (.int p5), .val (.ref pw), .val (.int z45), .val (.int z46), .val (.long z47), .second, .val (.int z48), .val (.int w50), .val (.int z52), .val (.ref ar), .val (.long (own_u32 ff135 z45 (z45 + z46))), .second, .unset, .unset, .val (.long z47), .second, .unset, .unset] []))
            refine Run.go (fun _ k => XS.lload Xg136.here hx rfl (hb hby at_653) rfl  k) ?_
            show Run p e below s 2 28 (Q_rm0 Z q1 p2 p3 p4 p5 h0 n0) (T136.setTop (mkF m 655 #[.val (.long q1), .second, .val (.int p2), .val (.int p3), .val (.int p4), .val (.int p5), .val (.ref pw), .val (.int z45), .val (.int z46), .val (.long z47), .second, .val (.int z48), .val (.int w50), .val (.int z52), .val (.ref ar), .val (.long (own_u32 ff135 z45 (z45 + z46))), .second, .unset, .unset, .val (.long z47), .second, .unset, .unset] [(.long z47)]))
            refine Run.go (fun _ k => XS.goto Xg136.here hx rfl (pc0 := 655) (pc' := 661) rfl (hb hby at_655) (by decide) (by decide) k) ?_
            show Run p e below s 2 28 (Q_rm0 Z q1 p2 p3 p4 p5 h0 n0) (T136.setTop (mkF m 661 #[.val (.long q1), .second, .val (.int p2), .val (.int p3), .val (.int p4), .val (.int p5), .val (.ref pw), .val (.int z45), .val (.int z46), .val (.long z47), .second, .val (.int z48), .val (.int w50), .val (.int z52), .val (.ref ar), .val (.long (own_u32 ff135 z45 (z45 + z46))), .second, .unset, .unset, .val (.long z47), .second, .unset, .unset] [(.long z47)]))
            refine Run.go (fun _ k => XS.lstore Xg136.here hx rfl (hb hby at_661) rfl (l' := #[.val (.long q1), .second, .val (.int p2), .val (.int p3), .val (.int p4), .val (.int p5), .val (.ref pw), .val (.int z45), .val (.int z46), .val (.long z47), .second, .val (.int z48), .val (.int w50), .val (.int z52), .val (.ref ar), .val (.long (own_u32 ff135 z45 (z45 + z46))), .second, .val (.long z47), .second, .val (.long z47), .second, .unset, .unset]) rfl k) ?_
            show Run p e below s 2 28 (Q_rm0 Z q1 p2 p3 p4 p5 h0 n0) (T136.setTop (mkF m 663 #[.val (.long q1), .second, .val (.int p2), .val (.int p3), .val (.int p4), .val (.int p5), .val (.ref pw), .val (.int z45), .val (.int z46), .val (.long z47), .second, .val (.int z48), .val (.int w50), .val (.int z52), .val (.ref ar), .val (.long (own_u32 ff135 z45 (z45 + z46))), .second, .val (.long z47), .second, .val (.long z47), .second, .unset, .unset] []))
            exact J138 _ (by rw [if_neg hc145, if_neg hc146, if_neg hc147, if_neg hc152]) _ _ _ _ _ _ Xg136 e136q Ng136
  by_cases hc153 : ((p3 &&& (1 : Int32)) = (0 : Int32))
  · refine Run.go (fun _ k => XS.ifYes Xg42.here hx rfl (pc0 := 119) (pc' := 133) rfl (hb hby at_119) rfl ((if0 _ _).trans (teq hc153).1) (by decide) (by decide) k) ?_
    show Run p e below s 2 28 (Q_rm0 Z q1 p2 p3 p4 p5 h0 n0) (T42.setTop (mkF m 133 #[.val (.long q1), .second, .val (.int p2), .val (.int p3), .val (.int p4), .val (.int p5), .val (.ref pw), .val (.int z45), .val (.int z46), .val (.long z47), .second, .val (.int z48), .unset, .unset, .unset, .unset, .unset, .unset, .unset, .unset, .unset, .unset, .unset] []))
    refine Run.go (fun _ k => XS.iconst Xg42.here hx rfl (hb hby at_133) k) ?_
    show Run p e below s 2 28 (Q_rm0 Z q1 p2 p3 p4 p5 h0 n0) (T42.setTop (mkF m 134 #[.val (.long q1), .second, .val (.int p2), .val (.int p3), .val (.int p4), .val (.int p5), .val (.ref pw), .val (.int z45), .val (.int z46), .val (.long z47), .second, .val (.int z48), .unset, .unset, .unset, .unset, .unset, .unset, .unset, .unset, .unset, .unset, .unset] [(.int (0 : Int32))]))
    exact J49 _ (if_neg (fun q => (fun q => q hc153) q.1)).symm _ _ Xg42 e42 Ng42
  · refine Run.go (fun _ k => XS.ifNo Xg42.here hx rfl (hb hby at_119) rfl ((if0 _ _).trans (feq hc153).1) k) ?_
    show Run p e below s 2 28 (Q_rm0 Z q1 p2 p3 p4 p5 h0 n0) (T42.setTop (mkF m 122 #[.val (.long q1), .second, .val (.int p2), .val (.int p3), .val (.int p4), .val (.int p5), .val (.ref pw), .val (.int z45), .val (.int z46), .val (.long z47), .second, .val (.int z48), .unset, .unset, .unset, .unset, .unset, .unset, .unset, .unset, .unset, .unset, .unset] []))
    refine Run.go (fun _ k => XS.iload Xg42.here hx rfl (hb hby at_122) rfl  k) ?_
    show Run p e below s 2 28 (Q_rm0 Z q1 p2 p3 p4 p5 h0 n0) (T42.setTop (mkF m 124 #[.val (.long q1), .second, .val (.int p2), .val (.int p3), .val (.int p4), .val (.int p5), .val (.ref pw), .val (.int z45), .val (.int z46), .val (.long z47), .second, .val (.int z48), .unset, .unset, .unset, .unset, .unset, .unset, .unset, .unset, .unset, .unset, .unset] [(.int z48)]))
    refine Run.go (fun _ k => XS.iload Xg42.here hx rfl (hb hby at_124) rfl  k) ?_
    show Run p e below s 2 28 (Q_rm0 Z q1 p2 p3 p4 p5 h0 n0) (T42.setTop (mkF m 126 #[.val (.long q1), .second, .val (.int p2), .val (.int p3), .val (.int p4), .val (.int p5), .val (.ref pw), .val (.int z45), .val (.int z46), .val (.long z47), .second, .val (.int z48), .unset, .unset, .unset, .unset, .unset, .unset, .unset, .unset, .unset, .unset, .unset] [(.int z46), (.int z48)]))
    by_cases hc154 : (z48 < z46)
    · refine Run.go (fun _ k => XS.icmpNo Xg42.here hx rfl (hb hby at_126) rfl (tlt hc154).2.1 k) ?_
      show Run p e below s 2 28 (Q_rm0 Z q1 p2 p3 p4 p5 h0 n0) (T42.setTop (mkF m 129 #[.val (.long q1), .second, .val (.int p2), .val (.int p3), .val (.int p4), .val (.int p5), .val (.ref pw), .val (.int z45), .val (.int z46), .val (.long z47), .second, .val (.int z48), .unset, .unset, .unset, .unset, .unset, .unset, .unset, .unset, .unset, .unset, .unset] []))
      refine Run.go (fun _ k => XS.iconst Xg42.here hx rfl (hb hby at_129) k) ?_
      show Run p e below s 2 28 (Q_rm0 Z q1 p2 p3 p4 p5 h0 n0) (T42.setTop (mkF m 130 #[.val (.long q1), .second, .val (.int p2), .val (.int p3), .val (.int p4), .val (.int p5), .val (.ref pw), .val (.int z45), .val (.int z46), .val (.long z47), .second, .val (.int z48), .unset, .unset, .unset, .unset, .unset, .unset, .unset, .unset, .unset, .unset, .unset] [(.int (1 : Int32))]))
      refine Run.go (fun _ k => XS.goto Xg42.here hx rfl (pc0 := 130) (pc' := 134) rfl (hb hby at_130) (by decide) (by decide) k) ?_
      show Run p e below s 2 28 (Q_rm0 Z q1 p2 p3 p4 p5 h0 n0) (T42.setTop (mkF m 134 #[.val (.long q1), .second, .val (.int p2), .val (.int p3), .val (.int p4), .val (.int p5), .val (.ref pw), .val (.int z45), .val (.int z46), .val (.long z47), .second, .val (.int z48), .unset, .unset, .unset, .unset, .unset, .unset, .unset, .unset, .unset, .unset, .unset] [(.int (1 : Int32))]))
      exact J49 _ (if_pos ⟨hc153, hc154⟩).symm _ _ Xg42 e42 Ng42
    · refine Run.go (fun _ k => XS.icmpYes Xg42.here hx rfl (pc0 := 126) (pc' := 133) rfl (hb hby at_126) rfl (flt hc154).2.1 (by decide) (by decide) k) ?_
      show Run p e below s 2 28 (Q_rm0 Z q1 p2 p3 p4 p5 h0 n0) (T42.setTop (mkF m 133 #[.val (.long q1), .second, .val (.int p2), .val (.int p3), .val (.int p4), .val (.int p5), .val (.ref pw), .val (.int z45), .val (.int z46), .val (.long z47), .second, .val (.int z48), .unset, .unset, .unset, .unset, .unset, .unset, .unset, .unset, .unset, .unset, .unset] []))
      refine Run.go (fun _ k => XS.iconst Xg42.here hx rfl (hb hby at_133) k) ?_
      show Run p e below s 2 28 (Q_rm0 Z q1 p2 p3 p4 p5 h0 n0) (T42.setTop (mkF m 134 #[.val (.long q1), .second, .val (.int p2), .val (.int p3), .val (.int p4), .val (.int p5), .val (.ref pw), .val (.int z45), .val (.int z46), .val (.long z47), .second, .val (.int z48), .unset, .unset, .unset, .unset, .unset, .unset, .unset, .unset, .unset, .unset, .unset] [(.int (0 : Int32))]))
      exact J49 _ (if_neg (fun q => hc154 q.2)).symm _ _ Xg42 e42 Ng42
set_option maxRecDepth 65536 in
set_option maxHeartbeats 40000000 in
theorem comes_1 {Post : Tables → Env → Array Value → State → Outcome → State → Prop} (hpost : ∀ tb e args s v u, (limb_1_1.after args s (.returned v) u = true ∧ limb_1_2.after args s (.returned v) u = true ∧ True) → FrameEnd s (.returned v) u (Jvm.fieldLocs frame_1_writes args s ++ Jvm.arrayLocs frame_1_arrays args s ++ Jvm.staticLocs frame_1_statics s) 16 128 → Post tb e args s (.returned v) u) :
    ArmFor flags0 classFile x code maxLocals ret World_1 tables_1 room_1 Calls_1 rest_1 Pre_1 Post := by
  intro l hfl _ _ p e ha hc hk s m args below hf hA hF happ hP
  obtain ⟨hcalls, hrest, hpre⟩ := hP
  obtain ⟨-, -, -, hnamed, -, -, -, hat⟩ := (Spec.applies_iff hf).mp happ
  obtain ⟨hg, hn⟩ := and_e (Cond.before_iff.mp (show (Jvm.Cond.and given_1 narrow_1).before args s = true from hpre))
  obtain ⟨g1, g2⟩ := and_e hg
  obtain ⟨g3, g4⟩ := and_e g2
  obtain ⟨g5, g6⟩ := and_e g4
  obtain ⟨g7, g8⟩ := and_e g6
  obtain ⟨g9, g10⟩ := and_e g8
  obtain ⟨w0, w1, w2, w3, w4, rfl⟩ : ∃ w0 w1 w2 w3 w4 : Value, args = #[w0, w1, w2, w3, w4] := by
    have hs : args.size = 5 := by simpa [Cond.value, given_1] using g1
    obtain ⟨L⟩ := args
    match L, hs with
    | [w0, w1, w2, w3, w4], _ => exact ⟨w0, w1, w2, w3, w4, rfl⟩
  have hw := fun d (hd : d ∈ tables_1) => atoms_spec (ws := Jvm.Cond.code x code maxLocals ret :: tables_1) hat d (List.mem_cons_of_mem _ hd)
  have hfit : Fit s := fun {y c} hc i hi => by
    obtain ⟨ha, rfl⟩ := Array.getElem?_eq_some_iff.mp hc
    have q := List.all_eq_true.mp ((Array.all_eq_true_iff_forall_mem.mp hF) _ (Array.getElem_mem ha)) i (List.mem_range.mpr hi)
    simpa [Array.getElem?_eq_getElem hi] using q
  obtain ⟨i0, ei0⟩ := isL_v g3
  obtain rfl : w0 = (.long i0) := Option.some.inj ei0
  obtain ⟨i1, ei1⟩ := is_v g5
  obtain rfl : w1 = (.int i1) := Option.some.inj ei1
  obtain ⟨i2, ei2⟩ := is_v g7
  obtain rfl : w2 = (.int i2) := Option.some.inj ei2
  obtain ⟨i3, ei3⟩ := is_v g9
  obtain rfl : w3 = (.int i3) := Option.some.inj ei3
  obtain ⟨i4, ei4⟩ := is_v g10
  obtain rfl : w4 = (.int i4) := Option.some.inj ei4
  obtain ⟨n, o, h1, h2, h3, _, L, rfl, ⟨rfl, N⟩, hq⟩ := rm0 l s _ hw tables_1 i0 i1 i2 i3 i4 s.heap s.heap.size (Nat.le_refl _)  p e ha hc hk s m _ below hf ((Spec.applies_iff_loose hf).mp happ).1 ⟨rfl, State.Warmed39.refl s, rfl⟩ trivial
  refine ⟨n, _, h1, h2, h3, hpost _ _ _ _ _ _ ⟨Cond.after_iff.mpr rfl, Cond.after_iff.mpr (eq_i res_at (Term.int_eval (1)) rfl), trivial⟩ ⟨hq.1, hq.2.1, (hq.2.2.sift fun y hy => Or.inr (N y hy)).mono (by decide) (by decide)⟩⟩
theorem main_1_1 : Claimed_1_1 := comes_1 fun _ _ _ _ _ _ h hF => ⟨h.1, hF⟩
theorem main_1_2 : Claimed_1_2 := comes_1 fun _ _ _ _ _ _ h hF => ⟨h.2.1, hF⟩
end Jvm.Pilot.@@N@@
namespace Jvm.Pilot.@@N@@
open Jvm Jvm.ClassFile Sem Op Lib Jvm.Free Jvm.Stand Jvm.Pilot.@@N@@.Jvm.D
/-! MADE BY PROGRAM (witnessworld.py) out of the Statement's table words and the real class files: 11 classes; the members and pool entries that the words name. The judged class is class 1, her method 1. -/
namespace start1
open Jvm.ClassFile
def u (s : String) : CpInfo := .utf8 (stringToUtf16 s)
/-- a pool by its gaps: so many unusable entries, then the entry; so many at the end -/
def gap : Nat → List CpInfo → List CpInfo
  | 0, r => r
  | n + 1, r => .unusable :: gap n r
def poolList (es : List (Nat × CpInfo)) (last : Nat) : List CpInfo := es.foldr (fun e r => gap e.1 (e.2 :: r)) (gap last [])
def pool (es : List (Nat × CpInfo)) (last : Nat) : Array CpInfo := ⟨poolList es last⟩
def fileOf (pool : Array CpInfo) (this : Nat) (attrs : Array Attribute := #[]) (ms : Array MethodInfo := #[]) (fl : Nat := 33) (sup : Nat := 0) (ifs : Array Nat := #[]) (fds : Array FieldInfo := #[]) : ClassFile where
  minorVersion := 0
  majorVersion := 65
  constantPool := pool
  accessFlags := fl
  thisClass := this
  superClass := sup
  interfaces := ifs
  fields := fds
  methods := ms
  attributes := attrs
def plain (name : String) (sup : Option ClassId) : Class where
  name := name
  kind := .ordinary
  loader := none
  accessFlags := 33
  super := sup
  interfaces := #[]
  cf := none
  fields := #[]
  methods := #[]
  instanceTypes := #[]
  staticTypes := #[]
  resolved := #[]
  callSites := []
  init := .initialized
  statics := none
  mirror := none

def pool0 : Array CpInfo := pool [(5, u "<init>"), (0, u "()V"), (1, .class_ 10), (1, u "java/lang/Object")] 113

def k0m0 : Method := { name := "<init>", desc := "()V", sig := { parameters := [], returnType := none }, accessFlags := 1, code := none }
/-- java/lang/Object -/
def k0 : Class := { plain "java/lang/Object" none with
  accessFlags := 33
  interfaces := #[]
  cf := some (fileOf pool0 8 #[] #[{ accessFlags := 1, nameIndex := 5, descriptorIndex := 6, attributes := #[] }] 33 0 #[] #[])
  fields := #[]
  methods := #[k0m0]
  instanceTypes := #[]
  staticTypes := #[]
  resolved := Array.replicate 124 none
  statics := none }

def pool1 : Array CpInfo := pool [(2, .class_ 4), (1, u "java/lang/Object"), (0, u "<init>"), (0, u "()V"), (0, .long 10), (1, .long 100), (1, .long 1000), (1, .long 10000), (1, .long 100000), (1, .long 1000000), (1, .long 10000000), (1, .long 100000000), (1, .long 1000000000), (1, .long 10000000000), (1, .long 100000000000), (3, .long 9223372036854775807), (1, .methodref 34 35), (0, .class_ 36), (0, .nameAndType 37 38), (0, u "com/example/comera/comera/sip/SyntaxUnsigned32PinLaw"), (0, u "cell"), (0, u "(IIIJ[JZIBI)B"), (0, .methodref 40 41), (0, .class_ 42), (0, .nameAndType 43 44), (0, u "com/example/comera/comera/sip/Syntax"), (0, u "unsigned32"), (0, u "([BII)J"), (0, .long 18446744073709551615), (1, .long 4294967295), (1, .long 48), (3, u "law"), (0, u "(JIIII)Z")] 7

def k1m0 : Method := { name := "<init>", desc := "()V", sig := { parameters := [], returnType := none }, accessFlags := 1, code := none }
def k1c1 : Code := { maxStack := 13, maxLocals := 23, code := code, exceptionTable := #[], attributes := #[] }
def k1m1 : Method := { name := "law", desc := "(JIIII)Z", sig := { parameters := [.long, .int, .int, .int, .int], returnType := some .boolean }, accessFlags := 9, code := some k1c1 }
def k1c2 : Code := { maxStack := 7, maxLocals := 11, code := method_3_code, exceptionTable := #[], attributes := #[] }
def k1m2 : Method := { name := "cell", desc := "(IIIJ[JZIBI)B", sig := { parameters := [.int, .int, .int, .long, (.array .long), .boolean, .int, .byte, .int], returnType := some .byte }, accessFlags := 10, code := some k1c2 }
/-- com/example/comera/comera/sip/SyntaxUnsigned32PinLaw -/
def k1 : Class := { plain "com/example/comera/comera/sip/SyntaxUnsigned32PinLaw" (some 0) with
  accessFlags := 49
  interfaces := #[]
  cf := some (fileOf pool1 34 #[] #[{ accessFlags := 1, nameIndex := 5, descriptorIndex := 6, attributes := #[] }, { accessFlags := 9, nameIndex := 53, descriptorIndex := 54, attributes := #[] }, { accessFlags := 10, nameIndex := 37, descriptorIndex := 38, attributes := #[] }] 49 2 #[] #[])
  fields := #[]
  methods := #[k1m0, k1m1, k1m2]
  instanceTypes := #[]
  staticTypes := #[]
  resolved := Array.replicate 62 none
  statics := none }

def pool2 : Array CpInfo := pool [(2, .class_ 4), (1, u "java/lang/Object"), (0, u "<init>"), (0, u "()V"), (7, .class_ 16), (1, u "com/example/comera/comera/sip/Syntax"), (0, u "CLASSES"), (0, u "[S"), (32, .long 18446744073709551615), (1, .long 10), (1, .long 4294967295), (29, u "MAX_UNSIGNED32"), (0, u "J"), (1, u "ALPHANUMERIC"), (0, u "I"), (1, u "TOKEN"), (1, u "HEX_DIGIT"), (1, u "SDP_TOKEN"), (1, u "URI_UNRESERVED"), (1, u "URI_USER"), (1, u "URI_PASSWORD"), (1, u "URI_PARAMETER"), (1, u "URI_HEADER"), (1, u "URIC"), (1, u "HOSTNAME"), (1, u "SCHEME"), (18, u "unsigned32"), (0, u "([BII)J")] 6

def k2m0 : Method := { name := "<init>", desc := "()V", sig := { parameters := [], returnType := none }, accessFlags := 2, code := none }
def k2c1 : Code := { maxStack := 4, maxLocals := 6, code := prog_96_method_18_code, exceptionTable := #[], attributes := #[] }
def k2m1 : Method := { name := "unsigned32", desc := "([BII)J", sig := { parameters := [(.array .byte), .int, .int], returnType := some .long }, accessFlags := 8, code := some k2c1 }
/-- com/example/comera/comera/sip/Syntax -/
def k2 : Class := { plain "com/example/comera/comera/sip/Syntax" (some 0) with
  accessFlags := 32
  interfaces := #[]
  cf := some (fileOf pool2 14 #[] #[{ accessFlags := 2, nameIndex := 5, descriptorIndex := 6, attributes := #[] }, { accessFlags := 8, nameIndex := 130, descriptorIndex := 131, attributes := #[] }] 32 2 #[] #[{ accessFlags := 24, nameIndex := 85, descriptorIndex := 86, attributes := #[] }, { accessFlags := 24, nameIndex := 88, descriptorIndex := 89, attributes := #[] }, { accessFlags := 24, nameIndex := 91, descriptorIndex := 89, attributes := #[] }, { accessFlags := 24, nameIndex := 93, descriptorIndex := 89, attributes := #[] }, { accessFlags := 24, nameIndex := 95, descriptorIndex := 89, attributes := #[] }, { accessFlags := 24, nameIndex := 97, descriptorIndex := 89, attributes := #[] }, { accessFlags := 24, nameIndex := 99, descriptorIndex := 89, attributes := #[] }, { accessFlags := 24, nameIndex := 101, descriptorIndex := 89, attributes := #[] }, { accessFlags := 24, nameIndex := 103, descriptorIndex := 89, attributes := #[] }, { accessFlags := 24, nameIndex := 105, descriptorIndex := 89, attributes := #[] }, { accessFlags := 24, nameIndex := 107, descriptorIndex := 89, attributes := #[] }, { accessFlags := 24, nameIndex := 109, descriptorIndex := 89, attributes := #[] }, { accessFlags := 24, nameIndex := 111, descriptorIndex := 89, attributes := #[] }, { accessFlags := 26, nameIndex := 17, descriptorIndex := 18, attributes := #[] }])
  fields := #[{ name := "MAX_UNSIGNED32", type := .long, accessFlags := 24, slot := 0, constantValue := 0 }, { name := "ALPHANUMERIC", type := .int, accessFlags := 24, slot := 1, constantValue := 0 }, { name := "TOKEN", type := .int, accessFlags := 24, slot := 2, constantValue := 0 }, { name := "HEX_DIGIT", type := .int, accessFlags := 24, slot := 3, constantValue := 0 }, { name := "SDP_TOKEN", type := .int, accessFlags := 24, slot := 4, constantValue := 0 }, { name := "URI_UNRESERVED", type := .int, accessFlags := 24, slot := 5, constantValue := 0 }, { name := "URI_USER", type := .int, accessFlags := 24, slot := 6, constantValue := 0 }, { name := "URI_PASSWORD", type := .int, accessFlags := 24, slot := 7, constantValue := 0 }, { name := "URI_PARAMETER", type := .int, accessFlags := 24, slot := 8, constantValue := 0 }, { name := "URI_HEADER", type := .int, accessFlags := 24, slot := 9, constantValue := 0 }, { name := "URIC", type := .int, accessFlags := 24, slot := 10, constantValue := 0 }, { name := "HOSTNAME", type := .int, accessFlags := 24, slot := 11, constantValue := 0 }, { name := "SCHEME", type := .int, accessFlags := 24, slot := 12, constantValue := 0 }, { name := "CLASSES", type := (.array .short), accessFlags := 26, slot := 13, constantValue := 0 }]
  methods := #[k2m0, k2m1]
  instanceTypes := #[]
  staticTypes := #[.long, .int, .int, .int, .int, .int, .int, .int, .int, .int, .int, .int, .int, (.array .short)]
  resolved := Array.replicate 138 none
  statics := none }

def pool3 : Array CpInfo := pool [(1, u "java/lang/Cloneable"), (0, .class_ 1), (0, u "java/lang/Object"), (0, .class_ 3)] 3

/-- java/lang/Cloneable -/
def k3 : Class := { plain "java/lang/Cloneable" (some 0) with
  accessFlags := 1537
  interfaces := #[]
  cf := some (fileOf pool3 2 #[] #[] 1537 4 #[] #[])
  fields := #[]
  methods := #[]
  instanceTypes := #[]
  staticTypes := #[]
  resolved := Array.replicate 8 none
  statics := none }

def pool4 : Array CpInfo := pool [(1, u "java/io/Serializable"), (0, .class_ 1), (0, u "java/lang/Object"), (0, .class_ 3)] 3

/-- java/io/Serializable -/
def k4 : Class := { plain "java/io/Serializable" (some 0) with
  accessFlags := 1537
  interfaces := #[]
  cf := some (fileOf pool4 2 #[] #[] 1537 4 #[] #[])
  fields := #[]
  methods := #[]
  instanceTypes := #[]
  staticTypes := #[]
  resolved := Array.replicate 8 none
  statics := none }

/-- the primitive byte -/
def k5 : Class := { plain "byte" none with kind := .primitive 'B', accessFlags := 0x411 }
/-- [B -/
def k6 : Class := { plain "[B" (some 0) with kind := .array 5 .byte, interfaces := #[3, 4], accessFlags := 1041 }

/-- the primitive int -/
def k7 : Class := { plain "int" none with kind := .primitive 'I', accessFlags := 0x411 }
/-- [I -/
def k8 : Class := { plain "[I" (some 0) with kind := .array 7 .int, interfaces := #[3, 4], accessFlags := 1041 }

/-- the primitive long -/
def k9 : Class := { plain "long" none with kind := .primitive 'J', accessFlags := 0x411 }
/-- [J -/
def k10 : Class := { plain "[J" (some 0) with kind := .array 9 .long, interfaces := #[3, 4], accessFlags := 1041 }

def heap : Heap := #[]
def classes : Array Class := #[k0, k1, k2, k3, k4, k5, k6, k7, k8, k9, k10]
def interned : List (Array UInt16 × Addr) := []
def slotsUsed : Nat := 0
def theMethod : MethodId := ⟨1, 1⟩
def args0 : Array Value := #[.long 5, .int 3, .int 2, .int 5, .int 7]
def aboutOver (below : List Frame) : State where
  vm := { classes := classes, interned := interned.toArray }
  heap := heap
  slotsUsed := slotsUsed
  threads := #[{ frames := .invoking theMethod args0 :: below }]
def below0 : List Frame := [.native { method := ⟨0, 0⟩, args := #[] }]
def about1 : State := aboutOver below0
def p0 : Program := .bare "" "" ""
def e0 : Env := launch0.env 0 0 0
theorem w_frames : about1.frames = Frame.invoking theMethod args0 :: below0 := rfl
set_option maxRecDepth 65536 in
theorem w_args : argsFit about1.vm theMethod args0 = true := by decide +kernel
set_option maxRecDepth 65536 in
theorem w_heap : heapFits about1 = true := by decide +kernel
set_option maxRecDepth 65536 in
theorem w_runnable : about1.curStatus? = some .runnable := by decide +kernel
set_option maxRecDepth 65536 in
theorem w_alone : about1.alone = true := by decide +kernel
set_option maxRecDepth 65536 in
theorem w_named : about1.methodNamed? x = some theMethod := by decide +kernel
set_option maxRecDepth 65536 in
theorem w_hears : about1.hears theMethod below0 = true := by decide +kernel
set_option maxRecDepth 65536 in
theorem w_ripe : about1.ripe theMethod args0 below0 = true := by decide +kernel
theorem w_running : about1.status = .running := rfl
set_option maxRecDepth 65536 in
theorem w_room : about1.hasRoom e0.platform room_1 = true :=
  launch0.hasRoom_least _ room_1 (by decide +kernel) (by decide +kernel) (by decide +kernel) (by decide +kernel) (by decide +kernel) (by decide +kernel)
theorem allAtoms_all (ts : List Jvm.Cond) (a : Array Jvm.Value) (st : Jvm.State) : (allAtoms ts).before a st = ts.all (fun c => c.before a st) := by
  induction ts with
  | nil => rfl
  | cons c t ih =>
    show (Jvm.Cond.and c (allAtoms t)).before a st = _
    rw [Jvm.Cond.before_and, ih, List.all_cons]
def words1 : List Jvm.Cond := Jvm.Cond.code x code maxLocals ret :: tables_1
/-- a 'code' word, met by the world's own term for the bytes: nothing is compared byte by byte -/
theorem code_word {y : MethodName} {bytes : ByteArray} {mx : Nat} {rt : Option FieldType} {a : Array Value} {s : State} {m : MethodId} {meth : Method} {c : Code} (h1 : s.methodNamed? y = some m) (h2 : s.vm.method? m = some meth) (h3 : meth.code = some c) (h4 : c.code = bytes)
    (h5 : (c.maxLocals == mx && c.exceptionTable.isEmpty && decide (c.maxStack ≤ mostOperands) && decide (meth.sig.returnType = rt) && !meth.locks && decide (parseMethodDescriptor y.desc = some meth.sig)) = true) : (Jvm.Cond.code y bytes mx rt).before a s = true := by
  simp only [Bool.and_eq_true, beq_iff_eq, Bool.not_eq_true', decide_eq_true_eq] at h5
  obtain ⟨⟨⟨⟨⟨g1, g2⟩, g3⟩, g4⟩, g5⟩, g6⟩ := h5
  simp [Cond.before, Cond.holds, Cond.value, h1, h2, h3, h4, g1, g2, g3, g4, g5, g6]
def isCode : Jvm.Cond → Bool
  | .code _ _ _ _ => true
  | _ => false
theorem all_split {L : List Jvm.Cond} {P : Jvm.Cond → Bool} (h1 : L.all (fun c => isCode c || P c) = true) (h2 : ∀ c ∈ L.filter isCode, P c = true) : L.all P = true := by
  refine List.all_eq_true.mpr fun c hc => ?_
  have h := List.all_eq_true.mp h1 c hc
  rcases Bool.eq_false_or_eq_true (isCode c) with hi | hi
  · exact h2 c (List.mem_filter.mpr ⟨hc, hi⟩)
  · simpa [hi] using h
set_option maxRecDepth 65536 in
theorem w_c0 : (Jvm.Cond.code x code maxLocals ret).before args0 about1 = true := code_word (m := ⟨1, 1⟩) (meth := k1m1) (c := k1c1) (by decide +kernel) rfl rfl rfl (by decide +kernel)
set_option maxRecDepth 65536 in
theorem w_c1 : (Jvm.Cond.code ({ cls := "com/example/comera/comera/sip/SyntaxUnsigned32PinLaw", name := "cell", desc := "(IIIJ[JZIBI)B" } : Jvm.MethodName) method_3_code (11 : Nat) (Option.some Jvm.ClassFile.FieldType.byte)).before args0 about1 = true := code_word (m := ⟨1, 2⟩) (meth := k1m2) (c := k1c2) (by decide +kernel) rfl rfl rfl (by decide +kernel)
set_option maxRecDepth 65536 in
theorem w_c2 : (Jvm.Cond.code ({ cls := "com/example/comera/comera/sip/Syntax", name := "unsigned32", desc := "([BII)J" } : Jvm.MethodName) prog_96_method_18_code (6 : Nat) (Option.some Jvm.ClassFile.FieldType.long)).before args0 about1 = true := code_word (m := ⟨2, 1⟩) (meth := k2m1) (c := k2c1) (by decide +kernel) rfl rfl rfl (by decide +kernel)
def codes1 : List Jvm.Cond := [Jvm.Cond.code x code maxLocals ret, Jvm.Cond.code ({ cls := "com/example/comera/comera/sip/SyntaxUnsigned32PinLaw", name := "cell", desc := "(IIIJ[JZIBI)B" } : Jvm.MethodName) method_3_code (11 : Nat) (Option.some Jvm.ClassFile.FieldType.byte), Jvm.Cond.code ({ cls := "com/example/comera/comera/sip/Syntax", name := "unsigned32", desc := "([BII)J" } : Jvm.MethodName) prog_96_method_18_code (6 : Nat) (Option.some Jvm.ClassFile.FieldType.long)]
set_option maxRecDepth 65536 in
theorem codes_eq : words1.filter isCode = codes1 := rfl
theorem w_codes : ∀ c ∈ words1.filter isCode, c.before args0 about1 = true := by
  rw [codes_eq]
  intro c hc
  simp only [codes1, List.mem_cons, List.not_mem_nil, or_false] at hc
  rcases hc with rfl | rfl | rfl
  · exact w_c0
  · exact w_c1
  · exact w_c2
set_option maxRecDepth 65536 in
theorem w_t1 : (words1.take 24).all (fun c => isCode c || c.before args0 about1) = true := by decide +kernel
set_option maxRecDepth 65536 in
theorem w_t2 : (words1.drop 24).all (fun c => isCode c || c.before args0 about1) = true := by decide +kernel
theorem w_tables : (allAtoms (Jvm.Cond.code x code maxLocals ret :: tables_1)).before args0 about1 = true := by
  rw [allAtoms_all]
  show words1.all (fun c => c.before args0 about1) = true
  refine all_split ?_ w_codes
  rw [← List.take_append_drop 24 words1, List.all_append, w_t1, w_t2]
  rfl
set_option maxRecDepth 65536 in
theorem w_case : (Jvm.Cond.and given_1 narrow_1).before args0 about1 = true := by decide +kernel
theorem w_applies : (headSpec (Jvm.Cond.code x code maxLocals ret :: tables_1) room_1).applies x e0.platform about1 = true :=
  (Spec.applies_iff w_frames).mpr ⟨w_running, w_runnable, w_alone, w_named, w_hears, w_ripe, w_room, w_tables⟩
theorem atStart : AtStart classFile x code maxLocals ret World_1 tables_1 room_1 Calls_1 rest_1 Pre_1 launch0 p0 e0 about1 theMethod args0 below0 :=
  ⟨lists_1, trivial, launch0.admits_env _ _ _, launch0.least_env, fairChoices_fair.cas, fairChoices_fair.clock, w_frames, w_args, w_heap, w_applies, trivial, trivial, w_case⟩
end start1
theorem witness_1 : WitnessClaimed_1 := ⟨start1.p0, start1.e0, start1.about1, start1.theMethod, start1.args0, start1.below0, start1.atStart⟩
end Jvm.Pilot.@@N@@
