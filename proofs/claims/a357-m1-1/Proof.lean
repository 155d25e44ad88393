import JvmDerived
import JvmDerived.Pilot.@@N@@Statement
import JvmDerived.Pilot.@@N@@Code
set_option linter.unusedVariables false
set_option linter.unusedSimpArgs false
namespace Jvm.Pilot.@@N@@
open Jvm Jvm.ClassFile Sem Op Lib Jvm.Free Jvm.Stand Jvm.LawKit Jvm.RoadKit Bundle Jvm.Pilot.@@N@@.Jvm.D
section Own
variable {p : Program} {l : Launch} {e : Env} {R : Room} {s : State} {m : MethodId} {args : Array Value} {below : List Frame} {meth : Method} {c : Code} {T : State} {locs : List Loc} {cells slots : Nat} {Z : State} {h h' : Heap}
def Run (p : Program) (e : Env) (below : List Frame) (s : State) (C N : Nat) (Q : Option Value → Heap → List Loc → Prop) (S : State) : Prop :=
  ∃ s₂ o, Steps p.tables e below S s₂ ∧ s₂.status = .running ∧ Ended s₂ below o ∧ ∃ v L, o = .returned v ∧ Q v s₂.heap L ∧ FrameEnd s o s₂ L C N
variable {C N : Nat} {Q : Option Value → Heap → List Loc → Prop} {S S' : State}
theorem Run.go (k : ∀ t, Steps p.tables e below S' t → Steps p.tables e below S t) (r : Run p e below s C N Q S') : Run p e below s C N Q S := by
  obtain ⟨s₂, o, h1, r⟩ := r
  exact ⟨s₂, o, k _ h1, r⟩
theorem Run.tr (k : Steps p.tables e below S S') (r : Run p e below s C N Q S') : Run p e below s C N Q S := by
  obtain ⟨s₂, o, h1, r⟩ := r
  exact ⟨s₂, o, k.trans h1, r⟩
theorem Run.retI (X : Stand p l e R s m args below meth c T locs cells slots) (hx : p.tables.exec = Jvm.exec) {pc : Nat} {Ls : Array Slot} {z : Int32} {rest : List Value} (hret : meth.sig.returnType = some .int) (hlk : meth.locks = false) (hd : decode c.code pc = .ok (.ireturn, 1)) (hc : cells ≤ C) (hn : slots ≤ N)
    (hQ : Q (some (.int z)) T.heap locs) : Run p e below s C N Q (T.setTop (mkF m pc Ls (.int z :: rest))) := by
  obtain ⟨fs, hr, hrun, hended, hW, hsame⟩ := X.leave (v := some (.int z)) (fun q => by rw [hret] at q; cases q)
  refine ⟨_, _, ?_, hrun, hended, _, _, rfl, hQ, ⟨_, rfl⟩, hW, hsame.mono hc hn⟩
  have hm' : T.vm.method? m = some meth := X.method'
  have hn : narrow .int (.int z) = .int z := rfl
  show Steps p.tables e below (T.setTop { method := m, pc := pc, locals := Ls, stack := _ :: rest, locked := none }) _
  jvm_step X.here [X.here.top, hx, hd, hm', hret, hn]
  first | (intro acts; rw [hr _ acts rfl rfl rfl]) | rw [hr _ _ rfl rfl rfl]
  exact Steps.refl _
theorem Run.retN (X : Stand p l e R s m args below meth c T locs cells slots) (hx : p.tables.exec = Jvm.exec) {pc : Nat} {Ls : Array Slot} {z y : Int32} {t : FieldType} {rest : List Value} (hret : meth.sig.returnType = some t) (ht : t = .boolean ∨ t = .byte ∨ t = .char ∨ t = .short) (hy : nar t z = y) (hlk : meth.locks = false) (hd : decode c.code pc = .ok (.ireturn, 1)) (hc : cells ≤ C) (hn : slots ≤ N)
    (hQ : Q (some (.int y)) T.heap locs) : Run p e below s C N Q (T.setTop (mkF m pc Ls (.int z :: rest))) := by
  subst hy
  obtain ⟨fs, hr, hrun, hended, hW, hsame⟩ := X.leave (v := some (.int (nar t z))) (fun q => by rw [hret] at q; cases q)
  exact ⟨_, _, Jvm.RoadKit.retN X hx hret ht hd hr, hrun, hended, _, _, rfl, hQ, ⟨_, rfl⟩, hW, hsame.mono hc hn⟩
theorem Run.retJ (X : Stand p l e R s m args below meth c T locs cells slots) (hx : p.tables.exec = Jvm.exec) {pc : Nat} {Ls : Array Slot} {z : Int64} {rest : List Value} (hret : meth.sig.returnType = some .long) (hlk : meth.locks = false) (hd : decode c.code pc = .ok (.lreturn, 1)) (hc : cells ≤ C) (hn : slots ≤ N)
    (hQ : Q (some (.long z)) T.heap locs) : Run p e below s C N Q (T.setTop (mkF m pc Ls (.long z :: rest))) := by
  obtain ⟨fs, hr, hrun, hended, hW, hsame⟩ := X.leave (v := some (.long z)) (fun q => by rw [hret] at q; cases q)
  refine ⟨_, _, ?_, hrun, hended, _, _, rfl, hQ, ⟨_, rfl⟩, hW, hsame.mono hc hn⟩
  have hm' : T.vm.method? m = some meth := X.method'
  show Steps p.tables e below (T.setTop { method := m, pc := pc, locals := Ls, stack := _ :: rest, locked := none }) _
  jvm_step X.here [X.here.top, hx, hd, hm', hret, narrow]
  first | (intro acts; rw [hr _ acts rfl rfl rfl]) | rw [hr _ _ rfl rfl rfl]
  exact Steps.refl _
theorem Run.retA (X : Stand p l e R s m args below meth c T locs cells slots) (hx : p.tables.exec = Jvm.exec) {pc : Nat} {Ls : Array Slot} {w : Value} {t : FieldType} {rest : List Value} (hw : w.isRef = true) (hret : meth.sig.returnType = some t) (ht : t.isReference = true) (hlk : meth.locks = false) (hd : decode c.code pc = .ok (.areturn, 1)) (hc : cells ≤ C) (hn : slots ≤ N)
    (hQ : Q (some w) T.heap locs) : Run p e below s C N Q (T.setTop (mkF m pc Ls (w :: rest))) := by
  obtain ⟨fs, hr, hrun, hended, hW, hsame⟩ := X.leave (v := some w) (fun q => by rw [hret] at q; cases q)
  refine ⟨_, _, ?_, hrun, hended, _, _, rfl, hQ, ⟨_, rfl⟩, hW, hsame.mono hc hn⟩
  have hm' : T.vm.method? m = some meth := X.method'
  show Steps p.tables e below (T.setTop { method := m, pc := pc, locals := Ls, stack := _ :: rest, locked := none }) _
  rcases ref_cases hw with rfl | ⟨a, rfl⟩
  all_goals
    jvm_step X.here [X.here.top, hx, hd, hm', hret, Value.isRef, ht]
    first | (intro acts; rw [hr _ acts rfl rfl rfl]) | rw [hr _ _ rfl rfl rfl]
    exact Steps.refl _
theorem Run.ret0 (X : Stand p l e R s m args below meth c T locs cells slots) (hx : p.tables.exec = Jvm.exec) {pc : Nat} {Ls : Array Slot} (hret : meth.sig.returnType = none) (hlk : meth.locks = false) (hd : decode c.code pc = .ok (.return_, 1)) (hc : cells ≤ C) (hn : slots ≤ N)
    (hQ : Q none T.heap locs) : Run p e below s C N Q (T.setTop (mkF m pc Ls [])) := by
  obtain ⟨fs, hr, hrun, hended, hW, hsame⟩ := X.leave (v := none) (fun _ => rfl)
  exact ⟨_, _, X.returnOut hx hret hd hr, hrun, hended, _, _, rfl, hQ, ⟨_, rfl⟩, hW, hsame.mono hc hn⟩
theorem Stand_gen {k : Nat} (X : Stand p l e R s m args below meth c T locs cells slots) (F : Fr k locs) : ∃ L, Stand p l e R s m args below meth c T L cells slots ∧ Fr k L := ⟨_, X, F⟩
theorem Sta.keep {C n d : String} {w : Value} {ws : List Addr} (F : Sta Z h C n d w) (K : Keep h h' ws) (q : ∀ x ∈ ws, ∀ c : Cell, h[x]? = some c → c.vm.isStatics = false) : Sta Z h' C n d w := by
  obtain ⟨cf, i, k, f, st, cell, h1, h2, h3, h4, h5, h6, h7⟩ := F
  refine ⟨cf, i, k, f, st, cell, h1, h2, h3, h4, K.2.1 st cell h5 (fun hm => ?_), h6, h7⟩
  rw [q st hm cell h5] at h6; cases h6
theorem Exa.nst {a : Addr} {C : String} (F : Exa Z h a C) : ∀ c : Cell, h[a]? = some c → c.vm.isStatics = false := fun c q => by
  obtain ⟨cell, k, h1, -, -, h4, -⟩ := F
  cases h1.symm.trans q; exact h4
/-- an array of n elements, the i-th is f i -/
def Ary (Z : State) (h : Heap) (a : Addr) (ty : FieldType) (n : Nat) (f : Nat → Value) : Prop := ∃ c : Cell, Arr Z h a c ty ∧ c.slots.size = n ∧ ∀ i, i < n → c.slots[i]? = some (f i)
variable {a b : Addr} {ty : FieldType} {n sl : Nat} {f : Nat → Value} {v : Value} {ws : List Addr}
theorem Ary.lt (F : Ary Z h a ty n f) : a < h.size := by obtain ⟨c, A, -⟩ := F; exact A.lt
theorem Ary.ext (F : Ary Z h a ty n f) (E : Ext h h') : Ary Z h' a ty n f := by obtain ⟨c, A, r⟩ := F; exact ⟨c, A.ext E, r⟩
theorem Ary.other (F : Ary Z h b ty n f) (W : Wr h h' a sl v) (q : b ≠ a) : Ary Z h' b ty n f := by obtain ⟨c, A, r⟩ := F; exact ⟨c, A.other W q, r⟩
theorem Ary.keep (F : Ary Z h a ty n f) (K : Keep h h' ws) (q : a ∉ ws) : Ary Z h' a ty n f := by obtain ⟨c, A, r⟩ := F; exact ⟨c, ⟨K.2.1 a c A.1 q, A.2⟩, r⟩
theorem Ary.ne {C : String} {a0 : Array Value} {k : Nat} (F : Ary Z h a ty n f) (G : Exa Z h b C) (wi : (Jvm.Cond.instantiable C k).before a0 Z = true) : a ≠ b := by
  obtain ⟨c, A, r⟩ := F; exact (ne_arr G wi A).symm
theorem Ary.same (F : Ary Z h a ty n f) (W : Wr h h' a sl v) : Ary Z h' a ty n (fun i => if i = sl then v else f i) := by
  obtain ⟨c, A, hs, hf⟩ := F
  obtain ⟨c1, q1, q2, q3, q4⟩ := W
  obtain rfl := Option.some.inj (q1.symm.trans A.1)
  refine ⟨c1.setSlot sl v, A.same ⟨c1, q1, q2, q3, q4⟩, by simp [Cell.setSlot, hs], fun i hi => ?_⟩
  by_cases e : i = sl
  · subst e; simp [Cell.setSlot, q3]
  · simp only [if_neg e]; rw [← hf i hi]; exact Array.getElem?_setIfInBounds_ne (Ne.symm e)
theorem Ary.nst (F : Ary Z h a ty n f) : ∀ c : Cell, h[a]? = some c → c.vm.isStatics = false := fun c q => by
  obtain ⟨cl, A, -⟩ := F
  cases A.1.symm.trans q; exact A.plain
theorem Ary.congr {g : Nat → Value} (F : Ary Z h a ty n f) (q : ∀ i, i < n → f i = g i) : Ary Z h a ty n g := by
  obtain ⟨c, A, hs, hf⟩ := F; exact ⟨c, A, hs, fun i hi => by rw [hf i hi, q i hi]⟩
theorem Ary.new {k : ClassId} {z : Int32} (A : Arr Z h a (newA k ty z) ty) (q : z.toNatClampNeg = n) : Ary Z h a ty n (fun _ => defaultValue ty) := by
  subst q
  exact ⟨_, A, sz_new _ _ _, fun i hi => by simp [newA, hi]⟩
theorem out_of {j : Int32} {c : Cell} (hs : c.slots.size = n) (h0 : ¬ j < 0) (hj : j.toNatClampNeg < n) : ¬ (j < 0 ∨ c.slots.size ≤ j.toNatClampNeg) := by
  rw [hs]; exact fun q => q.elim h0 (fun q => absurd hj (Nat.not_lt.mpr q))
/-- an array of references: besides, its class is that of arrays over C -/
def ArR (Z : State) (h : Heap) (a : Addr) (C : String) (n : Nat) (f : Nat → Value) : Prop := ∃ c : Cell, Arr Z h a c (.object C) ∧ Ovr Z c.cls C ∧ c.slots.size = n ∧ ∀ i, i < n → c.slots[i]? = some (f i)
variable {K : String}
theorem ArR.lt (F : ArR Z h a K n f) : a < h.size := by obtain ⟨c, A, -⟩ := F; exact A.lt
theorem ArR.ext (F : ArR Z h a K n f) (E : Ext h h') : ArR Z h' a K n f := by obtain ⟨c, A, r⟩ := F; exact ⟨c, A.ext E, r⟩
theorem ArR.other (F : ArR Z h b K n f) (W : Wr h h' a sl v) (q : b ≠ a) : ArR Z h' b K n f := by obtain ⟨c, A, r⟩ := F; exact ⟨c, A.other W q, r⟩
theorem ArR.keep (F : ArR Z h a K n f) (k : Keep h h' ws) (q : a ∉ ws) : ArR Z h' a K n f := by obtain ⟨c, A, r⟩ := F; exact ⟨c, ⟨k.2.1 a c A.1 q, A.2⟩, r⟩
theorem ArR.ary (F : ArR Z h a K n f) : Ary Z h a (.object K) n f := by obtain ⟨c, A, -, r⟩ := F; exact ⟨c, A, r⟩
theorem ArR.same (F : ArR Z h a K n f) (W : Wr h h' a sl v) : ArR Z h' a K n (fun i => if i = sl then v else f i) := by
  obtain ⟨c, A, o, hs, hf⟩ := F
  obtain ⟨c1, q1, q2, q3, q4⟩ := W
  obtain rfl := Option.some.inj (q1.symm.trans A.1)
  refine ⟨c1.setSlot sl v, A.same ⟨c1, q1, q2, q3, q4⟩, o, by simp [Cell.setSlot, hs], fun i hi => ?_⟩
  by_cases e : i = sl
  · subst e; simp [Cell.setSlot, q3]
  · simp only [if_neg e]; rw [← hf i hi]; exact Array.getElem?_setIfInBounds_ne (Ne.symm e)
theorem ArR.new {k : ClassId} {z : Int32} (A : Arr Z h a (newA k (.object K) z) (.object K)) (O : Ovr Z k K) (q : z.toNatClampNeg = n) : ArR Z h a K n (fun _ => .null) := by
  subst q
  exact ⟨_, A, O, sz_new _ _ _, fun i hi => by simp [newA, hi]; rfl⟩
section Arrays
theorem ary_iget (X : Stand p l e R s m args below meth c T locs cells slots) (hx : p.tables.exec = Jvm.exec) (hZ : Z.Warmed39 s.vm) (eT : T.heap = h) (A : Ary Z h a .int n f) {j : Int32} (h0 : ¬ j < 0) (hj : j.toNatClampNeg < n) {g : JFrame} (hg : g.method = m) {rest : List Value} (hs : g.stack = .int j :: .ref a :: rest) (hd : decode c.code g.pc = .ok (.iaload, 1)) {v : Value} (hv : f j.toNatClampNeg = v) (target : State)
    (k : Steps p.tables e below (T.setTop { g with pc := g.pc + 1, stack := v :: rest }) target) : Steps p.tables e below (T.setTop g) target := by
  subst hv; obtain ⟨cl, A, q, F⟩ := A
  exact X.iaload hx (by rw [eT]; exact A.1) (State.isArrayOf_alike hZ.alike A.2.1) A.2.2 (out_of q h0 hj) (F _ hj) hg hs hd target k
theorem ary_lget (X : Stand p l e R s m args below meth c T locs cells slots) (hx : p.tables.exec = Jvm.exec) (hZ : Z.Warmed39 s.vm) (eT : T.heap = h) (A : Ary Z h a .long n f) {j : Int32} (h0 : ¬ j < 0) (hj : j.toNatClampNeg < n) {g : JFrame} (hg : g.method = m) {rest : List Value} (hs : g.stack = .int j :: .ref a :: rest) (hd : decode c.code g.pc = .ok (.laload, 1)) {v : Value} (hv : f j.toNatClampNeg = v) (target : State)
    (k : Steps p.tables e below (T.setTop { g with pc := g.pc + 1, stack := v :: rest }) target) : Steps p.tables e below (T.setTop g) target := by
  subst hv; obtain ⟨cl, A, q, F⟩ := A
  exact X.laload hx (by rw [eT]; exact A.1) (State.isArrayOf_alike hZ.alike A.2.1) A.2.2 (out_of q h0 hj) (F _ hj) hg hs hd target k
theorem ary_bget (X : Stand p l e R s m args below meth c T locs cells slots) (hx : p.tables.exec = Jvm.exec) (hZ : Z.Warmed39 s.vm) (eT : T.heap = h) (A : Ary Z h a .byte n f) {j : Int32} (h0 : ¬ j < 0) (hj : j.toNatClampNeg < n) {g : JFrame} (hg : g.method = m) {rest : List Value} (hs : g.stack = .int j :: .ref a :: rest) (hd : decode c.code g.pc = .ok (.baload, 1)) {v : Value} (hv : f j.toNatClampNeg = v) (target : State)
    (k : Steps p.tables e below (T.setTop { g with pc := g.pc + 1, stack := v :: rest }) target) : Steps p.tables e below (T.setTop g) target := by
  subst hv; obtain ⟨cl, A, q, F⟩ := A
  exact X.baloadBytes hx (by rw [eT]; exact A.1) (State.isArrayOf_alike hZ.alike A.2.1) A.2.2 (out_of q h0 hj) (F _ hj) hg hs hd target k
theorem ary_cget (X : Stand p l e R s m args below meth c T locs cells slots) (hx : p.tables.exec = Jvm.exec) (hZ : Z.Warmed39 s.vm) (eT : T.heap = h) (A : Ary Z h a .char n f) {j : Int32} (h0 : ¬ j < 0) (hj : j.toNatClampNeg < n) {g : JFrame} (hg : g.method = m) {rest : List Value} (hs : g.stack = .int j :: .ref a :: rest) (hd : decode c.code g.pc = .ok (.caload, 1)) {v : Value} (hv : f j.toNatClampNeg = v) (target : State)
    (k : Steps p.tables e below (T.setTop { g with pc := g.pc + 1, stack := v :: rest }) target) : Steps p.tables e below (T.setTop g) target := by
  subst hv; obtain ⟨cl, A, q, F⟩ := A
  exact X.caload hx (by rw [eT]; exact A.1) (State.isArrayOf_alike hZ.alike A.2.1) A.2.2 (out_of q h0 hj) (F _ hj) hg hs hd target k
theorem ary_aget (X : Stand p l e R s m args below meth c T locs cells slots) (hx : p.tables.exec = Jvm.exec) (hZ : Z.Warmed39 s.vm) (eT : T.heap = h) (A : Ary Z h a ty n f) (hr : ty.isReference = true) {j : Int32} (h0 : ¬ j < 0) (hj : j.toNatClampNeg < n) {g : JFrame} (hg : g.method = m) {rest : List Value} (hs : g.stack = .int j :: .ref a :: rest) (hd : decode c.code g.pc = .ok (.aaload, 1)) {v : Value} (hv : f j.toNatClampNeg = v) (target : State)
    (k : Steps p.tables e below (T.setTop { g with pc := g.pc + 1, stack := v :: rest }) target) : Steps p.tables e below (T.setTop g) target := by
  subst hv; obtain ⟨cl, A, q, F⟩ := A
  exact X.aaload hx (by rw [eT]; exact A.1) (State.isArrayOf_alike hZ.alike A.2.1) hr A.2.2 (out_of q h0 hj) (F _ hj) hg hs hd target k
theorem ary_len (X : Stand p l e R s m args below meth c T locs cells slots) (hx : p.tables.exec = Jvm.exec) (hZ : Z.Warmed39 s.vm) (eT : T.heap = h) (A : Ary Z h a ty n f) {g : JFrame} (hg : g.method = m) {rest : List Value} (hs : g.stack = .ref a :: rest) (hd : decode c.code g.pc = .ok (.arraylength, 1)) {z : Int32} (hv : n.toInt32 = z) (target : State)
    (k : Steps p.tables e below (T.setTop { g with pc := g.pc + 1, stack := .int z :: rest }) target) : Steps p.tables e below (T.setTop g) target := by
  subst hv; obtain ⟨cl, A, q, F⟩ := A
  subst q
  exact X.arraylength hx (by rw [eT]; exact A.1) (State.isArrayOf_alike hZ.alike A.2.1) hg hs hd target k
theorem ary_iset (X : Stand p l e R s m args below meth c T locs cells slots) (hx : p.tables.exec = Jvm.exec) (hZ : Z.Warmed39 s.vm) (eT : T.heap = h) (A : Ary Z h a .int n f) {j x : Int32} (h0 : ¬ j < 0) (hj : j.toNatClampNeg < n) {g : JFrame} (hg : g.method = m) {rest : List Value} (hs : g.stack = .int x :: .int j :: .ref a :: rest) (hd : decode c.code g.pc = .ok (.iastore, 1)) :
    ∃ T' h', Stand p l e R s m args below meth c T' (locs ++ [⟨a, j.toNatClampNeg⟩]) cells slots ∧ T'.heap = h' ∧ Wr h h' a j.toNatClampNeg (.int x) ∧ ∀ target, Steps p.tables e below (T'.setTop { g with pc := g.pc + 1, stack := rest }) target → Steps p.tables e below (T.setTop g) target := by
  obtain ⟨cl, A, q, F⟩ := A
  exact stI X hx hZ eT A (out_of q h0 hj) hg hs hd
theorem ary_lset (X : Stand p l e R s m args below meth c T locs cells slots) (hx : p.tables.exec = Jvm.exec) (hZ : Z.Warmed39 s.vm) (eT : T.heap = h) (A : Ary Z h a .long n f) {j : Int32} {x : Int64} (h0 : ¬ j < 0) (hj : j.toNatClampNeg < n) {g : JFrame} (hg : g.method = m) {rest : List Value} (hs : g.stack = .long x :: .int j :: .ref a :: rest) (hd : decode c.code g.pc = .ok (.lastore, 1)) :
    ∃ T' h', Stand p l e R s m args below meth c T' (locs ++ [⟨a, j.toNatClampNeg⟩]) cells slots ∧ T'.heap = h' ∧ Wr h h' a j.toNatClampNeg (.long x) ∧ ∀ target, Steps p.tables e below (T'.setTop { g with pc := g.pc + 1, stack := rest }) target → Steps p.tables e below (T.setTop g) target := by
  obtain ⟨cl, A, q, F⟩ := A
  exact stJ X hx hZ eT A (out_of q h0 hj) hg hs hd
theorem ary_bset (X : Stand p l e R s m args below meth c T locs cells slots) (hx : p.tables.exec = Jvm.exec) (hZ : Z.Warmed39 s.vm) (eT : T.heap = h) (A : Ary Z h a .byte n f) {j x y : Int32} (h0 : ¬ j < 0) (hj : j.toNatClampNeg < n) {g : JFrame} (hg : g.method = m) {rest : List Value} (hs : g.stack = .int x :: .int j :: .ref a :: rest) (hd : decode c.code g.pc = .ok (.bastore, 1)) (hy : x.toInt8.toInt32 = y) :
    ∃ T' h', Stand p l e R s m args below meth c T' (locs ++ [⟨a, j.toNatClampNeg⟩]) cells slots ∧ T'.heap = h' ∧ Wr h h' a j.toNatClampNeg (.int y) ∧ ∀ target, Steps p.tables e below (T'.setTop { g with pc := g.pc + 1, stack := rest }) target → Steps p.tables e below (T.setTop g) target := by
  subst hy; obtain ⟨cl, A, q, F⟩ := A
  exact stB X hx hZ eT A (out_of q h0 hj) hg hs hd
theorem ary_cset (X : Stand p l e R s m args below meth c T locs cells slots) (hx : p.tables.exec = Jvm.exec) (hZ : Z.Warmed39 s.vm) (eT : T.heap = h) (A : Ary Z h a .char n f) {j x y : Int32} (h0 : ¬ j < 0) (hj : j.toNatClampNeg < n) {g : JFrame} (hg : g.method = m) {rest : List Value} (hs : g.stack = .int x :: .int j :: .ref a :: rest) (hd : decode c.code g.pc = .ok (.castore, 1)) (hy : nar .char x = y) :
    ∃ T' h', Stand p l e R s m args below meth c T' (locs ++ [⟨a, j.toNatClampNeg⟩]) cells slots ∧ T'.heap = h' ∧ Wr h h' a j.toNatClampNeg (.int y) ∧ ∀ target, Steps p.tables e below (T'.setTop { g with pc := g.pc + 1, stack := rest }) target → Steps p.tables e below (T.setTop g) target := by
  subst hy; obtain ⟨cl, A, q, F⟩ := A
  exact stC X hx hZ eT A (out_of q h0 hj) hg hs hd
theorem arr_set (X : Stand p l e R s m args below meth c T locs cells slots) (hx : p.tables.exec = Jvm.exec) (hZ : Z.Warmed39 s.vm) (eT : T.heap = h) (A : ArR Z h a K n f) {j : Int32} {y : Addr} (I : Ins Z h y K true) (h0 : ¬ j < 0) (hj : j.toNatClampNeg < n) {g : JFrame} (hg : g.method = m) {rest : List Value} (hs : g.stack = .ref y :: .int j :: .ref a :: rest) (hd : decode c.code g.pc = .ok (.aastore, 1)) :
    ∃ T' h', Stand p l e R s m args below meth c T' (locs ++ [⟨a, j.toNatClampNeg⟩]) cells slots ∧ T'.heap = h' ∧ Wr h h' a j.toNatClampNeg (.ref y) ∧ ∀ target, Steps p.tables e below (T'.setTop { g with pc := g.pc + 1, stack := rest }) target → Steps p.tables e below (T.setTop g) target := by
  obtain ⟨cl, A, O, q, F⟩ := A
  exact stR X hx hZ eT A (out_of q h0 hj) rfl (Sto.of A O I) hg hs hd
end Arrays
theorem nar_ite (P : Prop) [Decidable P] : nar .boolean (if P then (1 : Int32) else 0) = if P then 1 else 0 := by by_cases q : P <;> simp [q] <;> rfl
theorem b_idem (x : Int32) : x.toInt8.toInt32.toInt8.toInt32 = x.toInt8.toInt32 := by rw [Int8.toInt8_toInt32]
theorem isI_c (x : Int32) : ∀ n : Nat, ∃ y, (fun _ => Value.int x) n = Value.int y := fun _ => ⟨x, rfl⟩
theorem isI_s {f : Nat → Value} (q : ∀ n, ∃ y, f n = Value.int y) (k : Nat) (x : Int32) : ∀ n, ∃ y, (fun i => if i = k then Value.int x else f i) n = Value.int y := fun n => by
  by_cases e : n = k
  · exact ⟨x, if_pos e⟩
  · obtain ⟨y, hy⟩ := q n
    exact ⟨y, (if_neg e).trans hy⟩
end Own
theorem d3_0 : decode method_2_code 0 = .ok (.iload_n 0, 1) := by decide +kernel
theorem d3_1 : decode method_2_code 1 = .ok (.iload_n 1, 1) := by decide +kernel
theorem d3_2 : decode method_2_code 2 = .ok (.isub, 1) := by decide +kernel
theorem d3_3 : decode method_2_code 3 = .ok (.i2l, 1) := by decide +kernel
theorem d3_4 : decode method_2_code 4 = .ok (.ldc2_w 7, 3) := by decide +kernel
theorem d3_7 : decode method_2_code 7 = .ok (.land, 1) := by decide +kernel
theorem d3_8 : decode method_2_code 8 = .ok (.lstore_n 3, 1) := by decide +kernel
theorem d3_9 : decode method_2_code 9 = .ok (.lload_n 3, 1) := by decide +kernel
theorem d3_10 : decode method_2_code 10 = .ok (.iload_n 2, 1) := by decide +kernel
theorem d3_11 : decode method_2_code 11 = .ok (.i2l, 1) := by decide +kernel
theorem d3_12 : decode method_2_code 12 = .ok (.lcmp, 1) := by decide +kernel
theorem d3_13 : decode method_2_code 13 = .ok (.ifCond .ge 7, 3) := by decide +kernel
theorem d3_16 : decode method_2_code 16 = .ok (.iconst 1, 1) := by decide +kernel
theorem d3_17 : decode method_2_code 17 = .ok (.goto 4, 3) := by decide +kernel
theorem d3_20 : decode method_2_code 20 = .ok (.iconst 0, 1) := by decide +kernel
theorem d3_21 : decode method_2_code 21 = .ok (.ireturn, 1) := by decide +kernel
def F_rm3 (p1 : Int32) (p2 : Int32) (p3 : Int32) : Int32 := let w5 : Int32 := (if ((((p1 - p2).toInt64) &&& (4294967295 : Int64)) < (p3.toInt64)) then (1 : Int32) else 0); w5
def Q_rm3 (Z : State) (p1 : Int32) (p2 : Int32) (p3 : Int32) (h0 : Heap) (n0 : Nat) (v : Option Value) (h : Heap) (L : List Loc) : Prop := v = some (.int (F_rm3 p1 p2 p3)) ∧ Fr n0 L ∧ h = h0
theorem ef_rm3 (m : MethodId) (x0 : Int32) (x1 : Int32) (x2 : Int32) : entryFrame m #[(.int x0), (.int x1), (.int x2)] 5 = mkF m 0 #[.val (.int x0), .val (.int x1), .val (.int x2), .unset, .unset] [] := by first | (simp [entryFrame, mkF, argsToLocals, Value.category]; done) | rfl
theorem pn_0 : plainName "com/example/exact_table/exacttable/ExpressionAttributesIsPlaceholderCharacterPinLaw" = true := by first | (simp [plainName, overriddenIn]; done) | decide +kernel
set_option maxRecDepth 65536 in
set_option maxHeartbeats 40000000 in
theorem rm3 (l : Launch) (Z : State) (a0 : Array Value) (hw : ∀ d ∈ tables_1, d.before a0 Z = true) (ws : List Jvm.Cond) (p1 : Int32) (p2 : Int32) (p3 : Int32) (h0 : Heap) (n0 : Nat) (Z0 : n0 ≤ h0.size)  :
    MetFree l (⟨"com/example/exact_table/exacttable/ExpressionAttributesIsPlaceholderCharacterPinLaw", "inRange", "(III)Z"⟩ : MethodName) (head1 (Jvm.Cond.code (⟨"com/example/exact_table/exacttable/ExpressionAttributesIsPlaceholderCharacterPinLaw", "inRange", "(III)Z"⟩ : MethodName) method_2_code 5 (some .boolean) :: ws) ({ frames := 0, cells := 0, slots := 0, locals := 0 } : Room)) (fun a U => a = #[(.int p1), (.int p2), (.int p3)] ∧ Z.Warmed39 U.vm ∧ U.heap = h0) (fun _ _ _ _ _ => True) (fun _ U o U' => ∃ v L, o = .returned v ∧ Q_rm3 Z p1 p2 p3 h0 n0 v U'.heap L ∧ FrameEnd U o U' L ({ frames := 0, cells := 0, slots := 0, locals := 0 } : Room).cells ({ frames := 0, cells := 0, slots := 0, locals := 0 } : Room).slots) := by
  refine MetFree.of_bodySF (plainFor_of_name pn_0) hisR ?_
  intro p e s m args below meth c s₁ Bd hml0 hP hK
  obtain ⟨rfl, hZ, hh⟩ := hP
  have hx := Bd.exec
  have hby := Bd.bytes
  have hml : c.maxLocals = 5 := hml0
  have hown : s.vm.findClass "com/example/exact_table/exacttable/ExpressionAttributesIsPlaceholderCharacterPinLaw" = some m.cls := findClass_of_methodNamed Bd.named
  have hnm := (name_of_methodNamed Bd.named Bd.method).1
  have X0 : Stand p l e ({ frames := 0, cells := 0, slots := 0, locals := 0 } : Room) s m #[(.int p1), (.int p2), (.int p3)] below meth c s₁ [] 0 0 := Stand.of_body Bd
  have e0 : s₁.heap = h0 := by rw [← hh, Bd.state]; rfl
  have N0 := Fr.nil n0
  show Run p e below s 0 0 (Q_rm3 Z p1 p2 p3 h0 n0) (s₁.setTop (entryFrame m #[(.int p1), (.int p2), (.int p3)] 5))
  refine Run.go (fun _ k => castTop (ef_rm3 m p1 p2 p3) k) ?_
  show Run p e below s 0 0 (Q_rm3 Z p1 p2 p3 h0 n0) (s₁.setTop (mkF m 0 #[.val (.int p1), .val (.int p2), .val (.int p3), .unset, .unset] []))
  refine Run.go (fun _ k => XS.iloadN X0.here hx rfl (hb hby d3_0) rfl  k) ?_
  show Run p e below s 0 0 (Q_rm3 Z p1 p2 p3 h0 n0) (s₁.setTop (mkF m 1 #[.val (.int p1), .val (.int p2), .val (.int p3), .unset, .unset] [(.int p1)]))
  refine Run.go (fun _ k => XS.iloadN X0.here hx rfl (hb hby d3_1) rfl  k) ?_
  show Run p e below s 0 0 (Q_rm3 Z p1 p2 p3 h0 n0) (s₁.setTop (mkF m 2 #[.val (.int p1), .val (.int p2), .val (.int p3), .unset, .unset] [(.int p2), (.int p1)]))
  refine Run.go (fun _ k => XS.isub X0.here hx rfl (hb hby d3_2) rfl k) ?_
  show Run p e below s 0 0 (Q_rm3 Z p1 p2 p3 h0 n0) (s₁.setTop (mkF m 3 #[.val (.int p1), .val (.int p2), .val (.int p3), .unset, .unset] [(.int (p1 - p2))]))
  refine Run.go (fun _ k => XS.i2l X0.here hx rfl (hb hby d3_3) rfl k) ?_
  show Run p e below s 0 0 (Q_rm3 Z p1 p2 p3 h0 n0) (s₁.setTop (mkF m 4 #[.val (.int p1), .val (.int p2), .val (.int p3), .unset, .unset] [(.long ((p1 - p2).toInt64))]))
  refine Run.go (fun _ k => X0.ldc2Long hx hown (mvT hZ (hw _ (List.mem_of_getElem? (i := 15) rfl))) (g := (mkF m 4 #[.val (.int p1), .val (.int p2), .val (.int p3), .unset, .unset] [(.long ((p1 - p2).toInt64))])) rfl (hb hby d3_4) _ k) ?_
  show Run p e below s 0 0 (Q_rm3 Z p1 p2 p3 h0 n0) (s₁.setTop (mkF m 7 #[.val (.int p1), .val (.int p2), .val (.int p3), .unset, .unset] [(.long (4294967295 : Int64)), (.long ((p1 - p2).toInt64))]))
  refine Run.go (fun _ k => XS.land X0.here hx rfl (hb hby d3_7) rfl k) ?_
  show Run p e below s 0 0 (Q_rm3 Z p1 p2 p3 h0 n0) (s₁.setTop (mkF m 8 #[.val (.int p1), .val (.int p2), .val (.int p3), .unset, .unset] [(.long (((p1 - p2).toInt64) &&& (4294967295 : Int64)))]))
  refine Run.go (fun _ k => XS.lstoreN X0.here hx rfl (hb hby d3_8) rfl (l' := #[.val (.int p1), .val (.int p2), .val (.int p3), .val (.long (((p1 - p2).toInt64) &&& (4294967295 : Int64))), .second]) rfl k) ?_
  show Run p e below s 0 0 (Q_rm3 Z p1 p2 p3 h0 n0) (s₁.setTop (mkF m 9 #[.val (.int p1), .val (.int p2), .val (.int p3), .val (.long (((p1 - p2).toInt64) &&& (4294967295 : Int64))), .second] []))
  refine Run.go (fun _ k => XS.lloadN X0.here hx rfl (hb hby d3_9) rfl  k) ?_
  show Run p e below s 0 0 (Q_rm3 Z p1 p2 p3 h0 n0) (s₁.setTop (mkF m 10 #[.val (.int p1), .val (.int p2), .val (.int p3), .val (.long (((p1 - p2).toInt64) &&& (4294967295 : Int64))), .second] [(.long (((p1 - p2).toInt64) &&& (4294967295 : Int64)))]))
  refine Run.go (fun _ k => XS.iloadN X0.here hx rfl (hb hby d3_10) rfl  k) ?_
  show Run p e below s 0 0 (Q_rm3 Z p1 p2 p3 h0 n0) (s₁.setTop (mkF m 11 #[.val (.int p1), .val (.int p2), .val (.int p3), .val (.long (((p1 - p2).toInt64) &&& (4294967295 : Int64))), .second] [(.int p3), (.long (((p1 - p2).toInt64) &&& (4294967295 : Int64)))]))
  refine Run.go (fun _ k => XS.i2l X0.here hx rfl (hb hby d3_11) rfl k) ?_
  show Run p e below s 0 0 (Q_rm3 Z p1 p2 p3 h0 n0) (s₁.setTop (mkF m 12 #[.val (.int p1), .val (.int p2), .val (.int p3), .val (.long (((p1 - p2).toInt64) &&& (4294967295 : Int64))), .second] [(.long (p3.toInt64)), (.long (((p1 - p2).toInt64) &&& (4294967295 : Int64)))]))
  refine Run.go (fun _ k => XS.lcmp X0.here hx rfl (hb hby d3_12) rfl k) ?_
  show Run p e below s 0 0 (Q_rm3 Z p1 p2 p3 h0 n0) (s₁.setTop (mkF m 13 #[.val (.int p1), .val (.int p2), .val (.int p3), .val (.long (((p1 - p2).toInt64) &&& (4294967295 : Int64))), .second] [(.int (lcmpW (((p1 - p2).toInt64) &&& (4294967295 : Int64)) (p3.toInt64)))]))
  have J4 : ∀ (w5 : Int32) (hw5 : w5 = (if ((((p1 - p2).toInt64) &&& (4294967295 : Int64)) < (p3.toInt64)) then (1 : Int32) else 0)) (T6 : State) (L6 : List Loc) (X6 : Stand p l e ({ frames := 0, cells := 0, slots := 0, locals := 0 } : Room) s m #[(.int p1), (.int p2), (.int p3)] below meth c T6 L6 0 0) (e6 : T6.heap = h0) (N6 : Fr n0 L6), Run p e below s 0 0 (Q_rm3 Z p1 p2 p3 h0 n0) (T6.setTop (mkF m 21 #[.val (.int p1), .val (.int p2), .val (.int p3), .val (.long (((p1 - p2).toInt64) &&& (4294967295 : Int64))), .second] [(.int w5)])) := by
    intro w5 hw5 T6 L6 X6 e6 N6
    show Run p e below s 0 0 (Q_rm3 Z p1 p2 p3 h0 n0) (T6.setTop (mkF m 21 #[.val (.int p1), .val (.int p2), .val (.int p3), .val (.long (((p1 - p2).toInt64) &&& (4294967295 : Int64))), .second] [(.int w5)]))
    refine Run.retN (y := w5) X6 hx (t := .boolean) Bd.returns (by simp) (by rw [hw5]; exact nar_ite _) Bd.notSynchronized (hb hby d3_21) (by decide) (by decide) ?_
    show Q_rm3 Z p1 p2 p3 h0 n0 _ T6.heap _
    exact ⟨congrArg some (congrArg Value.int (show w5 = (F_rm3 p1 p2 p3) from (by subst hw5; unfold F_rm3; rfl))), N6, e6⟩
  by_cases hc7 : ((((p1 - p2).toInt64) &&& (4294967295 : Int64)) < (p3.toInt64))
  · refine Run.go (fun _ k => XS.ifNo X0.here hx rfl (hb hby d3_13) rfl ((if0 _ _).trans (tlt ((lw_lt (((p1 - p2).toInt64) &&& (4294967295 : Int64)) (p3.toInt64)).mpr hc7)).2.1) k) ?_
    show Run p e below s 0 0 (Q_rm3 Z p1 p2 p3 h0 n0) (s₁.setTop (mkF m 16 #[.val (.int p1), .val (.int p2), .val (.int p3), .val (.long (((p1 - p2).toInt64) &&& (4294967295 : Int64))), .second] []))
    refine Run.go (fun _ k => XS.iconst X0.here hx rfl (hb hby d3_16) k) ?_
    show Run p e below s 0 0 (Q_rm3 Z p1 p2 p3 h0 n0) (s₁.setTop (mkF m 17 #[.val (.int p1), .val (.int p2), .val (.int p3), .val (.long (((p1 - p2).toInt64) &&& (4294967295 : Int64))), .second] [(.int (1 : Int32))]))
    refine Run.go (fun _ k => XS.goto X0.here hx rfl (pc0 := 17) (pc' := 21) rfl (hb hby d3_17) (by decide) (by decide) k) ?_
    show Run p e below s 0 0 (Q_rm3 Z p1 p2 p3 h0 n0) (s₁.setTop (mkF m 21 #[.val (.int p1), .val (.int p2), .val (.int p3), .val (.long (((p1 - p2).toInt64) &&& (4294967295 : Int64))), .second] [(.int (1 : Int32))]))
    exact J4 _ (if_pos hc7).symm _ _ X0 e0 N0
  · refine Run.go (fun _ k => XS.ifYes X0.here hx rfl (pc0 := 13) (pc' := 20) rfl (hb hby d3_13) rfl ((if0 _ _).trans (flt (mt (lw_lt (((p1 - p2).toInt64) &&& (4294967295 : Int64)) (p3.toInt64)).mp hc7)).2.1) (by decide) (by decide) k) ?_
    show Run p e below s 0 0 (Q_rm3 Z p1 p2 p3 h0 n0) (s₁.setTop (mkF m 20 #[.val (.int p1), .val (.int p2), .val (.int p3), .val (.long (((p1 - p2).toInt64) &&& (4294967295 : Int64))), .second] []))
    refine Run.go (fun _ k => XS.iconst X0.here hx rfl (hb hby d3_20) k) ?_
    show Run p e below s 0 0 (Q_rm3 Z p1 p2 p3 h0 n0) (s₁.setTop (mkF m 21 #[.val (.int p1), .val (.int p2), .val (.int p3), .val (.long (((p1 - p2).toInt64) &&& (4294967295 : Int64))), .second] [(.int (0 : Int32))]))
    exact J4 _ (if_neg hc7).symm _ _ X0 e0 N0
theorem d2_0 : decode method_3_code 0 = .ok (.iload_n 0, 1) := by decide +kernel
theorem d2_1 : decode method_3_code 1 = .ok (.bipush 97, 2) := by decide +kernel
theorem d2_3 : decode method_3_code 3 = .ok (.bipush 26, 2) := by decide +kernel
theorem d2_5 : decode method_3_code 5 = .ok (.invokestatic 9, 3) := by decide +kernel
theorem pd_0 : parseMethodDescriptor "(III)Z" = some ⟨[.int, .int, .int], some .boolean⟩ := by decide +kernel
theorem d2_8 : decode method_3_code 8 = .ok (.ifCond .eq 5, 3) := by decide +kernel
theorem d2_13 : decode method_3_code 13 = .ok (.iload_n 0, 1) := by decide +kernel
theorem d2_14 : decode method_3_code 14 = .ok (.bipush 65, 2) := by decide +kernel
theorem d2_16 : decode method_3_code 16 = .ok (.bipush 26, 2) := by decide +kernel
theorem d2_18 : decode method_3_code 18 = .ok (.invokestatic 9, 3) := by decide +kernel
theorem d2_21 : decode method_3_code 21 = .ok (.ifCond .eq 5, 3) := by decide +kernel
theorem d2_26 : decode method_3_code 26 = .ok (.iload_n 0, 1) := by decide +kernel
theorem d2_27 : decode method_3_code 27 = .ok (.bipush 48, 2) := by decide +kernel
theorem d2_29 : decode method_3_code 29 = .ok (.bipush 10, 2) := by decide +kernel
theorem d2_31 : decode method_3_code 31 = .ok (.invokestatic 9, 3) := by decide +kernel
theorem d2_34 : decode method_3_code 34 = .ok (.ifCond .eq 5, 3) := by decide +kernel
theorem d2_39 : decode method_3_code 39 = .ok (.iload_n 0, 1) := by decide +kernel
theorem d2_40 : decode method_3_code 40 = .ok (.bipush 95, 2) := by decide +kernel
theorem d2_42 : decode method_3_code 42 = .ok (.if_icmp .ne 7, 3) := by decide +kernel
theorem d2_45 : decode method_3_code 45 = .ok (.iconst 1, 1) := by decide +kernel
theorem d2_46 : decode method_3_code 46 = .ok (.goto 4, 3) := by decide +kernel
theorem d2_49 : decode method_3_code 49 = .ok (.iconst 0, 1) := by decide +kernel
theorem d2_50 : decode method_3_code 50 = .ok (.ireturn, 1) := by decide +kernel
theorem d2_37 : decode method_3_code 37 = .ok (.iconst 1, 1) := by decide +kernel
theorem d2_38 : decode method_3_code 38 = .ok (.ireturn, 1) := by decide +kernel
theorem d2_24 : decode method_3_code 24 = .ok (.iconst 1, 1) := by decide +kernel
theorem d2_25 : decode method_3_code 25 = .ok (.ireturn, 1) := by decide +kernel
theorem d2_11 : decode method_3_code 11 = .ok (.iconst 1, 1) := by decide +kernel
theorem d2_12 : decode method_3_code 12 = .ok (.ireturn, 1) := by decide +kernel
def F_rm2 (p1 : Int32) : Int32 := (if ((F_rm3 p1 (97 : Int32) (26 : Int32)) = (0 : Int32)) then (if ((F_rm3 p1 (65 : Int32) (26 : Int32)) = (0 : Int32)) then (if ((F_rm3 p1 (48 : Int32) (10 : Int32)) = (0 : Int32)) then (if (p1 = (95 : Int32)) then (1 : Int32) else 0) else (1 : Int32)) else (1 : Int32)) else (1 : Int32))
theorem F_rm2_b (p1 : Int32) : (F_rm2 p1) = 0 ∨ (F_rm2 p1) = 1 := by unfold F_rm2; (repeat' split) <;> simp
def Q_rm2 (Z : State) (p1 : Int32) (h0 : Heap) (n0 : Nat) (v : Option Value) (h : Heap) (L : List Loc) : Prop := v = some (.int (F_rm2 p1)) ∧ Fr n0 L ∧ h = h0
theorem ef_rm2 (m : MethodId) (x0 : Int32) : entryFrame m #[(.int x0)] 1 = mkF m 0 #[.val (.int x0)] [] := by first | (simp [entryFrame, mkF, argsToLocals, Value.category]; done) | rfl
set_option maxRecDepth 65536 in
set_option maxHeartbeats 40000000 in
theorem rm2 (l : Launch) (Z : State) (a0 : Array Value) (hw : ∀ d ∈ tables_1, d.before a0 Z = true) (ws : List Jvm.Cond) (p1 : Int32) (h0 : Heap) (n0 : Nat) (Z0 : n0 ≤ h0.size)  :
    MetFree l (⟨"com/example/exact_table/exacttable/ExpressionAttributesIsPlaceholderCharacterPinLaw", "reference", "(I)Z"⟩ : MethodName) (head1 (Jvm.Cond.code (⟨"com/example/exact_table/exacttable/ExpressionAttributesIsPlaceholderCharacterPinLaw", "reference", "(I)Z"⟩ : MethodName) method_3_code 1 (some .boolean) :: ws) ({ frames := 1, cells := 0, slots := 0, locals := 16 } : Room)) (fun a U => a = #[(.int p1)] ∧ Z.Warmed39 U.vm ∧ U.heap = h0) (fun _ _ _ _ _ => True) (fun _ U o U' => ∃ v L, o = .returned v ∧ Q_rm2 Z p1 h0 n0 v U'.heap L ∧ FrameEnd U o U' L ({ frames := 1, cells := 0, slots := 0, locals := 16 } : Room).cells ({ frames := 1, cells := 0, slots := 0, locals := 16 } : Room).slots) := by
  refine MetFree.of_bodySF (plainFor_of_name pn_0) hisR ?_
  intro p e s m args below meth c s₁ Bd hml0 hP hK
  obtain ⟨rfl, hZ, hh⟩ := hP
  have hx := Bd.exec
  have hby := Bd.bytes
  have hml : c.maxLocals = 1 := hml0
  have hown : s.vm.findClass "com/example/exact_table/exacttable/ExpressionAttributesIsPlaceholderCharacterPinLaw" = some m.cls := findClass_of_methodNamed Bd.named
  have hnm := (name_of_methodNamed Bd.named Bd.method).1
  have X0 : Stand p l e ({ frames := 1, cells := 0, slots := 0, locals := 16 } : Room) s m #[(.int p1)] below meth c s₁ [] 0 0 := Stand.of_body Bd
  have e0 : s₁.heap = h0 := by rw [← hh, Bd.state]; rfl
  have N0 := Fr.nil n0
  show Run p e below s 0 0 (Q_rm2 Z p1 h0 n0) (s₁.setTop (entryFrame m #[(.int p1)] 1))
  refine Run.go (fun _ k => castTop (ef_rm2 m p1) k) ?_
  show Run p e below s 0 0 (Q_rm2 Z p1 h0 n0) (s₁.setTop (mkF m 0 #[.val (.int p1)] []))
  refine Run.go (fun _ k => XS.iloadN X0.here hx rfl (hb hby d2_0) rfl  k) ?_
  show Run p e below s 0 0 (Q_rm2 Z p1 h0 n0) (s₁.setTop (mkF m 1 #[.val (.int p1)] [(.int p1)]))
  refine Run.go (fun _ k => XS.bipush X0.here hx rfl (hb hby d2_1) k) ?_
  show Run p e below s 0 0 (Q_rm2 Z p1 h0 n0) (s₁.setTop (mkF m 3 #[.val (.int p1)] [(.int (97 : Int32)), (.int p1)]))
  refine Run.go (fun _ k => XS.bipush X0.here hx rfl (hb hby d2_3) k) ?_
  show Run p e below s 0 0 (Q_rm2 Z p1 h0 n0) (s₁.setTop (mkF m 5 #[.val (.int p1)] [(.int (26 : Int32)), (.int (97 : Int32)), (.int p1)]))
  obtain ⟨_, _, ⟨T2, L2, k2, n2⟩, -, X2, ⟨Lc2, hQ2, l2, y2, z2⟩, st2⟩ := Jvm.LawKit.callS X0 hx (y := (⟨"com/example/exact_table/exacttable/ExpressionAttributesIsPlaceholderCharacterPinLaw", "inRange", "(III)Z"⟩ : MethodName)) hown (mvT hZ (hw _ (List.mem_of_getElem? (i := 12) rfl))) (mvT hZ (hw _ (List.mem_of_getElem? (i := 13) rfl))) (mvT hZ (hw _ (List.mem_of_getElem? (i := 10) rfl))) (mvT hZ (hw _ (List.mem_of_getElem? (i := 14) rfl))) (by decide) (backOf (W := 0) (rm3 l Z a0 hw [] p1 (97 : Int32) (26 : Int32) h0 n0 Z0 ) hZ (hw _ (List.mem_of_getElem? (i := 14) rfl)) (hw _ (List.mem_of_getElem? (i := 10) rfl)) (by decide) (by decide)) (g := (mkF m 5 #[.val (.int p1)] [(.int (26 : Int32)), (.int (97 : Int32)), (.int p1)])) rfl (by rw [hml]; rfl) (argsL := [(.int p1), (.int (97 : Int32)), (.int (26 : Int32))]) (rest := []) (lenOf pd_0 rfl) rfl (by show 2 * 0 + _ ≤ _; exact Nat.le_of_eq rfl) (hb hby d2_5) (fun _ _ => ⟨rfl, e0, (by decide : 0 + 0 ≤ _), (by decide : 0 + 0 ≤ _)⟩)
  dsimp only [Pt.U, Pt.locs, Pt.cells, Pt.slots] at X2 l2 y2 z2 st2 hQ2
  subst l2 y2 z2
  obtain ⟨rfl, N2q, e2q⟩ := hQ2
  have N2 := Fr.app N0 N2q
  obtain ⟨Lg2, Xg2, Ng2⟩ := Stand_gen X2 N2
  refine Run.go st2 ?_
  show Run p e below s 0 0 (Q_rm2 Z p1 h0 n0) (T2.setTop (mkF m 8 #[.val (.int p1)] [(.int (F_rm3 p1 (97 : Int32) (26 : Int32)))]))
  by_cases hc3 : ((F_rm3 p1 (97 : Int32) (26 : Int32)) = (0 : Int32))
  · refine Run.go (fun _ k => XS.ifYes Xg2.here hx rfl (pc0 := 8) (pc' := 13) rfl (hb hby d2_8) rfl ((if0 _ _).trans (teq hc3).1) (by decide) (by decide) k) ?_
    show Run p e below s 0 0 (Q_rm2 Z p1 h0 n0) (T2.setTop (mkF m 13 #[.val (.int p1)] []))
    refine Run.go (fun _ k => XS.iloadN Xg2.here hx rfl (hb hby d2_13) rfl  k) ?_
    show Run p e below s 0 0 (Q_rm2 Z p1 h0 n0) (T2.setTop (mkF m 14 #[.val (.int p1)] [(.int p1)]))
    refine Run.go (fun _ k => XS.bipush Xg2.here hx rfl (hb hby d2_14) k) ?_
    show Run p e below s 0 0 (Q_rm2 Z p1 h0 n0) (T2.setTop (mkF m 16 #[.val (.int p1)] [(.int (65 : Int32)), (.int p1)]))
    refine Run.go (fun _ k => XS.bipush Xg2.here hx rfl (hb hby d2_16) k) ?_
    show Run p e below s 0 0 (Q_rm2 Z p1 h0 n0) (T2.setTop (mkF m 18 #[.val (.int p1)] [(.int (26 : Int32)), (.int (65 : Int32)), (.int p1)]))
    obtain ⟨_, _, ⟨T4, L4, k4, n4⟩, -, X4, ⟨Lc4, hQ4, l4, y4, z4⟩, st4⟩ := Jvm.LawKit.callS Xg2 hx (y := (⟨"com/example/exact_table/exacttable/ExpressionAttributesIsPlaceholderCharacterPinLaw", "inRange", "(III)Z"⟩ : MethodName)) hown (mvT hZ (hw _ (List.mem_of_getElem? (i := 12) rfl))) (mvT hZ (hw _ (List.mem_of_getElem? (i := 13) rfl))) (mvT hZ (hw _ (List.mem_of_getElem? (i := 10) rfl))) (mvT hZ (hw _ (List.mem_of_getElem? (i := 14) rfl))) (by decide) (backOf (W := 0) (rm3 l Z a0 hw [] p1 (65 : Int32) (26 : Int32) h0 n0 Z0 ) hZ (hw _ (List.mem_of_getElem? (i := 14) rfl)) (hw _ (List.mem_of_getElem? (i := 10) rfl)) (by decide) (by decide)) (g := (mkF m 18 #[.val (.int p1)] [(.int (26 : Int32)), (.int (65 : Int32)), (.int p1)])) rfl (by rw [hml]; rfl) (argsL := [(.int p1), (.int (65 : Int32)), (.int (26 : Int32))]) (rest := []) (lenOf pd_0 rfl) rfl (by show 2 * 0 + _ ≤ _; exact Nat.le_of_eq rfl) (hb hby d2_18) (fun _ _ => ⟨rfl, e2q, (by decide : 0 + 0 ≤ _), (by decide : 0 + 0 ≤ _)⟩)
    dsimp only [Pt.U, Pt.locs, Pt.cells, Pt.slots] at X4 l4 y4 z4 st4 hQ4
    subst l4 y4 z4
    obtain ⟨rfl, N4q, e4q⟩ := hQ4
    have N4 := Fr.app Ng2 N4q
    obtain ⟨Lg4, Xg4, Ng4⟩ := Stand_gen X4 N4
    refine Run.go st4 ?_
    show Run p e below s 0 0 (Q_rm2 Z p1 h0 n0) (T4.setTop (mkF m 21 #[.val (.int p1)] [(.int (F_rm3 p1 (65 : Int32) (26 : Int32)))]))
    by_cases hc5 : ((F_rm3 p1 (65 : Int32) (26 : Int32)) = (0 : Int32))
    · refine Run.go (fun _ k => XS.ifYes Xg4.here hx rfl (pc0 := 21) (pc' := 26) rfl (hb hby d2_21) rfl ((if0 _ _).trans (teq hc5).1) (by decide) (by decide) k) ?_
      show Run p e below s 0 0 (Q_rm2 Z p1 h0 n0) (T4.setTop (mkF m 26 #[.val (.int p1)] []))
      refine Run.go (fun _ k => XS.iloadN Xg4.here hx rfl (hb hby d2_26) rfl  k) ?_
      show Run p e below s 0 0 (Q_rm2 Z p1 h0 n0) (T4.setTop (mkF m 27 #[.val (.int p1)] [(.int p1)]))
      refine Run.go (fun _ k => XS.bipush Xg4.here hx rfl (hb hby d2_27) k) ?_
      show Run p e below s 0 0 (Q_rm2 Z p1 h0 n0) (T4.setTop (mkF m 29 #[.val (.int p1)] [(.int (48 : Int32)), (.int p1)]))
      refine Run.go (fun _ k => XS.bipush Xg4.here hx rfl (hb hby d2_29) k) ?_
      show Run p e below s 0 0 (Q_rm2 Z p1 h0 n0) (T4.setTop (mkF m 31 #[.val (.int p1)] [(.int (10 : Int32)), (.int (48 : Int32)), (.int p1)]))
      obtain ⟨_, _, ⟨T6, L6, k6, n6⟩, -, X6, ⟨Lc6, hQ6, l6, y6, z6⟩, st6⟩ := Jvm.LawKit.callS Xg4 hx (y := (⟨"com/example/exact_table/exacttable/ExpressionAttributesIsPlaceholderCharacterPinLaw", "inRange", "(III)Z"⟩ : MethodName)) hown (mvT hZ (hw _ (List.mem_of_getElem? (i := 12) rfl))) (mvT hZ (hw _ (List.mem_of_getElem? (i := 13) rfl))) (mvT hZ (hw _ (List.mem_of_getElem? (i := 10) rfl))) (mvT hZ (hw _ (List.mem_of_getElem? (i := 14) rfl))) (by decide) (backOf (W := 0) (rm3 l Z a0 hw [] p1 (48 : Int32) (10 : Int32) h0 n0 Z0 ) hZ (hw _ (List.mem_of_getElem? (i := 14) rfl)) (hw _ (List.mem_of_getElem? (i := 10) rfl)) (by decide) (by decide)) (g := (mkF m 31 #[.val (.int p1)] [(.int (10 : Int32)), (.int (48 : Int32)), (.int p1)])) rfl (by rw [hml]; rfl) (argsL := [(.int p1), (.int (48 : Int32)), (.int (10 : Int32))]) (rest := []) (lenOf pd_0 rfl) rfl (by show 2 * 0 + _ ≤ _; exact Nat.le_of_eq rfl) (hb hby d2_31) (fun _ _ => ⟨rfl, e4q, (by decide : 0 + 0 ≤ _), (by decide : 0 + 0 ≤ _)⟩)
      dsimp only [Pt.U, Pt.locs, Pt.cells, Pt.slots] at X6 l6 y6 z6 st6 hQ6
      subst l6 y6 z6
      obtain ⟨rfl, N6q, e6q⟩ := hQ6
      have N6 := Fr.app Ng4 N6q
      obtain ⟨Lg6, Xg6, Ng6⟩ := Stand_gen X6 N6
      refine Run.go st6 ?_
      show Run p e below s 0 0 (Q_rm2 Z p1 h0 n0) (T6.setTop (mkF m 34 #[.val (.int p1)] [(.int (F_rm3 p1 (48 : Int32) (10 : Int32)))]))
      by_cases hc7 : ((F_rm3 p1 (48 : Int32) (10 : Int32)) = (0 : Int32))
      · refine Run.go (fun _ k => XS.ifYes Xg6.here hx rfl (pc0 := 34) (pc' := 39) rfl (hb hby d2_34) rfl ((if0 _ _).trans (teq hc7).1) (by decide) (by decide) k) ?_
        show Run p e below s 0 0 (Q_rm2 Z p1 h0 n0) (T6.setTop (mkF m 39 #[.val (.int p1)] []))
        refine Run.go (fun _ k => XS.iloadN Xg6.here hx rfl (hb hby d2_39) rfl  k) ?_
        show Run p e below s 0 0 (Q_rm2 Z p1 h0 n0) (T6.setTop (mkF m 40 #[.val (.int p1)] [(.int p1)]))
        refine Run.go (fun _ k => XS.bipush Xg6.here hx rfl (hb hby d2_40) k) ?_
        show Run p e below s 0 0 (Q_rm2 Z p1 h0 n0) (T6.setTop (mkF m 42 #[.val (.int p1)] [(.int (95 : Int32)), (.int p1)]))
        have J8 : ∀ (w9 : Int32) (hw9 : w9 = (if (p1 = (95 : Int32)) then (1 : Int32) else 0)) (T10 : State) (L10 : List Loc) (X10 : Stand p l e ({ frames := 1, cells := 0, slots := 0, locals := 16 } : Room) s m #[(.int p1)] below meth c T10 L10 0 0) (e10 : T10.heap = h0) (N10 : Fr n0 L10), Run p e below s 0 0 (Q_rm2 Z p1 h0 n0) (T10.setTop (mkF m 50 #[.val (.int p1)] [(.int w9)])) := by
          intro w9 hw9 T10 L10 X10 e10 N10
          show Run p e below s 0 0 (Q_rm2 Z p1 h0 n0) (T10.setTop (mkF m 50 #[.val (.int p1)] [(.int w9)]))
          refine Run.retN (y := w9) X10 hx (t := .boolean) Bd.returns (by simp) (by rw [hw9]; exact nar_ite _) Bd.notSynchronized (hb hby d2_50) (by decide) (by decide) ?_
          show Q_rm2 Z p1 h0 n0 _ T10.heap _
          exact ⟨congrArg some (congrArg Value.int (show w9 = (F_rm2 p1) from (by subst hw9; unfold F_rm2; rw [if_pos hc3, if_pos hc5, if_pos hc7]))), N10, e10⟩
        by_cases hc11 : (p1 = (95 : Int32))
        · refine Run.go (fun _ k => XS.icmpNo Xg6.here hx rfl (hb hby d2_42) rfl (teq hc11).2 k) ?_
          show Run p e below s 0 0 (Q_rm2 Z p1 h0 n0) (T6.setTop (mkF m 45 #[.val (.int p1)] []))
          refine Run.go (fun _ k => XS.iconst Xg6.here hx rfl (hb hby d2_45) k) ?_
          show Run p e below s 0 0 (Q_rm2 Z p1 h0 n0) (T6.setTop (mkF m 46 #[.val (.int p1)] [(.int (1 : Int32))]))
          refine Run.go (fun _ k => XS.goto Xg6.here hx rfl (pc0 := 46) (pc' := 50) rfl (hb hby d2_46) (by decide) (by decide) k) ?_
          show Run p e below s 0 0 (Q_rm2 Z p1 h0 n0) (T6.setTop (mkF m 50 #[.val (.int p1)] [(.int (1 : Int32))]))
          exact J8 _ (if_pos hc11).symm _ _ Xg6 e6q Ng6
        · refine Run.go (fun _ k => XS.icmpYes Xg6.here hx rfl (pc0 := 42) (pc' := 49) rfl (hb hby d2_42) rfl (feq hc11).2 (by decide) (by decide) k) ?_
          show Run p e below s 0 0 (Q_rm2 Z p1 h0 n0) (T6.setTop (mkF m 49 #[.val (.int p1)] []))
          refine Run.go (fun _ k => XS.iconst Xg6.here hx rfl (hb hby d2_49) k) ?_
          show Run p e below s 0 0 (Q_rm2 Z p1 h0 n0) (T6.setTop (mkF m 50 #[.val (.int p1)] [(.int (0 : Int32))]))
          exact J8 _ (if_neg hc11).symm _ _ Xg6 e6q Ng6
      · refine Run.go (fun _ k => XS.ifNo Xg6.here hx rfl (hb hby d2_34) rfl ((if0 _ _).trans (feq hc7).1) k) ?_
        show Run p e below s 0 0 (Q_rm2 Z p1 h0 n0) (T6.setTop (mkF m 37 #[.val (.int p1)] []))
        refine Run.go (fun _ k => XS.iconst Xg6.here hx rfl (hb hby d2_37) k) ?_
        show Run p e below s 0 0 (Q_rm2 Z p1 h0 n0) (T6.setTop (mkF m 38 #[.val (.int p1)] [(.int (1 : Int32))]))
        refine Run.retN (y := (1 : Int32)) Xg6 hx (t := .boolean) Bd.returns (by simp) rfl Bd.notSynchronized (hb hby d2_38) (by decide) (by decide) ?_
        show Q_rm2 Z p1 h0 n0 _ T6.heap _
        exact ⟨congrArg some (congrArg Value.int (show (1 : Int32) = (F_rm2 p1) from (by unfold F_rm2; rw [if_pos hc3, if_pos hc5, if_neg hc7]))), Ng6, e6q⟩
    · refine Run.go (fun _ k => XS.ifNo Xg4.here hx rfl (hb hby d2_21) rfl ((if0 _ _).trans (feq hc5).1) k) ?_
      show Run p e below s 0 0 (Q_rm2 Z p1 h0 n0) (T4.setTop (mkF m 24 #[.val (.int p1)] []))
      refine Run.go (fun _ k => XS.iconst Xg4.here hx rfl (hb hby d2_24) k) ?_
      show Run p e below s 0 0 (Q_rm2 Z p1 h0 n0) (T4.setTop (mkF m 25 #[.val (.int p1)] [(.int (1 : Int32))]))
      refine Run.retN (y := (1 : Int32)) Xg4 hx (t := .boolean) Bd.returns (by simp) rfl Bd.notSynchronized (hb hby d2_25) (by decide) (by decide) ?_
      show Q_rm2 Z p1 h0 n0 _ T4.heap _
      exact ⟨congrArg some (congrArg Value.int (show (1 : Int32) = (F_rm2 p1) from (by unfold F_rm2; rw [if_pos hc3, if_neg hc5]))), Ng4, e4q⟩
  · refine Run.go (fun _ k => XS.ifNo Xg2.here hx rfl (hb hby d2_8) rfl ((if0 _ _).trans (feq hc3).1) k) ?_
    show Run p e below s 0 0 (Q_rm2 Z p1 h0 n0) (T2.setTop (mkF m 11 #[.val (.int p1)] []))
    refine Run.go (fun _ k => XS.iconst Xg2.here hx rfl (hb hby d2_11) k) ?_
    show Run p e below s 0 0 (Q_rm2 Z p1 h0 n0) (T2.setTop (mkF m 12 #[.val (.int p1)] [(.int (1 : Int32))]))
    refine Run.retN (y := (1 : Int32)) Xg2 hx (t := .boolean) Bd.returns (by simp) rfl Bd.notSynchronized (hb hby d2_12) (by decide) (by decide) ?_
    show Q_rm2 Z p1 h0 n0 _ T2.heap _
    exact ⟨congrArg some (congrArg Value.int (show (1 : Int32) = (F_rm2 p1) from (by unfold F_rm2; rw [if_neg hc3]))), Ng2, e2q⟩
theorem d1_0 : decode prog_31_method_3_code 0 = .ok (.iload_n 0, 1) := by decide +kernel
theorem d1_1 : decode prog_31_method_3_code 1 = .ok (.bipush 97, 2) := by decide +kernel
theorem d1_3 : decode prog_31_method_3_code 3 = .ok (.if_icmp .lt 9, 3) := by decide +kernel
theorem d1_12 : decode prog_31_method_3_code 12 = .ok (.iload_n 0, 1) := by decide +kernel
theorem d1_13 : decode prog_31_method_3_code 13 = .ok (.bipush 65, 2) := by decide +kernel
theorem d1_15 : decode prog_31_method_3_code 15 = .ok (.if_icmp .lt 9, 3) := by decide +kernel
theorem d1_24 : decode prog_31_method_3_code 24 = .ok (.iload_n 0, 1) := by decide +kernel
theorem d1_25 : decode prog_31_method_3_code 25 = .ok (.bipush 48, 2) := by decide +kernel
theorem d1_27 : decode prog_31_method_3_code 27 = .ok (.if_icmp .lt 9, 3) := by decide +kernel
theorem d1_36 : decode prog_31_method_3_code 36 = .ok (.iload_n 0, 1) := by decide +kernel
theorem d1_37 : decode prog_31_method_3_code 37 = .ok (.bipush 95, 2) := by decide +kernel
theorem d1_39 : decode prog_31_method_3_code 39 = .ok (.if_icmp .ne 7, 3) := by decide +kernel
theorem d1_42 : decode prog_31_method_3_code 42 = .ok (.iconst 1, 1) := by decide +kernel
theorem d1_43 : decode prog_31_method_3_code 43 = .ok (.goto 4, 3) := by decide +kernel
theorem d1_46 : decode prog_31_method_3_code 46 = .ok (.iconst 0, 1) := by decide +kernel
theorem d1_30 : decode prog_31_method_3_code 30 = .ok (.iload_n 0, 1) := by decide +kernel
theorem d1_31 : decode prog_31_method_3_code 31 = .ok (.bipush 57, 2) := by decide +kernel
theorem d1_33 : decode prog_31_method_3_code 33 = .ok (.if_icmp .le 9, 3) := by decide +kernel
theorem d1_18 : decode prog_31_method_3_code 18 = .ok (.iload_n 0, 1) := by decide +kernel
theorem d1_19 : decode prog_31_method_3_code 19 = .ok (.bipush 90, 2) := by decide +kernel
theorem d1_21 : decode prog_31_method_3_code 21 = .ok (.if_icmp .le 21, 3) := by decide +kernel
theorem d1_6 : decode prog_31_method_3_code 6 = .ok (.iload_n 0, 1) := by decide +kernel
theorem d1_7 : decode prog_31_method_3_code 7 = .ok (.bipush 122, 2) := by decide +kernel
theorem d1_9 : decode prog_31_method_3_code 9 = .ok (.if_icmp .le 33, 3) := by decide +kernel
theorem d1_47 : decode prog_31_method_3_code 47 = .ok (.ireturn, 1) := by decide +kernel
def F_rm1 (p1 : Int32) : Int32 := let w3 : Int32 := (if (((p1 < (97 : Int32)) ∧ (((p1 < (65 : Int32)) ∧ (((p1 < (48 : Int32)) ∧ (p1 = (95 : Int32))) ∨ ((¬ (p1 < (48 : Int32))) ∧ ((¬ ((57 : Int32) < p1)) ∨ (p1 = (95 : Int32)))))) ∨ ((¬ (p1 < (65 : Int32))) ∧ ((¬ ((90 : Int32) < p1)) ∨ (((p1 < (48 : Int32)) ∧ (p1 = (95 : Int32))) ∨ ((¬ (p1 < (48 : Int32))) ∧ ((¬ ((57 : Int32) < p1)) ∨ (p1 = (95 : Int32))))))))) ∨ ((¬ (p1 < (97 : Int32))) ∧ ((¬ ((122 : Int32) < p1)) ∨ (((p1 < (65 : Int32)) ∧ (((p1 < (48 : Int32)) ∧ (p1 = (95 : Int32))) ∨ ((¬ (p1 < (48 : Int32))) ∧ ((¬ ((57 : Int32) < p1)) ∨ (p1 = (95 : Int32)))))) ∨ ((¬ (p1 < (65 : Int32))) ∧ ((¬ ((90 : Int32) < p1)) ∨ (((p1 < (48 : Int32)) ∧ (p1 = (95 : Int32))) ∨ ((¬ (p1 < (48 : Int32))) ∧ ((¬ ((57 : Int32) < p1)) ∨ (p1 = (95 : Int32))))))))))) then (1 : Int32) else 0); w3
def Q_rm1 (Z : State) (p1 : Int32) (h0 : Heap) (n0 : Nat) (v : Option Value) (h : Heap) (L : List Loc) : Prop := v = some (.int (F_rm1 p1)) ∧ Fr n0 L ∧ h = h0
theorem ef_rm1 (m : MethodId) (x0 : Int32) : entryFrame m #[(.int x0)] 1 = mkF m 0 #[.val (.int x0)] [] := by first | (simp [entryFrame, mkF, argsToLocals, Value.category]; done) | rfl
theorem pn_1 : plainName "com/example/exact_table/exacttable/ExpressionAttributes" = true := by first | (simp [plainName, overriddenIn]; done) | decide +kernel
set_option maxRecDepth 65536 in
set_option maxHeartbeats 40000000 in
theorem rm1 (l : Launch) (Z : State) (a0 : Array Value) (hw : ∀ d ∈ tables_1, d.before a0 Z = true) (ws : List Jvm.Cond) (p1 : Int32) (h0 : Heap) (n0 : Nat) (Z0 : n0 ≤ h0.size)  :
    MetFree l (⟨"com/example/exact_table/exacttable/ExpressionAttributes", "isPlaceholderCharacter", "(I)Z"⟩ : MethodName) (head1 (Jvm.Cond.code (⟨"com/example/exact_table/exacttable/ExpressionAttributes", "isPlaceholderCharacter", "(I)Z"⟩ : MethodName) prog_31_method_3_code 1 (some .boolean) :: ws) ({ frames := 0, cells := 0, slots := 0, locals := 0 } : Room)) (fun a U => a = #[(.int p1)] ∧ Z.Warmed39 U.vm ∧ U.heap = h0) (fun _ _ _ _ _ => True) (fun _ U o U' => ∃ v L, o = .returned v ∧ Q_rm1 Z p1 h0 n0 v U'.heap L ∧ FrameEnd U o U' L ({ frames := 0, cells := 0, slots := 0, locals := 0 } : Room).cells ({ frames := 0, cells := 0, slots := 0, locals := 0 } : Room).slots) := by
  refine MetFree.of_bodySF (plainFor_of_name pn_1) hisR ?_
  intro p e s m args below meth c s₁ Bd hml0 hP hK
  obtain ⟨rfl, hZ, hh⟩ := hP
  have hx := Bd.exec
  have hby := Bd.bytes
  have hml : c.maxLocals = 1 := hml0
  have hown : s.vm.findClass "com/example/exact_table/exacttable/ExpressionAttributes" = some m.cls := findClass_of_methodNamed Bd.named
  have hnm := (name_of_methodNamed Bd.named Bd.method).1
  have X0 : Stand p l e ({ frames := 0, cells := 0, slots := 0, locals := 0 } : Room) s m #[(.int p1)] below meth c s₁ [] 0 0 := Stand.of_body Bd
  have e0 : s₁.heap = h0 := by rw [← hh, Bd.state]; rfl
  have N0 := Fr.nil n0
  show Run p e below s 0 0 (Q_rm1 Z p1 h0 n0) (s₁.setTop (entryFrame m #[(.int p1)] 1))
  refine Run.go (fun _ k => castTop (ef_rm1 m p1) k) ?_
  show Run p e below s 0 0 (Q_rm1 Z p1 h0 n0) (s₁.setTop (mkF m 0 #[.val (.int p1)] []))
  refine Run.go (fun _ k => XS.iloadN X0.here hx rfl (hb hby d1_0) rfl  k) ?_
  show Run p e below s 0 0 (Q_rm1 Z p1 h0 n0) (s₁.setTop (mkF m 1 #[.val (.int p1)] [(.int p1)]))
  refine Run.go (fun _ k => XS.bipush X0.here hx rfl (hb hby d1_1) k) ?_
  show Run p e below s 0 0 (Q_rm1 Z p1 h0 n0) (s₁.setTop (mkF m 3 #[.val (.int p1)] [(.int (97 : Int32)), (.int p1)]))
  have J2 : ∀ (w3 : Int32) (hw3 : w3 = (if (((p1 < (97 : Int32)) ∧ (((p1 < (65 : Int32)) ∧ (((p1 < (48 : Int32)) ∧ (p1 = (95 : Int32))) ∨ ((¬ (p1 < (48 : Int32))) ∧ ((¬ ((57 : Int32) < p1)) ∨ (p1 = (95 : Int32)))))) ∨ ((¬ (p1 < (65 : Int32))) ∧ ((¬ ((90 : Int32) < p1)) ∨ (((p1 < (48 : Int32)) ∧ (p1 = (95 : Int32))) ∨ ((¬ (p1 < (48 : Int32))) ∧ ((¬ ((57 : Int32) < p1)) ∨ (p1 = (95 : Int32))))))))) ∨ ((¬ (p1 < (97 : Int32))) ∧ ((¬ ((122 : Int32) < p1)) ∨ (((p1 < (65 : Int32)) ∧ (((p1 < (48 : Int32)) ∧ (p1 = (95 : Int32))) ∨ ((¬ (p1 < (48 : Int32))) ∧ ((¬ ((57 : Int32) < p1)) ∨ (p1 = (95 : Int32)))))) ∨ ((¬ (p1 < (65 : Int32))) ∧ ((¬ ((90 : Int32) < p1)) ∨ (((p1 < (48 : Int32)) ∧ (p1 = (95 : Int32))) ∨ ((¬ (p1 < (48 : Int32))) ∧ ((¬ ((57 : Int32) < p1)) ∨ (p1 = (95 : Int32))))))))))) then (1 : Int32) else 0)) (T4 : State) (L4 : List Loc) (X4 : Stand p l e ({ frames := 0, cells := 0, slots := 0, locals := 0 } : Room) s m #[(.int p1)] below meth c T4 L4 0 0) (e4 : T4.heap = h0) (N4 : Fr n0 L4), Run p e below s 0 0 (Q_rm1 Z p1 h0 n0) (T4.setTop (mkF m 47 #[.val (.int p1)] [(.int w3)])) := by
    intro w3 hw3 T4 L4 X4 e4 N4
    show Run p e below s 0 0 (Q_rm1 Z p1 h0 n0) (T4.setTop (mkF m 47 #[.val (.int p1)] [(.int w3)]))
    refine Run.retN (y := w3) X4 hx (t := .boolean) Bd.returns (by simp) (by rw [hw3]; exact nar_ite _) Bd.notSynchronized (hb hby d1_47) (by decide) (by decide) ?_
    show Q_rm1 Z p1 h0 n0 _ T4.heap _
    exact ⟨congrArg some (congrArg Value.int (show w3 = (F_rm1 p1) from (by subst hw3; unfold F_rm1; rfl))), N4, e4⟩
  by_cases hc5 : (p1 < (97 : Int32))
  · refine Run.go (fun _ k => XS.icmpYes X0.here hx rfl (pc0 := 3) (pc' := 12) rfl (hb hby d1_3) rfl (tlt hc5).1 (by decide) (by decide) k) ?_
    show Run p e below s 0 0 (Q_rm1 Z p1 h0 n0) (s₁.setTop (mkF m 12 #[.val (.int p1)] []))
    refine Run.go (fun _ k => XS.iloadN X0.here hx rfl (hb hby d1_12) rfl  k) ?_
    show Run p e below s 0 0 (Q_rm1 Z p1 h0 n0) (s₁.setTop (mkF m 13 #[.val (.int p1)] [(.int p1)]))
    refine Run.go (fun _ k => XS.bipush X0.here hx rfl (hb hby d1_13) k) ?_
    show Run p e below s 0 0 (Q_rm1 Z p1 h0 n0) (s₁.setTop (mkF m 15 #[.val (.int p1)] [(.int (65 : Int32)), (.int p1)]))
    by_cases hc6 : (p1 < (65 : Int32))
    · refine Run.go (fun _ k => XS.icmpYes X0.here hx rfl (pc0 := 15) (pc' := 24) rfl (hb hby d1_15) rfl (tlt hc6).1 (by decide) (by decide) k) ?_
      show Run p e below s 0 0 (Q_rm1 Z p1 h0 n0) (s₁.setTop (mkF m 24 #[.val (.int p1)] []))
      refine Run.go (fun _ k => XS.iloadN X0.here hx rfl (hb hby d1_24) rfl  k) ?_
      show Run p e below s 0 0 (Q_rm1 Z p1 h0 n0) (s₁.setTop (mkF m 25 #[.val (.int p1)] [(.int p1)]))
      refine Run.go (fun _ k => XS.bipush X0.here hx rfl (hb hby d1_25) k) ?_
      show Run p e below s 0 0 (Q_rm1 Z p1 h0 n0) (s₁.setTop (mkF m 27 #[.val (.int p1)] [(.int (48 : Int32)), (.int p1)]))
      by_cases hc7 : (p1 < (48 : Int32))
      · refine Run.go (fun _ k => XS.icmpYes X0.here hx rfl (pc0 := 27) (pc' := 36) rfl (hb hby d1_27) rfl (tlt hc7).1 (by decide) (by decide) k) ?_
        show Run p e below s 0 0 (Q_rm1 Z p1 h0 n0) (s₁.setTop (mkF m 36 #[.val (.int p1)] []))
        refine Run.go (fun _ k => XS.iloadN X0.here hx rfl (hb hby d1_36) rfl  k) ?_
        show Run p e below s 0 0 (Q_rm1 Z p1 h0 n0) (s₁.setTop (mkF m 37 #[.val (.int p1)] [(.int p1)]))
        refine Run.go (fun _ k => XS.bipush X0.here hx rfl (hb hby d1_37) k) ?_
        show Run p e below s 0 0 (Q_rm1 Z p1 h0 n0) (s₁.setTop (mkF m 39 #[.val (.int p1)] [(.int (95 : Int32)), (.int p1)]))
        by_cases hc8 : (p1 = (95 : Int32))
        · refine Run.go (fun _ k => XS.icmpNo X0.here hx rfl (hb hby d1_39) rfl (teq hc8).2 k) ?_
          show Run p e below s 0 0 (Q_rm1 Z p1 h0 n0) (s₁.setTop (mkF m 42 #[.val (.int p1)] []))
          refine Run.go (fun _ k => XS.iconst X0.here hx rfl (hb hby d1_42) k) ?_
          show Run p e below s 0 0 (Q_rm1 Z p1 h0 n0) (s₁.setTop (mkF m 43 #[.val (.int p1)] [(.int (1 : Int32))]))
          refine Run.go (fun _ k => XS.goto X0.here hx rfl (pc0 := 43) (pc' := 47) rfl (hb hby d1_43) (by decide) (by decide) k) ?_
          show Run p e below s 0 0 (Q_rm1 Z p1 h0 n0) (s₁.setTop (mkF m 47 #[.val (.int p1)] [(.int (1 : Int32))]))
          exact J2 _ (if_pos (Or.inl ⟨hc5, (Or.inl ⟨hc6, (Or.inl ⟨hc7, hc8⟩)⟩)⟩)).symm _ _ X0 e0 N0
        · refine Run.go (fun _ k => XS.icmpYes X0.here hx rfl (pc0 := 39) (pc' := 46) rfl (hb hby d1_39) rfl (feq hc8).2 (by decide) (by decide) k) ?_
          show Run p e below s 0 0 (Q_rm1 Z p1 h0 n0) (s₁.setTop (mkF m 46 #[.val (.int p1)] []))
          refine Run.go (fun _ k => XS.iconst X0.here hx rfl (hb hby d1_46) k) ?_
          show Run p e below s 0 0 (Q_rm1 Z p1 h0 n0) (s₁.setTop (mkF m 47 #[.val (.int p1)] [(.int (0 : Int32))]))
          exact J2 _ (if_neg (fun q => q.elim (fun q => (fun q => q.elim (fun q => (fun q => q.elim (fun q => hc8 q.2) (fun q => (fun q => q hc7) q.1)) q.2) (fun q => (fun q => q hc6) q.1)) q.2) (fun q => (fun q => q hc5) q.1))).symm _ _ X0 e0 N0
      · refine Run.go (fun _ k => XS.icmpNo X0.here hx rfl (hb hby d1_27) rfl (flt hc7).1 k) ?_
        show Run p e below s 0 0 (Q_rm1 Z p1 h0 n0) (s₁.setTop (mkF m 30 #[.val (.int p1)] []))
        refine Run.go (fun _ k => XS.iloadN X0.here hx rfl (hb hby d1_30) rfl  k) ?_
        show Run p e below s 0 0 (Q_rm1 Z p1 h0 n0) (s₁.setTop (mkF m 31 #[.val (.int p1)] [(.int p1)]))
        refine Run.go (fun _ k => XS.bipush X0.here hx rfl (hb hby d1_31) k) ?_
        show Run p e below s 0 0 (Q_rm1 Z p1 h0 n0) (s₁.setTop (mkF m 33 #[.val (.int p1)] [(.int (57 : Int32)), (.int p1)]))
        by_cases hc9 : ((57 : Int32) < p1)
        · refine Run.go (fun _ k => XS.icmpNo X0.here hx rfl (hb hby d1_33) rfl (tlt hc9).2.2.2 k) ?_
          show Run p e below s 0 0 (Q_rm1 Z p1 h0 n0) (s₁.setTop (mkF m 36 #[.val (.int p1)] []))
          refine Run.go (fun _ k => XS.iloadN X0.here hx rfl (hb hby d1_36) rfl  k) ?_
          show Run p e below s 0 0 (Q_rm1 Z p1 h0 n0) (s₁.setTop (mkF m 37 #[.val (.int p1)] [(.int p1)]))
          refine Run.go (fun _ k => XS.bipush X0.here hx rfl (hb hby d1_37) k) ?_
          show Run p e below s 0 0 (Q_rm1 Z p1 h0 n0) (s₁.setTop (mkF m 39 #[.val (.int p1)] [(.int (95 : Int32)), (.int p1)]))
          by_cases hc10 : (p1 = (95 : Int32))
          · refine Run.go (fun _ k => XS.icmpNo X0.here hx rfl (hb hby d1_39) rfl (teq hc10).2 k) ?_
            show Run p e below s 0 0 (Q_rm1 Z p1 h0 n0) (s₁.setTop (mkF m 42 #[.val (.int p1)] []))
            refine Run.go (fun _ k => XS.iconst X0.here hx rfl (hb hby d1_42) k) ?_
            show Run p e below s 0 0 (Q_rm1 Z p1 h0 n0) (s₁.setTop (mkF m 43 #[.val (.int p1)] [(.int (1 : Int32))]))
            refine Run.go (fun _ k => XS.goto X0.here hx rfl (pc0 := 43) (pc' := 47) rfl (hb hby d1_43) (by decide) (by decide) k) ?_
            show Run p e below s 0 0 (Q_rm1 Z p1 h0 n0) (s₁.setTop (mkF m 47 #[.val (.int p1)] [(.int (1 : Int32))]))
            exact J2 _ (if_pos (Or.inl ⟨hc5, (Or.inl ⟨hc6, (Or.inr ⟨hc7, (Or.inr hc10)⟩)⟩)⟩)).symm _ _ X0 e0 N0
          · refine Run.go (fun _ k => XS.icmpYes X0.here hx rfl (pc0 := 39) (pc' := 46) rfl (hb hby d1_39) rfl (feq hc10).2 (by decide) (by decide) k) ?_
            show Run p e below s 0 0 (Q_rm1 Z p1 h0 n0) (s₁.setTop (mkF m 46 #[.val (.int p1)] []))
            refine Run.go (fun _ k => XS.iconst X0.here hx rfl (hb hby d1_46) k) ?_
            show Run p e below s 0 0 (Q_rm1 Z p1 h0 n0) (s₁.setTop (mkF m 47 #[.val (.int p1)] [(.int (0 : Int32))]))
            exact J2 _ (if_neg (fun q => q.elim (fun q => (fun q => q.elim (fun q => (fun q => q.elim (fun q => hc7 q.1) (fun q => (fun q => q.elim (fun q => q hc9) hc10) q.2)) q.2) (fun q => (fun q => q hc6) q.1)) q.2) (fun q => (fun q => q hc5) q.1))).symm _ _ X0 e0 N0
        · refine Run.go (fun _ k => XS.icmpYes X0.here hx rfl (pc0 := 33) (pc' := 42) rfl (hb hby d1_33) rfl (flt hc9).2.2.2 (by decide) (by decide) k) ?_
          show Run p e below s 0 0 (Q_rm1 Z p1 h0 n0) (s₁.setTop (mkF m 42 #[.val (.int p1)] []))
          refine Run.go (fun _ k => XS.iconst X0.here hx rfl (hb hby d1_42) k) ?_
          show Run p e below s 0 0 (Q_rm1 Z p1 h0 n0) (s₁.setTop (mkF m 43 #[.val (.int p1)] [(.int (1 : Int32))]))
          refine Run.go (fun _ k => XS.goto X0.here hx rfl (pc0 := 43) (pc' := 47) rfl (hb hby d1_43) (by decide) (by decide) k) ?_
          show Run p e below s 0 0 (Q_rm1 Z p1 h0 n0) (s₁.setTop (mkF m 47 #[.val (.int p1)] [(.int (1 : Int32))]))
          exact J2 _ (if_pos (Or.inl ⟨hc5, (Or.inl ⟨hc6, (Or.inr ⟨hc7, (Or.inl hc9)⟩)⟩)⟩)).symm _ _ X0 e0 N0
    · refine Run.go (fun _ k => XS.icmpNo X0.here hx rfl (hb hby d1_15) rfl (flt hc6).1 k) ?_
      show Run p e below s 0 0 (Q_rm1 Z p1 h0 n0) (s₁.setTop (mkF m 18 #[.val (.int p1)] []))
      refine Run.go (fun _ k => XS.iloadN X0.here hx rfl (hb hby d1_18) rfl  k) ?_
      show Run p e below s 0 0 (Q_rm1 Z p1 h0 n0) (s₁.setTop (mkF m 19 #[.val (.int p1)] [(.int p1)]))
      refine Run.go (fun _ k => XS.bipush X0.here hx rfl (hb hby d1_19) k) ?_
      show Run p e below s 0 0 (Q_rm1 Z p1 h0 n0) (s₁.setTop (mkF m 21 #[.val (.int p1)] [(.int (90 : Int32)), (.int p1)]))
      by_cases hc11 : ((90 : Int32) < p1)
      · refine Run.go (fun _ k => XS.icmpNo X0.here hx rfl (hb hby d1_21) rfl (tlt hc11).2.2.2 k) ?_
        show Run p e below s 0 0 (Q_rm1 Z p1 h0 n0) (s₁.setTop (mkF m 24 #[.val (.int p1)] []))
        refine Run.go (fun _ k => XS.iloadN X0.here hx rfl (hb hby d1_24) rfl  k) ?_
        show Run p e below s 0 0 (Q_rm1 Z p1 h0 n0) (s₁.setTop (mkF m 25 #[.val (.int p1)] [(.int p1)]))
        refine Run.go (fun _ k => XS.bipush X0.here hx rfl (hb hby d1_25) k) ?_
        show Run p e below s 0 0 (Q_rm1 Z p1 h0 n0) (s₁.setTop (mkF m 27 #[.val (.int p1)] [(.int (48 : Int32)), (.int p1)]))
        by_cases hc12 : (p1 < (48 : Int32))
        · refine Run.go (fun _ k => XS.icmpYes X0.here hx rfl (pc0 := 27) (pc' := 36) rfl (hb hby d1_27) rfl (tlt hc12).1 (by decide) (by decide) k) ?_
          show Run p e below s 0 0 (Q_rm1 Z p1 h0 n0) (s₁.setTop (mkF m 36 #[.val (.int p1)] []))
          refine Run.go (fun _ k => XS.iloadN X0.here hx rfl (hb hby d1_36) rfl  k) ?_
          show Run p e below s 0 0 (Q_rm1 Z p1 h0 n0) (s₁.setTop (mkF m 37 #[.val (.int p1)] [(.int p1)]))
          refine Run.go (fun _ k => XS.bipush X0.here hx rfl (hb hby d1_37) k) ?_
          show Run p e below s 0 0 (Q_rm1 Z p1 h0 n0) (s₁.setTop (mkF m 39 #[.val (.int p1)] [(.int (95 : Int32)), (.int p1)]))
          by_cases hc13 : (p1 = (95 : Int32))
          · refine Run.go (fun _ k => XS.icmpNo X0.here hx rfl (hb hby d1_39) rfl (teq hc13).2 k) ?_
            show Run p e below s 0 0 (Q_rm1 Z p1 h0 n0) (s₁.setTop (mkF m 42 #[.val (.int p1)] []))
            refine Run.go (fun _ k => XS.iconst X0.here hx rfl (hb hby d1_42) k) ?_
            show Run p e below s 0 0 (Q_rm1 Z p1 h0 n0) (s₁.setTop (mkF m 43 #[.val (.int p1)] [(.int (1 : Int32))]))
            refine Run.go (fun _ k => XS.goto X0.here hx rfl (pc0 := 43) (pc' := 47) rfl (hb hby d1_43) (by decide) (by decide) k) ?_
            show Run p e below s 0 0 (Q_rm1 Z p1 h0 n0) (s₁.setTop (mkF m 47 #[.val (.int p1)] [(.int (1 : Int32))]))
            exact J2 _ (if_pos (Or.inl ⟨hc5, (Or.inr ⟨hc6, (Or.inr (Or.inl ⟨hc12, hc13⟩))⟩)⟩)).symm _ _ X0 e0 N0
          · refine Run.go (fun _ k => XS.icmpYes X0.here hx rfl (pc0 := 39) (pc' := 46) rfl (hb hby d1_39) rfl (feq hc13).2 (by decide) (by decide) k) ?_
            show Run p e below s 0 0 (Q_rm1 Z p1 h0 n0) (s₁.setTop (mkF m 46 #[.val (.int p1)] []))
            refine Run.go (fun _ k => XS.iconst X0.here hx rfl (hb hby d1_46) k) ?_
            show Run p e below s 0 0 (Q_rm1 Z p1 h0 n0) (s₁.setTop (mkF m 47 #[.val (.int p1)] [(.int (0 : Int32))]))
            exact J2 _ (if_neg (fun q => q.elim (fun q => (fun q => q.elim (fun q => hc6 q.1) (fun q => (fun q => q.elim (fun q => q hc11) (fun q => q.elim (fun q => hc13 q.2) (fun q => (fun q => q hc12) q.1))) q.2)) q.2) (fun q => (fun q => q hc5) q.1))).symm _ _ X0 e0 N0
        · refine Run.go (fun _ k => XS.icmpNo X0.here hx rfl (hb hby d1_27) rfl (flt hc12).1 k) ?_
          show Run p e below s 0 0 (Q_rm1 Z p1 h0 n0) (s₁.setTop (mkF m 30 #[.val (.int p1)] []))
          refine Run.go (fun _ k => XS.iloadN X0.here hx rfl (hb hby d1_30) rfl  k) ?_
          show Run p e below s 0 0 (Q_rm1 Z p1 h0 n0) (s₁.setTop (mkF m 31 #[.val (.int p1)] [(.int p1)]))
          refine Run.go (fun _ k => XS.bipush X0.here hx rfl (hb hby d1_31) k) ?_
          show Run p e below s 0 0 (Q_rm1 Z p1 h0 n0) (s₁.setTop (mkF m 33 #[.val (.int p1)] [(.int (57 : Int32)), (.int p1)]))
          by_cases hc14 : ((57 : Int32) < p1)
          · refine Run.go (fun _ k => XS.icmpNo X0.here hx rfl (hb hby d1_33) rfl (tlt hc14).2.2.2 k) ?_
            show Run p e below s 0 0 (Q_rm1 Z p1 h0 n0) (s₁.setTop (mkF m 36 #[.val (.int p1)] []))
            refine Run.go (fun _ k => XS.iloadN X0.here hx rfl (hb hby d1_36) rfl  k) ?_
            show Run p e below s 0 0 (Q_rm1 Z p1 h0 n0) (s₁.setTop (mkF m 37 #[.val (.int p1)] [(.int p1)]))
            refine Run.go (fun _ k => XS.bipush X0.here hx rfl (hb hby d1_37) k) ?_
            show Run p e below s 0 0 (Q_rm1 Z p1 h0 n0) (s₁.setTop (mkF m 39 #[.val (.int p1)] [(.int (95 : Int32)), (.int p1)]))
            by_cases hc15 : (p1 = (95 : Int32))
            · refine Run.go (fun _ k => XS.icmpNo X0.here hx rfl (hb hby d1_39) rfl (teq hc15).2 k) ?_
              show Run p e below s 0 0 (Q_rm1 Z p1 h0 n0) (s₁.setTop (mkF m 42 #[.val (.int p1)] []))
              refine Run.go (fun _ k => XS.iconst X0.here hx rfl (hb hby d1_42) k) ?_
              show Run p e below s 0 0 (Q_rm1 Z p1 h0 n0) (s₁.setTop (mkF m 43 #[.val (.int p1)] [(.int (1 : Int32))]))
              refine Run.go (fun _ k => XS.goto X0.here hx rfl (pc0 := 43) (pc' := 47) rfl (hb hby d1_43) (by decide) (by decide) k) ?_
              show Run p e below s 0 0 (Q_rm1 Z p1 h0 n0) (s₁.setTop (mkF m 47 #[.val (.int p1)] [(.int (1 : Int32))]))
              exact J2 _ (if_pos (Or.inl ⟨hc5, (Or.inr ⟨hc6, (Or.inr (Or.inr ⟨hc12, (Or.inr hc15)⟩))⟩)⟩)).symm _ _ X0 e0 N0
            · refine Run.go (fun _ k => XS.icmpYes X0.here hx rfl (pc0 := 39) (pc' := 46) rfl (hb hby d1_39) rfl (feq hc15).2 (by decide) (by decide) k) ?_
              show Run p e below s 0 0 (Q_rm1 Z p1 h0 n0) (s₁.setTop (mkF m 46 #[.val (.int p1)] []))
              refine Run.go (fun _ k => XS.iconst X0.here hx rfl (hb hby d1_46) k) ?_
              show Run p e below s 0 0 (Q_rm1 Z p1 h0 n0) (s₁.setTop (mkF m 47 #[.val (.int p1)] [(.int (0 : Int32))]))
              exact J2 _ (if_neg (fun q => q.elim (fun q => (fun q => q.elim (fun q => hc6 q.1) (fun q => (fun q => q.elim (fun q => q hc11) (fun q => q.elim (fun q => hc12 q.1) (fun q => (fun q => q.elim (fun q => q hc14) hc15) q.2))) q.2)) q.2) (fun q => (fun q => q hc5) q.1))).symm _ _ X0 e0 N0
          · refine Run.go (fun _ k => XS.icmpYes X0.here hx rfl (pc0 := 33) (pc' := 42) rfl (hb hby d1_33) rfl (flt hc14).2.2.2 (by decide) (by decide) k) ?_
            show Run p e below s 0 0 (Q_rm1 Z p1 h0 n0) (s₁.setTop (mkF m 42 #[.val (.int p1)] []))
            refine Run.go (fun _ k => XS.iconst X0.here hx rfl (hb hby d1_42) k) ?_
            show Run p e below s 0 0 (Q_rm1 Z p1 h0 n0) (s₁.setTop (mkF m 43 #[.val (.int p1)] [(.int (1 : Int32))]))
            refine Run.go (fun _ k => XS.goto X0.here hx rfl (pc0 := 43) (pc' := 47) rfl (hb hby d1_43) (by decide) (by decide) k) ?_
            show Run p e below s 0 0 (Q_rm1 Z p1 h0 n0) (s₁.setTop (mkF m 47 #[.val (.int p1)] [(.int (1 : Int32))]))
            exact J2 _ (if_pos (Or.inl ⟨hc5, (Or.inr ⟨hc6, (Or.inr (Or.inr ⟨hc12, (Or.inl hc14)⟩))⟩)⟩)).symm _ _ X0 e0 N0
      · refine Run.go (fun _ k => XS.icmpYes X0.here hx rfl (pc0 := 21) (pc' := 42) rfl (hb hby d1_21) rfl (flt hc11).2.2.2 (by decide) (by decide) k) ?_
        show Run p e below s 0 0 (Q_rm1 Z p1 h0 n0) (s₁.setTop (mkF m 42 #[.val (.int p1)] []))
        refine Run.go (fun _ k => XS.iconst X0.here hx rfl (hb hby d1_42) k) ?_
        show Run p e below s 0 0 (Q_rm1 Z p1 h0 n0) (s₁.setTop (mkF m 43 #[.val (.int p1)] [(.int (1 : Int32))]))
        refine Run.go (fun _ k => XS.goto X0.here hx rfl (pc0 := 43) (pc' := 47) rfl (hb hby d1_43) (by decide) (by decide) k) ?_
        show Run p e below s 0 0 (Q_rm1 Z p1 h0 n0) (s₁.setTop (mkF m 47 #[.val (.int p1)] [(.int (1 : Int32))]))
        exact J2 _ (if_pos (Or.inl ⟨hc5, (Or.inr ⟨hc6, (Or.inl hc11)⟩)⟩)).symm _ _ X0 e0 N0
  · refine Run.go (fun _ k => XS.icmpNo X0.here hx rfl (hb hby d1_3) rfl (flt hc5).1 k) ?_
    show Run p e below s 0 0 (Q_rm1 Z p1 h0 n0) (s₁.setTop (mkF m 6 #[.val (.int p1)] []))
    refine Run.go (fun _ k => XS.iloadN X0.here hx rfl (hb hby d1_6) rfl  k) ?_
    show Run p e below s 0 0 (Q_rm1 Z p1 h0 n0) (s₁.setTop (mkF m 7 #[.val (.int p1)] [(.int p1)]))
    refine Run.go (fun _ k => XS.bipush X0.here hx rfl (hb hby d1_7) k) ?_
    show Run p e below s 0 0 (Q_rm1 Z p1 h0 n0) (s₁.setTop (mkF m 9 #[.val (.int p1)] [(.int (122 : Int32)), (.int p1)]))
    by_cases hc16 : ((122 : Int32) < p1)
    · refine Run.go (fun _ k => XS.icmpNo X0.here hx rfl (hb hby d1_9) rfl (tlt hc16).2.2.2 k) ?_
      show Run p e below s 0 0 (Q_rm1 Z p1 h0 n0) (s₁.setTop (mkF m 12 #[.val (.int p1)] []))
      refine Run.go (fun _ k => XS.iloadN X0.here hx rfl (hb hby d1_12) rfl  k) ?_
      show Run p e below s 0 0 (Q_rm1 Z p1 h0 n0) (s₁.setTop (mkF m 13 #[.val (.int p1)] [(.int p1)]))
      refine Run.go (fun _ k => XS.bipush X0.here hx rfl (hb hby d1_13) k) ?_
      show Run p e below s 0 0 (Q_rm1 Z p1 h0 n0) (s₁.setTop (mkF m 15 #[.val (.int p1)] [(.int (65 : Int32)), (.int p1)]))
      by_cases hc17 : (p1 < (65 : Int32))
      · refine Run.go (fun _ k => XS.icmpYes X0.here hx rfl (pc0 := 15) (pc' := 24) rfl (hb hby d1_15) rfl (tlt hc17).1 (by decide) (by decide) k) ?_
        show Run p e below s 0 0 (Q_rm1 Z p1 h0 n0) (s₁.setTop (mkF m 24 #[.val (.int p1)] []))
        refine Run.go (fun _ k => XS.iloadN X0.here hx rfl (hb hby d1_24) rfl  k) ?_
        show Run p e below s 0 0 (Q_rm1 Z p1 h0 n0) (s₁.setTop (mkF m 25 #[.val (.int p1)] [(.int p1)]))
        refine Run.go (fun _ k => XS.bipush X0.here hx rfl (hb hby d1_25) k) ?_
        show Run p e below s 0 0 (Q_rm1 Z p1 h0 n0) (s₁.setTop (mkF m 27 #[.val (.int p1)] [(.int (48 : Int32)), (.int p1)]))
        by_cases hc18 : (p1 < (48 : Int32))
        · refine Run.go (fun _ k => XS.icmpYes X0.here hx rfl (pc0 := 27) (pc' := 36) rfl (hb hby d1_27) rfl (tlt hc18).1 (by decide) (by decide) k) ?_
          show Run p e below s 0 0 (Q_rm1 Z p1 h0 n0) (s₁.setTop (mkF m 36 #[.val (.int p1)] []))
          refine Run.go (fun _ k => XS.iloadN X0.here hx rfl (hb hby d1_36) rfl  k) ?_
          show Run p e below s 0 0 (Q_rm1 Z p1 h0 n0) (s₁.setTop (mkF m 37 #[.val (.int p1)] [(.int p1)]))
          refine Run.go (fun _ k => XS.bipush X0.here hx rfl (hb hby d1_37) k) ?_
          show Run p e below s 0 0 (Q_rm1 Z p1 h0 n0) (s₁.setTop (mkF m 39 #[.val (.int p1)] [(.int (95 : Int32)), (.int p1)]))
          by_cases hc19 : (p1 = (95 : Int32))
          · refine Run.go (fun _ k => XS.icmpNo X0.here hx rfl (hb hby d1_39) rfl (teq hc19).2 k) ?_
            show Run p e below s 0 0 (Q_rm1 Z p1 h0 n0) (s₁.setTop (mkF m 42 #[.val (.int p1)] []))
            refine Run.go (fun _ k => XS.iconst X0.here hx rfl (hb hby d1_42) k) ?_
            show Run p e below s 0 0 (Q_rm1 Z p1 h0 n0) (s₁.setTop (mkF m 43 #[.val (.int p1)] [(.int (1 : Int32))]))
            refine Run.go (fun _ k => XS.goto X0.here hx rfl (pc0 := 43) (pc' := 47) rfl (hb hby d1_43) (by decide) (by decide) k) ?_
            show Run p e below s 0 0 (Q_rm1 Z p1 h0 n0) (s₁.setTop (mkF m 47 #[.val (.int p1)] [(.int (1 : Int32))]))
            exact J2 _ (if_pos (Or.inr ⟨hc5, (Or.inr (Or.inl ⟨hc17, (Or.inl ⟨hc18, hc19⟩)⟩))⟩)).symm _ _ X0 e0 N0
          · refine Run.go (fun _ k => XS.icmpYes X0.here hx rfl (pc0 := 39) (pc' := 46) rfl (hb hby d1_39) rfl (feq hc19).2 (by decide) (by decide) k) ?_
            show Run p e below s 0 0 (Q_rm1 Z p1 h0 n0) (s₁.setTop (mkF m 46 #[.val (.int p1)] []))
            refine Run.go (fun _ k => XS.iconst X0.here hx rfl (hb hby d1_46) k) ?_
            show Run p e below s 0 0 (Q_rm1 Z p1 h0 n0) (s₁.setTop (mkF m 47 #[.val (.int p1)] [(.int (0 : Int32))]))
            exact J2 _ (if_neg (fun q => q.elim (fun q => hc5 q.1) (fun q => (fun q => q.elim (fun q => q hc16) (fun q => q.elim (fun q => (fun q => q.elim (fun q => hc19 q.2) (fun q => (fun q => q hc18) q.1)) q.2) (fun q => (fun q => q hc17) q.1))) q.2))).symm _ _ X0 e0 N0
        · refine Run.go (fun _ k => XS.icmpNo X0.here hx rfl (hb hby d1_27) rfl (flt hc18).1 k) ?_
          show Run p e below s 0 0 (Q_rm1 Z p1 h0 n0) (s₁.setTop (mkF m 30 #[.val (.int p1)] []))
          refine Run.go (fun _ k => XS.iloadN X0.here hx rfl (hb hby d1_30) rfl  k) ?_
          show Run p e below s 0 0 (Q_rm1 Z p1 h0 n0) (s₁.setTop (mkF m 31 #[.val (.int p1)] [(.int p1)]))
          refine Run.go (fun _ k => XS.bipush X0.here hx rfl (hb hby d1_31) k) ?_
          show Run p e below s 0 0 (Q_rm1 Z p1 h0 n0) (s₁.setTop (mkF m 33 #[.val (.int p1)] [(.int (57 : Int32)), (.int p1)]))
          by_cases hc20 : ((57 : Int32) < p1)
          · refine Run.go (fun _ k => XS.icmpNo X0.here hx rfl (hb hby d1_33) rfl (tlt hc20).2.2.2 k) ?_
            show Run p e below s 0 0 (Q_rm1 Z p1 h0 n0) (s₁.setTop (mkF m 36 #[.val (.int p1)] []))
            refine Run.go (fun _ k => XS.iloadN X0.here hx rfl (hb hby d1_36) rfl  k) ?_
            show Run p e below s 0 0 (Q_rm1 Z p1 h0 n0) (s₁.setTop (mkF m 37 #[.val (.int p1)] [(.int p1)]))
            refine Run.go (fun _ k => XS.bipush X0.here hx rfl (hb hby d1_37) k) ?_
            show Run p e below s 0 0 (Q_rm1 Z p1 h0 n0) (s₁.setTop (mkF m 39 #[.val (.int p1)] [(.int (95 : Int32)), (.int p1)]))
            by_cases hc21 : (p1 = (95 : Int32))
            · refine Run.go (fun _ k => XS.icmpNo X0.here hx rfl (hb hby d1_39) rfl (teq hc21).2 k) ?_
              show Run p e below s 0 0 (Q_rm1 Z p1 h0 n0) (s₁.setTop (mkF m 42 #[.val (.int p1)] []))
              refine Run.go (fun _ k => XS.iconst X0.here hx rfl (hb hby d1_42) k) ?_
              show Run p e below s 0 0 (Q_rm1 Z p1 h0 n0) (s₁.setTop (mkF m 43 #[.val (.int p1)] [(.int (1 : Int32))]))
              refine Run.go (fun _ k => XS.goto X0.here hx rfl (pc0 := 43) (pc' := 47) rfl (hb hby d1_43) (by decide) (by decide) k) ?_
              show Run p e below s 0 0 (Q_rm1 Z p1 h0 n0) (s₁.setTop (mkF m 47 #[.val (.int p1)] [(.int (1 : Int32))]))
              exact J2 _ (if_pos (Or.inr ⟨hc5, (Or.inr (Or.inl ⟨hc17, (Or.inr ⟨hc18, (Or.inr hc21)⟩)⟩))⟩)).symm _ _ X0 e0 N0
            · refine Run.go (fun _ k => XS.icmpYes X0.here hx rfl (pc0 := 39) (pc' := 46) rfl (hb hby d1_39) rfl (feq hc21).2 (by decide) (by decide) k) ?_
              show Run p e below s 0 0 (Q_rm1 Z p1 h0 n0) (s₁.setTop (mkF m 46 #[.val (.int p1)] []))
              refine Run.go (fun _ k => XS.iconst X0.here hx rfl (hb hby d1_46) k) ?_
              show Run p e below s 0 0 (Q_rm1 Z p1 h0 n0) (s₁.setTop (mkF m 47 #[.val (.int p1)] [(.int (0 : Int32))]))
              exact J2 _ (if_neg (fun q => q.elim (fun q => hc5 q.1) (fun q => (fun q => q.elim (fun q => q hc16) (fun q => q.elim (fun q => (fun q => q.elim (fun q => hc18 q.1) (fun q => (fun q => q.elim (fun q => q hc20) hc21) q.2)) q.2) (fun q => (fun q => q hc17) q.1))) q.2))).symm _ _ X0 e0 N0
          · refine Run.go (fun _ k => XS.icmpYes X0.here hx rfl (pc0 := 33) (pc' := 42) rfl (hb hby d1_33) rfl (flt hc20).2.2.2 (by decide) (by decide) k) ?_
            show Run p e below s 0 0 (Q_rm1 Z p1 h0 n0) (s₁.setTop (mkF m 42 #[.val (.int p1)] []))
            refine Run.go (fun _ k => XS.iconst X0.here hx rfl (hb hby d1_42) k) ?_
            show Run p e below s 0 0 (Q_rm1 Z p1 h0 n0) (s₁.setTop (mkF m 43 #[.val (.int p1)] [(.int (1 : Int32))]))
            refine Run.go (fun _ k => XS.goto X0.here hx rfl (pc0 := 43) (pc' := 47) rfl (hb hby d1_43) (by decide) (by decide) k) ?_
            show Run p e below s 0 0 (Q_rm1 Z p1 h0 n0) (s₁.setTop (mkF m 47 #[.val (.int p1)] [(.int (1 : Int32))]))
            exact J2 _ (if_pos (Or.inr ⟨hc5, (Or.inr (Or.inl ⟨hc17, (Or.inr ⟨hc18, (Or.inl hc20)⟩)⟩))⟩)).symm _ _ X0 e0 N0
      · refine Run.go (fun _ k => XS.icmpNo X0.here hx rfl (hb hby d1_15) rfl (flt hc17).1 k) ?_
        show Run p e below s 0 0 (Q_rm1 Z p1 h0 n0) (s₁.setTop (mkF m 18 #[.val (.int p1)] []))
        refine Run.go (fun _ k => XS.iloadN X0.here hx rfl (hb hby d1_18) rfl  k) ?_
        show Run p e below s 0 0 (Q_rm1 Z p1 h0 n0) (s₁.setTop (mkF m 19 #[.val (.int p1)] [(.int p1)]))
        refine Run.go (fun _ k => XS.bipush X0.here hx rfl (hb hby d1_19) k) ?_
        show Run p e below s 0 0 (Q_rm1 Z p1 h0 n0) (s₁.setTop (mkF m 21 #[.val (.int p1)] [(.int (90 : Int32)), (.int p1)]))
        by_cases hc22 : ((90 : Int32) < p1)
        · refine Run.go (fun _ k => XS.icmpNo X0.here hx rfl (hb hby d1_21) rfl (tlt hc22).2.2.2 k) ?_
          show Run p e below s 0 0 (Q_rm1 Z p1 h0 n0) (s₁.setTop (mkF m 24 #[.val (.int p1)] []))
          refine Run.go (fun _ k => XS.iloadN X0.here hx rfl (hb hby d1_24) rfl  k) ?_
          show Run p e below s 0 0 (Q_rm1 Z p1 h0 n0) (s₁.setTop (mkF m 25 #[.val (.int p1)] [(.int p1)]))
          refine Run.go (fun _ k => XS.bipush X0.here hx rfl (hb hby d1_25) k) ?_
          show Run p e below s 0 0 (Q_rm1 Z p1 h0 n0) (s₁.setTop (mkF m 27 #[.val (.int p1)] [(.int (48 : Int32)), (.int p1)]))
          by_cases hc23 : (p1 < (48 : Int32))
          · refine Run.go (fun _ k => XS.icmpYes X0.here hx rfl (pc0 := 27) (pc' := 36) rfl (hb hby d1_27) rfl (tlt hc23).1 (by decide) (by decide) k) ?_
            show Run p e below s 0 0 (Q_rm1 Z p1 h0 n0) (s₁.setTop (mkF m 36 #[.val (.int p1)] []))
            refine Run.go (fun _ k => XS.iloadN X0.here hx rfl (hb hby d1_36) rfl  k) ?_
            show Run p e below s 0 0 (Q_rm1 Z p1 h0 n0) (s₁.setTop (mkF m 37 #[.val (.int p1)] [(.int p1)]))
            refine Run.go (fun _ k => XS.bipush X0.here hx rfl (hb hby d1_37) k) ?_
            show Run p e below s 0 0 (Q_rm1 Z p1 h0 n0) (s₁.setTop (mkF m 39 #[.val (.int p1)] [(.int (95 : Int32)), (.int p1)]))
            by_cases hc24 : (p1 = (95 : Int32))
            · refine Run.go (fun _ k => XS.icmpNo X0.here hx rfl (hb hby d1_39) rfl (teq hc24).2 k) ?_
              show Run p e below s 0 0 (Q_rm1 Z p1 h0 n0) (s₁.setTop (mkF m 42 #[.val (.int p1)] []))
              refine Run.go (fun _ k => XS.iconst X0.here hx rfl (hb hby d1_42) k) ?_
              show Run p e below s 0 0 (Q_rm1 Z p1 h0 n0) (s₁.setTop (mkF m 43 #[.val (.int p1)] [(.int (1 : Int32))]))
              refine Run.go (fun _ k => XS.goto X0.here hx rfl (pc0 := 43) (pc' := 47) rfl (hb hby d1_43) (by decide) (by decide) k) ?_
              show Run p e below s 0 0 (Q_rm1 Z p1 h0 n0) (s₁.setTop (mkF m 47 #[.val (.int p1)] [(.int (1 : Int32))]))
              exact J2 _ (if_pos (Or.inr ⟨hc5, (Or.inr (Or.inr ⟨hc17, (Or.inr (Or.inl ⟨hc23, hc24⟩))⟩))⟩)).symm _ _ X0 e0 N0
            · refine Run.go (fun _ k => XS.icmpYes X0.here hx rfl (pc0 := 39) (pc' := 46) rfl (hb hby d1_39) rfl (feq hc24).2 (by decide) (by decide) k) ?_
              show Run p e below s 0 0 (Q_rm1 Z p1 h0 n0) (s₁.setTop (mkF m 46 #[.val (.int p1)] []))
              refine Run.go (fun _ k => XS.iconst X0.here hx rfl (hb hby d1_46) k) ?_
              show Run p e below s 0 0 (Q_rm1 Z p1 h0 n0) (s₁.setTop (mkF m 47 #[.val (.int p1)] [(.int (0 : Int32))]))
              exact J2 _ (if_neg (fun q => q.elim (fun q => hc5 q.1) (fun q => (fun q => q.elim (fun q => q hc16) (fun q => q.elim (fun q => hc17 q.1) (fun q => (fun q => q.elim (fun q => q hc22) (fun q => q.elim (fun q => hc24 q.2) (fun q => (fun q => q hc23) q.1))) q.2))) q.2))).symm _ _ X0 e0 N0
          · refine Run.go (fun _ k => XS.icmpNo X0.here hx rfl (hb hby d1_27) rfl (flt hc23).1 k) ?_
            show Run p e below s 0 0 (Q_rm1 Z p1 h0 n0) (s₁.setTop (mkF m 30 #[.val (.int p1)] []))
            refine Run.go (fun _ k => XS.iloadN X0.here hx rfl (hb hby d1_30) rfl  k) ?_
            show Run p e below s 0 0 (Q_rm1 Z p1 h0 n0) (s₁.setTop (mkF m 31 #[.val (.int p1)] [(.int p1)]))
            refine Run.go (fun _ k => XS.bipush X0.here hx rfl (hb hby d1_31) k) ?_
            show Run p e below s 0 0 (Q_rm1 Z p1 h0 n0) (s₁.setTop (mkF m 33 #[.val (.int p1)] [(.int (57 : Int32)), (.int p1)]))
            by_cases hc25 : ((57 : Int32) < p1)
            · refine Run.go (fun _ k => XS.icmpNo X0.here hx rfl (hb hby d1_33) rfl (tlt hc25).2.2.2 k) ?_
              show Run p e below s 0 0 (Q_rm1 Z p1 h0 n0) (s₁.setTop (mkF m 36 #[.val (.int p1)] []))
              refine Run.go (fun _ k => XS.iloadN X0.here hx rfl (hb hby d1_36) rfl  k) ?_
              show Run p e below s 0 0 (Q_rm1 Z p1 h0 n0) (s₁.setTop (mkF m 37 #[.val (.int p1)] [(.int p1)]))
              refine Run.go (fun _ k => XS.bipush X0.here hx rfl (hb hby d1_37) k) ?_
              show Run p e below s 0 0 (Q_rm1 Z p1 h0 n0) (s₁.setTop (mkF m 39 #[.val (.int p1)] [(.int (95 : Int32)), (.int p1)]))
              by_cases hc26 : (p1 = (95 : Int32))
              · refine Run.go (fun _ k => XS.icmpNo X0.here hx rfl (hb hby d1_39) rfl (teq hc26).2 k) ?_
                show Run p e below s 0 0 (Q_rm1 Z p1 h0 n0) (s₁.setTop (mkF m 42 #[.val (.int p1)] []))
                refine Run.go (fun _ k => XS.iconst X0.here hx rfl (hb hby d1_42) k) ?_
                show Run p e below s 0 0 (Q_rm1 Z p1 h0 n0) (s₁.setTop (mkF m 43 #[.val (.int p1)] [(.int (1 : Int32))]))
                refine Run.go (fun _ k => XS.goto X0.here hx rfl (pc0 := 43) (pc' := 47) rfl (hb hby d1_43) (by decide) (by decide) k) ?_
                show Run p e below s 0 0 (Q_rm1 Z p1 h0 n0) (s₁.setTop (mkF m 47 #[.val (.int p1)] [(.int (1 : Int32))]))
                exact J2 _ (if_pos (Or.inr ⟨hc5, (Or.inr (Or.inr ⟨hc17, (Or.inr (Or.inr ⟨hc23, (Or.inr hc26)⟩))⟩))⟩)).symm _ _ X0 e0 N0
              · refine Run.go (fun _ k => XS.icmpYes X0.here hx rfl (pc0 := 39) (pc' := 46) rfl (hb hby d1_39) rfl (feq hc26).2 (by decide) (by decide) k) ?_
                show Run p e below s 0 0 (Q_rm1 Z p1 h0 n0) (s₁.setTop (mkF m 46 #[.val (.int p1)] []))
                refine Run.go (fun _ k => XS.iconst X0.here hx rfl (hb hby d1_46) k) ?_
                show Run p e below s 0 0 (Q_rm1 Z p1 h0 n0) (s₁.setTop (mkF m 47 #[.val (.int p1)] [(.int (0 : Int32))]))
                exact J2 _ (if_neg (fun q => q.elim (fun q => hc5 q.1) (fun q => (fun q => q.elim (fun q => q hc16) (fun q => q.elim (fun q => hc17 q.1) (fun q => (fun q => q.elim (fun q => q hc22) (fun q => q.elim (fun q => hc23 q.1) (fun q => (fun q => q.elim (fun q => q hc25) hc26) q.2))) q.2))) q.2))).symm _ _ X0 e0 N0
            · refine Run.go (fun _ k => XS.icmpYes X0.here hx rfl (pc0 := 33) (pc' := 42) rfl (hb hby d1_33) rfl (flt hc25).2.2.2 (by decide) (by decide) k) ?_
              show Run p e below s 0 0 (Q_rm1 Z p1 h0 n0) (s₁.setTop (mkF m 42 #[.val (.int p1)] []))
              refine Run.go (fun _ k => XS.iconst X0.here hx rfl (hb hby d1_42) k) ?_
              show Run p e below s 0 0 (Q_rm1 Z p1 h0 n0) (s₁.setTop (mkF m 43 #[.val (.int p1)] [(.int (1 : Int32))]))
              refine Run.go (fun _ k => XS.goto X0.here hx rfl (pc0 := 43) (pc' := 47) rfl (hb hby d1_43) (by decide) (by decide) k) ?_
              show Run p e below s 0 0 (Q_rm1 Z p1 h0 n0) (s₁.setTop (mkF m 47 #[.val (.int p1)] [(.int (1 : Int32))]))
              exact J2 _ (if_pos (Or.inr ⟨hc5, (Or.inr (Or.inr ⟨hc17, (Or.inr (Or.inr ⟨hc23, (Or.inl hc25)⟩))⟩))⟩)).symm _ _ X0 e0 N0
        · refine Run.go (fun _ k => XS.icmpYes X0.here hx rfl (pc0 := 21) (pc' := 42) rfl (hb hby d1_21) rfl (flt hc22).2.2.2 (by decide) (by decide) k) ?_
          show Run p e below s 0 0 (Q_rm1 Z p1 h0 n0) (s₁.setTop (mkF m 42 #[.val (.int p1)] []))
          refine Run.go (fun _ k => XS.iconst X0.here hx rfl (hb hby d1_42) k) ?_
          show Run p e below s 0 0 (Q_rm1 Z p1 h0 n0) (s₁.setTop (mkF m 43 #[.val (.int p1)] [(.int (1 : Int32))]))
          refine Run.go (fun _ k => XS.goto X0.here hx rfl (pc0 := 43) (pc' := 47) rfl (hb hby d1_43) (by decide) (by decide) k) ?_
          show Run p e below s 0 0 (Q_rm1 Z p1 h0 n0) (s₁.setTop (mkF m 47 #[.val (.int p1)] [(.int (1 : Int32))]))
          exact J2 _ (if_pos (Or.inr ⟨hc5, (Or.inr (Or.inr ⟨hc17, (Or.inl hc22)⟩))⟩)).symm _ _ X0 e0 N0
    · refine Run.go (fun _ k => XS.icmpYes X0.here hx rfl (pc0 := 9) (pc' := 42) rfl (hb hby d1_9) rfl (flt hc16).2.2.2 (by decide) (by decide) k) ?_
      show Run p e below s 0 0 (Q_rm1 Z p1 h0 n0) (s₁.setTop (mkF m 42 #[.val (.int p1)] []))
      refine Run.go (fun _ k => XS.iconst X0.here hx rfl (hb hby d1_42) k) ?_
      show Run p e below s 0 0 (Q_rm1 Z p1 h0 n0) (s₁.setTop (mkF m 43 #[.val (.int p1)] [(.int (1 : Int32))]))
      refine Run.go (fun _ k => XS.goto X0.here hx rfl (pc0 := 43) (pc' := 47) rfl (hb hby d1_43) (by decide) (by decide) k) ?_
      show Run p e below s 0 0 (Q_rm1 Z p1 h0 n0) (s₁.setTop (mkF m 47 #[.val (.int p1)] [(.int (1 : Int32))]))
      exact J2 _ (if_pos (Or.inr ⟨hc5, (Or.inl hc16)⟩)).symm _ _ X0 e0 N0
theorem own_lt (x y : Int32) : x < y ↔ x.toInt < y.toInt := Int32.lt_iff_toInt_lt
theorem own_ltL (x y : Int64) : x < y ↔ x.toInt < y.toInt := Int64.lt_iff_toInt_lt
theorem own_eqI (x y : Int32) : x = y ↔ x.toInt = y.toInt := Int32.toInt_inj.symm
theorem own_eqL (x y : Int64) : x = y ↔ x.toInt = y.toInt := Int64.toInt_inj.symm
theorem own_r (p lo cnt : Int32) (a b : Int) (ha : lo.toInt = a) (hb : cnt.toInt = b) : ((((p - lo).toInt64) &&& (4294967295 : Int64)) < (cnt.toInt64)) ↔ (p.toInt - a) % 4294967296 < b := by
  rw [Int64.lt_iff_toInt_lt, c_i2l, c_maskL _ _ 32 (by decide) (by decide), c_i2l, hb]
  have h := c_isub p lo
  have e : ((2 ^ 32 : Nat) : Int) = 4294967296 := by decide
  rw [e]
  omega
theorem own_law (c : Int32) : F_rm1 c = F_rm2 c := by
  have hr := rng32 c
  have r1 := own_r c 97 26 97 26 rfl rfl
  have r2 := own_r c 65 26 65 26 rfl rfl
  have r3 := own_r c 48 10 48 10 rfl rfl
  have q1 : F_rm3 c 97 26 = 0 ↔ ¬ (97 ≤ c.toInt ∧ c.toInt ≤ 122) := by
    unfold F_rm3
    by_cases h : ((((c - 97).toInt64) &&& (4294967295 : Int64)) < ((26 : Int32).toInt64))
    · have := r1.mp h
      simp only [if_pos h]; constructor
      · intro q; exact absurd q (by decide)
      · intro q; exact absurd (by omega) q
    · have := mt r1.mpr h
      simp only [if_neg h]; constructor
      · intro q; omega
      · intro q; trivial
  have q2 : F_rm3 c 65 26 = 0 ↔ ¬ (65 ≤ c.toInt ∧ c.toInt ≤ 90) := by
    unfold F_rm3
    by_cases h : ((((c - 65).toInt64) &&& (4294967295 : Int64)) < ((26 : Int32).toInt64))
    · have := r2.mp h
      simp only [if_pos h]; constructor
      · intro q; exact absurd q (by decide)
      · intro q; exact absurd (by omega) q
    · have := mt r2.mpr h
      simp only [if_neg h]; constructor
      · intro q; omega
      · intro q; trivial
  have q3 : F_rm3 c 48 10 = 0 ↔ ¬ (48 ≤ c.toInt ∧ c.toInt ≤ 57) := by
    unfold F_rm3
    by_cases h : ((((c - 48).toInt64) &&& (4294967295 : Int64)) < ((10 : Int32).toInt64))
    · have := r3.mp h
      simp only [if_pos h]; constructor
      · intro q; exact absurd q (by decide)
      · intro q; exact absurd (by omega) q
    · have := mt r3.mpr h
      simp only [if_neg h]; constructor
      · intro q; omega
      · intro q; trivial
  have q4 : c = 95 ↔ c.toInt = 95 := by rw [← Int32.toInt_inj]; rfl
  have k97 : (c < 97) ↔ c.toInt < 97 := Int32.lt_iff_toInt_lt
  have k65 : (c < 65) ↔ c.toInt < 65 := Int32.lt_iff_toInt_lt
  have k48 : (c < 48) ↔ c.toInt < 48 := Int32.lt_iff_toInt_lt
  have k57 : ((57 : Int32) < c) ↔ 57 < c.toInt := Int32.lt_iff_toInt_lt
  have k90 : ((90 : Int32) < c) ↔ 90 < c.toInt := Int32.lt_iff_toInt_lt
  have k122 : ((122 : Int32) < c) ↔ 122 < c.toInt := Int32.lt_iff_toInt_lt
  unfold F_rm1 F_rm2
  simp only [q1, q2, q3, q4, k97, k65, k48, k57, k90, k122]
  by_cases a1 : (97 ≤ c.toInt ∧ c.toInt ≤ 122)
  · rw [if_pos (by omega), if_neg (by omega)]
  · by_cases a2 : (65 ≤ c.toInt ∧ c.toInt ≤ 90)
    · rw [if_pos (by omega), if_pos (by omega), if_neg (by omega)]
    · by_cases a3 : (48 ≤ c.toInt ∧ c.toInt ≤ 57)
      · rw [if_pos (by omega), if_pos (by omega), if_pos (by omega), if_neg (by omega)]
      · by_cases a4 : c.toInt = 95
        · rw [if_pos (by omega), if_pos (by omega), if_pos (by omega), if_pos (by omega), if_pos (by omega)]
        · rw [if_neg (by omega), if_pos (by omega), if_pos (by omega), if_pos (by omega), if_neg (by omega)]
theorem own_idx (k : Int32) : ¬ (((k &&& (2147483647 : Int32)) % (20 : Int32)) < 0) ∧ ((k &&& (2147483647 : Int32)) % (20 : Int32)).toNatClampNeg < 20 := by
  have h := c_and k 2147483647 (by decide)
  have h2 := (c_irem (k &&& (2147483647 : Int32)) 20 20 rfl).1 h.1
  have e0 : (0 : Int32).toInt = 0 := rfl
  rw [Int32.lt_iff_toInt_lt, Int32.toNatClampNeg]
  omega
theorem pd_1 : parseMethodDescriptor "(I)Z" = some ⟨[.int], some .boolean⟩ := by decide +kernel
def Q_rm0 (Z : State) (p1 : Int32) (p2 : Int32) (h0 : Heap) (n0 : Nat) (v : Option Value) (h : Heap) (L : List Loc) : Prop := v = some (.int 1) ∧ Fr n0 L
theorem ef_rm0 (m : MethodId) (x0 : Int32) (x1 : Int32) : entryFrame m #[(.int x0), (.int x1)] maxLocals = mkF m 0 #[.val (.int x0), .val (.int x1), .unset, .unset, .unset, .unset] [] := by first | (simp [entryFrame, mkF, argsToLocals, Value.category, maxLocals]; done) | rfl
set_option maxRecDepth 65536 in
set_option maxHeartbeats 40000000 in
theorem rm0 (l : Launch) (Z : State) (a0 : Array Value) (hw : ∀ d ∈ tables_1, d.before a0 Z = true) (ws : List Jvm.Cond) (p1 : Int32) (p2 : Int32) (h0 : Heap) (n0 : Nat) (Z0 : n0 ≤ h0.size)  :
    MetFree l x (head1 (Jvm.Cond.code x code maxLocals ret :: ws) room_1) (fun a U => a = #[(.int p1), (.int p2)] ∧ Z.Warmed39 U.vm ∧ U.heap = h0) (fun _ _ _ _ _ => True) (fun _ U o U' => ∃ v L, o = .returned v ∧ Q_rm0 Z p1 p2 h0 n0 v U'.heap L ∧ FrameEnd U o U' L 1 20) := by
  refine MetFree.of_bodySF (plainFor_of_name pn_0) hisR ?_
  intro p e s m args below meth c s₁ Bd hml0 hP hK
  obtain ⟨rfl, hZ, hh⟩ := hP
  have hx := Bd.exec
  have hby := Bd.bytes
  have hml : c.maxLocals = 6 := hml0
  have hown : s.vm.findClass "com/example/exact_table/exacttable/ExpressionAttributesIsPlaceholderCharacterPinLaw" = some m.cls := findClass_of_methodNamed Bd.named
  have hnm := (name_of_methodNamed Bd.named Bd.method).1
  have X0 : Stand p l e room_1 s m #[(.int p1), (.int p2)] below meth c s₁ [] 0 0 := Stand.of_body Bd
  have e0 : s₁.heap = h0 := by rw [← hh, Bd.state]; rfl
  have N0 := Fr.nil n0
  show Run p e below s 1 20 (Q_rm0 Z p1 p2 h0 n0) (s₁.setTop (entryFrame m #[(.int p1), (.int p2)] maxLocals))
  refine Run.go (fun _ k => castTop (ef_rm0 m p1 p2) k) ?_
  show Run p e below s 1 20 (Q_rm0 Z p1 p2 h0 n0) (s₁.setTop (mkF m 0 #[.val (.int p1), .val (.int p2), .unset, .unset, .unset, .unset] []))
  refine Run.go (fun _ k => XS.bipush X0.here hx rfl (hb hby at_0) k) ?_
  show Run p e below s 1 20 (Q_rm0 Z p1 p2 h0 n0) (s₁.setTop (mkF m 2 #[.val (.int p1), .val (.int p2), .unset, .unset, .unset, .unset] [(.int (20 : Int32))]))
  obtain ⟨T3, h3, k3, X3, e3, E3, A3, st3⟩ := newP X0 hx hZ (hw _ (List.mem_of_getElem? (i := 0) rfl)) e0 (g := (mkF m 2 #[.val (.int p1), .val (.int p2), .unset, .unset, .unset, .unset] [(.int (20 : Int32))])) rfl (hb hby at_2) rfl (by decide) (cap := 20) (by decide) (by decide) (by decide) (by decide)
  obtain ⟨b3, g3⟩ : ∃ z, z = h0.size := ⟨_, rfl⟩
  rw [← g3] at A3 st3
  have g_b3 : n0 ≤ b3 := Nat.le_trans Z0 (Nat.le_of_eq g3.symm)
  have Z3 : n0 ≤ h3.size := Nat.le_trans Z0 E3.1
  have fx4 : Ary Z h3 b3 .int 20 (fun _ => (.int (0 : Int32))) := Ary.new A3 (by decide)
  obtain ⟨ff5, hff5⟩ : ∃ f : Nat → Value, f = (fun _ => (.int (0 : Int32))) := ⟨_, rfl⟩
  rw [← hff5] at fx4
  have iff5 : ∀ n, ∃ y, ff5 n = Value.int y := by rw [hff5]; exact isI_c _
  refine Run.go st3 ?_
  show Run p e below s 1 20 (Q_rm0 Z p1 p2 h0 n0) (T3.setTop (mkF m 4 #[.val (.int p1), .val (.int p2), .unset, .unset, .unset, .unset] [(.ref b3)]))
  refine Run.go (fun _ k => XS.dup X3.here hx rfl (hb hby at_4) rfl rfl k) ?_
  show Run p e below s 1 20 (Q_rm0 Z p1 p2 h0 n0) (T3.setTop (mkF m 5 #[.val (.int p1), .val (.int p2), .unset, .unset, .unset, .unset] [(.ref b3), (.ref b3)]))
  refine Run.go (fun _ k => XS.iconst X3.here hx rfl (hb hby at_5) k) ?_
  show Run p e below s 1 20 (Q_rm0 Z p1 p2 h0 n0) (T3.setTop (mkF m 6 #[.val (.int p1), .val (.int p2), .unset, .unset, .unset, .unset] [(.int (0 : Int32)), (.ref b3), (.ref b3)]))
  refine Run.go (fun _ k => XS.bipush X3.here hx rfl (hb hby at_6) k) ?_
  show Run p e below s 1 20 (Q_rm0 Z p1 p2 h0 n0) (T3.setTop (mkF m 8 #[.val (.int p1), .val (.int p2), .unset, .unset, .unset, .unset] [(.int (47 : Int32)), (.int (0 : Int32)), (.ref b3), (.ref b3)]))
  obtain ⟨T6, h6, X6, e6, W6, st6⟩ := ary_iset X3 hx hZ e3 fx4 (by decide) (by decide) (g := (mkF m 8 #[.val (.int p1), .val (.int p2), .unset, .unset, .unset, .unset] [(.int (47 : Int32)), (.int (0 : Int32)), (.ref b3), (.ref b3)])) rfl rfl (hb hby at_8)
  have N6 := Fr.snoc X6 N0 g_b3
  have Z6 : n0 ≤ h6.size := Nat.le_trans Z3 (Keep.of_wr W6).1
  obtain ⟨Lg6, Xg6, Ng6⟩ := Stand_gen X6 N6
  have fx7 : Ary Z h6 b3 .int 20 (fun i => if i = 0 then (.int (47 : Int32)) else ff5 i) := fx4.same W6
  obtain ⟨ff8, hff8⟩ : ∃ f : Nat → Value, f = (fun i => if i = 0 then (.int (47 : Int32)) else ff5 i) := ⟨_, rfl⟩
  rw [← hff8] at fx7
  have iff8 : ∀ n, ∃ y, ff8 n = Value.int y := by rw [hff8]; exact isI_s iff5 _ _
  refine Run.go st6 ?_
  show Run p e below s 1 20 (Q_rm0 Z p1 p2 h0 n0) (T6.setTop (mkF m 9 #[.val (.int p1), .val (.int p2), .unset, .unset, .unset, .unset] [(.ref b3)]))
  refine Run.go (fun _ k => XS.dup Xg6.here hx rfl (hb hby at_9) rfl rfl k) ?_
  show Run p e below s 1 20 (Q_rm0 Z p1 p2 h0 n0) (T6.setTop (mkF m 10 #[.val (.int p1), .val (.int p2), .unset, .unset, .unset, .unset] [(.ref b3), (.ref b3)]))
  refine Run.go (fun _ k => XS.iconst Xg6.here hx rfl (hb hby at_10) k) ?_
  show Run p e below s 1 20 (Q_rm0 Z p1 p2 h0 n0) (T6.setTop (mkF m 11 #[.val (.int p1), .val (.int p2), .unset, .unset, .unset, .unset] [(.int (1 : Int32)), (.ref b3), (.ref b3)]))
  refine Run.go (fun _ k => XS.bipush Xg6.here hx rfl (hb hby at_11) k) ?_
  show Run p e below s 1 20 (Q_rm0 Z p1 p2 h0 n0) (T6.setTop (mkF m 13 #[.val (.int p1), .val (.int p2), .unset, .unset, .unset, .unset] [(.int (48 : Int32)), (.int (1 : Int32)), (.ref b3), (.ref b3)]))
  obtain ⟨T9, h9, X9, e9, W9, st9⟩ := ary_iset Xg6 hx hZ e6 fx7 (by decide) (by decide) (g := (mkF m 13 #[.val (.int p1), .val (.int p2), .unset, .unset, .unset, .unset] [(.int (48 : Int32)), (.int (1 : Int32)), (.ref b3), (.ref b3)])) rfl rfl (hb hby at_13)
  have N9 := Fr.snoc X9 Ng6 g_b3
  have Z9 : n0 ≤ h9.size := Nat.le_trans Z6 (Keep.of_wr W9).1
  obtain ⟨Lg9, Xg9, Ng9⟩ := Stand_gen X9 N9
  have fx10 : Ary Z h9 b3 .int 20 (fun i => if i = 1 then (.int (48 : Int32)) else ff8 i) := fx7.same W9
  obtain ⟨ff11, hff11⟩ : ∃ f : Nat → Value, f = (fun i => if i = 1 then (.int (48 : Int32)) else ff8 i) := ⟨_, rfl⟩
  rw [← hff11] at fx10
  have iff11 : ∀ n, ∃ y, ff11 n = Value.int y := by rw [hff11]; exact isI_s iff8 _ _
  refine Run.go st9 ?_
  show Run p e below s 1 20 (Q_rm0 Z p1 p2 h0 n0) (T9.setTop (mkF m 14 #[.val (.int p1), .val (.int p2), .unset, .unset, .unset, .unset] [(.ref b3)]))
  refine Run.go (fun _ k => XS.dup Xg9.here hx rfl (hb hby at_14) rfl rfl k) ?_
  show Run p e below s 1 20 (Q_rm0 Z p1 p2 h0 n0) (T9.setTop (mkF m 15 #[.val (.int p1), .val (.int p2), .unset, .unset, .unset, .unset] [(.ref b3), (.ref b3)]))
  refine Run.go (fun _ k => XS.iconst Xg9.here hx rfl (hb hby at_15) k) ?_
  show Run p e below s 1 20 (Q_rm0 Z p1 p2 h0 n0) (T9.setTop (mkF m 16 #[.val (.int p1), .val (.int p2), .unset, .unset, .unset, .unset] [(.int (2 : Int32)), (.ref b3), (.ref b3)]))
  refine Run.go (fun _ k => XS.bipush Xg9.here hx rfl (hb hby at_16) k) ?_
  show Run p e below s 1 20 (Q_rm0 Z p1 p2 h0 n0) (T9.setTop (mkF m 18 #[.val (.int p1), .val (.int p2), .unset, .unset, .unset, .unset] [(.int (57 : Int32)), (.int (2 : Int32)), (.ref b3), (.ref b3)]))
  obtain ⟨T12, h12, X12, e12, W12, st12⟩ := ary_iset Xg9 hx hZ e9 fx10 (by decide) (by decide) (g := (mkF m 18 #[.val (.int p1), .val (.int p2), .unset, .unset, .unset, .unset] [(.int (57 : Int32)), (.int (2 : Int32)), (.ref b3), (.ref b3)])) rfl rfl (hb hby at_18)
  have N12 := Fr.snoc X12 Ng9 g_b3
  have Z12 : n0 ≤ h12.size := Nat.le_trans Z9 (Keep.of_wr W12).1
  obtain ⟨Lg12, Xg12, Ng12⟩ := Stand_gen X12 N12
  have fx13 : Ary Z h12 b3 .int 20 (fun i => if i = 2 then (.int (57 : Int32)) else ff11 i) := fx10.same W12
  obtain ⟨ff14, hff14⟩ : ∃ f : Nat → Value, f = (fun i => if i = 2 then (.int (57 : Int32)) else ff11 i) := ⟨_, rfl⟩
  rw [← hff14] at fx13
  have iff14 : ∀ n, ∃ y, ff14 n = Value.int y := by rw [hff14]; exact isI_s iff11 _ _
  refine Run.go st12 ?_
  show Run p e below s 1 20 (Q_rm0 Z p1 p2 h0 n0) (T12.setTop (mkF m 19 #[.val (.int p1), .val (.int p2), .unset, .unset, .unset, .unset] [(.ref b3)]))
  refine Run.go (fun _ k => XS.dup Xg12.here hx rfl (hb hby at_19) rfl rfl k) ?_
  show Run p e below s 1 20 (Q_rm0 Z p1 p2 h0 n0) (T12.setTop (mkF m 20 #[.val (.int p1), .val (.int p2), .unset, .unset, .unset, .unset] [(.ref b3), (.ref b3)]))
  refine Run.go (fun _ k => XS.iconst Xg12.here hx rfl (hb hby at_20) k) ?_
  show Run p e below s 1 20 (Q_rm0 Z p1 p2 h0 n0) (T12.setTop (mkF m 21 #[.val (.int p1), .val (.int p2), .unset, .unset, .unset, .unset] [(.int (3 : Int32)), (.ref b3), (.ref b3)]))
  refine Run.go (fun _ k => XS.bipush Xg12.here hx rfl (hb hby at_21) k) ?_
  show Run p e below s 1 20 (Q_rm0 Z p1 p2 h0 n0) (T12.setTop (mkF m 23 #[.val (.int p1), .val (.int p2), .unset, .unset, .unset, .unset] [(.int (58 : Int32)), (.int (3 : Int32)), (.ref b3), (.ref b3)]))
  obtain ⟨T15, h15, X15, e15, W15, st15⟩ := ary_iset Xg12 hx hZ e12 fx13 (by decide) (by decide) (g := (mkF m 23 #[.val (.int p1), .val (.int p2), .unset, .unset, .unset, .unset] [(.int (58 : Int32)), (.int (3 : Int32)), (.ref b3), (.ref b3)])) rfl rfl (hb hby at_23)
  have N15 := Fr.snoc X15 Ng12 g_b3
  have Z15 : n0 ≤ h15.size := Nat.le_trans Z12 (Keep.of_wr W15).1
  obtain ⟨Lg15, Xg15, Ng15⟩ := Stand_gen X15 N15
  have fx16 : Ary Z h15 b3 .int 20 (fun i => if i = 3 then (.int (58 : Int32)) else ff14 i) := fx13.same W15
  obtain ⟨ff17, hff17⟩ : ∃ f : Nat → Value, f = (fun i => if i = 3 then (.int (58 : Int32)) else ff14 i) := ⟨_, rfl⟩
  rw [← hff17] at fx16
  have iff17 : ∀ n, ∃ y, ff17 n = Value.int y := by rw [hff17]; exact isI_s iff14 _ _
  refine Run.go st15 ?_
  show Run p e below s 1 20 (Q_rm0 Z p1 p2 h0 n0) (T15.setTop (mkF m 24 #[.val (.int p1), .val (.int p2), .unset, .unset, .unset, .unset] [(.ref b3)]))
  refine Run.go (fun _ k => XS.dup Xg15.here hx rfl (hb hby at_24) rfl rfl k) ?_
  show Run p e below s 1 20 (Q_rm0 Z p1 p2 h0 n0) (T15.setTop (mkF m 25 #[.val (.int p1), .val (.int p2), .unset, .unset, .unset, .unset] [(.ref b3), (.ref b3)]))
  refine Run.go (fun _ k => XS.iconst Xg15.here hx rfl (hb hby at_25) k) ?_
  show Run p e below s 1 20 (Q_rm0 Z p1 p2 h0 n0) (T15.setTop (mkF m 26 #[.val (.int p1), .val (.int p2), .unset, .unset, .unset, .unset] [(.int (4 : Int32)), (.ref b3), (.ref b3)]))
  refine Run.go (fun _ k => XS.bipush Xg15.here hx rfl (hb hby at_26) k) ?_
  show Run p e below s 1 20 (Q_rm0 Z p1 p2 h0 n0) (T15.setTop (mkF m 28 #[.val (.int p1), .val (.int p2), .unset, .unset, .unset, .unset] [(.int (64 : Int32)), (.int (4 : Int32)), (.ref b3), (.ref b3)]))
  obtain ⟨T18, h18, X18, e18, W18, st18⟩ := ary_iset Xg15 hx hZ e15 fx16 (by decide) (by decide) (g := (mkF m 28 #[.val (.int p1), .val (.int p2), .unset, .unset, .unset, .unset] [(.int (64 : Int32)), (.int (4 : Int32)), (.ref b3), (.ref b3)])) rfl rfl (hb hby at_28)
  have N18 := Fr.snoc X18 Ng15 g_b3
  have Z18 : n0 ≤ h18.size := Nat.le_trans Z15 (Keep.of_wr W18).1
  obtain ⟨Lg18, Xg18, Ng18⟩ := Stand_gen X18 N18
  have fx19 : Ary Z h18 b3 .int 20 (fun i => if i = 4 then (.int (64 : Int32)) else ff17 i) := fx16.same W18
  obtain ⟨ff20, hff20⟩ : ∃ f : Nat → Value, f = (fun i => if i = 4 then (.int (64 : Int32)) else ff17 i) := ⟨_, rfl⟩
  rw [← hff20] at fx19
  have iff20 : ∀ n, ∃ y, ff20 n = Value.int y := by rw [hff20]; exact isI_s iff17 _ _
  refine Run.go st18 ?_
  show Run p e below s 1 20 (Q_rm0 Z p1 p2 h0 n0) (T18.setTop (mkF m 29 #[.val (.int p1), .val (.int p2), .unset, .unset, .unset, .unset] [(.ref b3)]))
  refine Run.go (fun _ k => XS.dup Xg18.here hx rfl (hb hby at_29) rfl rfl k) ?_
  show Run p e below s 1 20 (Q_rm0 Z p1 p2 h0 n0) (T18.setTop (mkF m 30 #[.val (.int p1), .val (.int p2), .unset, .unset, .unset, .unset] [(.ref b3), (.ref b3)]))
  refine Run.go (fun _ k => XS.iconst Xg18.here hx rfl (hb hby at_30) k) ?_
  show Run p e below s 1 20 (Q_rm0 Z p1 p2 h0 n0) (T18.setTop (mkF m 31 #[.val (.int p1), .val (.int p2), .unset, .unset, .unset, .unset] [(.int (5 : Int32)), (.ref b3), (.ref b3)]))
  refine Run.go (fun _ k => XS.bipush Xg18.here hx rfl (hb hby at_31) k) ?_
  show Run p e below s 1 20 (Q_rm0 Z p1 p2 h0 n0) (T18.setTop (mkF m 33 #[.val (.int p1), .val (.int p2), .unset, .unset, .unset, .unset] [(.int (65 : Int32)), (.int (5 : Int32)), (.ref b3), (.ref b3)]))
  obtain ⟨T21, h21, X21, e21, W21, st21⟩ := ary_iset Xg18 hx hZ e18 fx19 (by decide) (by decide) (g := (mkF m 33 #[.val (.int p1), .val (.int p2), .unset, .unset, .unset, .unset] [(.int (65 : Int32)), (.int (5 : Int32)), (.ref b3), (.ref b3)])) rfl rfl (hb hby at_33)
  have N21 := Fr.snoc X21 Ng18 g_b3
  have Z21 : n0 ≤ h21.size := Nat.le_trans Z18 (Keep.of_wr W21).1
  obtain ⟨Lg21, Xg21, Ng21⟩ := Stand_gen X21 N21
  have fx22 : Ary Z h21 b3 .int 20 (fun i => if i = 5 then (.int (65 : Int32)) else ff20 i) := fx19.same W21
  obtain ⟨ff23, hff23⟩ : ∃ f : Nat → Value, f = (fun i => if i = 5 then (.int (65 : Int32)) else ff20 i) := ⟨_, rfl⟩
  rw [← hff23] at fx22
  have iff23 : ∀ n, ∃ y, ff23 n = Value.int y := by rw [hff23]; exact isI_s iff20 _ _
  refine Run.go st21 ?_
  show Run p e below s 1 20 (Q_rm0 Z p1 p2 h0 n0) (T21.setTop (mkF m 34 #[.val (.int p1), .val (.int p2), .unset, .unset, .unset, .unset] [(.ref b3)]))
  refine Run.go (fun _ k => XS.dup Xg21.here hx rfl (hb hby at_34) rfl rfl k) ?_
  show Run p e below s 1 20 (Q_rm0 Z p1 p2 h0 n0) (T21.setTop (mkF m 35 #[.val (.int p1), .val (.int p2), .unset, .unset, .unset, .unset] [(.ref b3), (.ref b3)]))
  refine Run.go (fun _ k => XS.bipush Xg21.here hx rfl (hb hby at_35) k) ?_
  show Run p e below s 1 20 (Q_rm0 Z p1 p2 h0 n0) (T21.setTop (mkF m 37 #[.val (.int p1), .val (.int p2), .unset, .unset, .unset, .unset] [(.int (6 : Int32)), (.ref b3), (.ref b3)]))
  refine Run.go (fun _ k => XS.bipush Xg21.here hx rfl (hb hby at_37) k) ?_
  show Run p e below s 1 20 (Q_rm0 Z p1 p2 h0 n0) (T21.setTop (mkF m 39 #[.val (.int p1), .val (.int p2), .unset, .unset, .unset, .unset] [(.int (90 : Int32)), (.int (6 : Int32)), (.ref b3), (.ref b3)]))
  obtain ⟨T24, h24, X24, e24, W24, st24⟩ := ary_iset Xg21 hx hZ e21 fx22 (by decide) (by decide) (g := (mkF m 39 #[.val (.int p1), .val (.int p2), .unset, .unset, .unset, .unset] [(.int (90 : Int32)), (.int (6 : Int32)), (.ref b3), (.ref b3)])) rfl rfl (hb hby at_39)
  have N24 := Fr.snoc X24 Ng21 g_b3
  have Z24 : n0 ≤ h24.size := Nat.le_trans Z21 (Keep.of_wr W24).1
  obtain ⟨Lg24, Xg24, Ng24⟩ := Stand_gen X24 N24
  have fx25 : Ary Z h24 b3 .int 20 (fun i => if i = 6 then (.int (90 : Int32)) else ff23 i) := fx22.same W24
  obtain ⟨ff26, hff26⟩ : ∃ f : Nat → Value, f = (fun i => if i = 6 then (.int (90 : Int32)) else ff23 i) := ⟨_, rfl⟩
  rw [← hff26] at fx25
  have iff26 : ∀ n, ∃ y, ff26 n = Value.int y := by rw [hff26]; exact isI_s iff23 _ _
  refine Run.go st24 ?_
  show Run p e below s 1 20 (Q_rm0 Z p1 p2 h0 n0) (T24.setTop (mkF m 40 #[.val (.int p1), .val (.int p2), .unset, .unset, .unset, .unset] [(.ref b3)]))
  refine Run.go (fun _ k => XS.dup Xg24.here hx rfl (hb hby at_40) rfl rfl k) ?_
  show Run p e below s 1 20 (Q_rm0 Z p1 p2 h0 n0) (T24.setTop (mkF m 41 #[.val (.int p1), .val (.int p2), .unset, .unset, .unset, .unset] [(.ref b3), (.ref b3)]))
  refine Run.go (fun _ k => XS.bipush Xg24.here hx rfl (hb hby at_41) k) ?_
  show Run p e below s 1 20 (Q_rm0 Z p1 p2 h0 n0) (T24.setTop (mkF m 43 #[.val (.int p1), .val (.int p2), .unset, .unset, .unset, .unset] [(.int (7 : Int32)), (.ref b3), (.ref b3)]))
  refine Run.go (fun _ k => XS.bipush Xg24.here hx rfl (hb hby at_43) k) ?_
  show Run p e below s 1 20 (Q_rm0 Z p1 p2 h0 n0) (T24.setTop (mkF m 45 #[.val (.int p1), .val (.int p2), .unset, .unset, .unset, .unset] [(.int (91 : Int32)), (.int (7 : Int32)), (.ref b3), (.ref b3)]))
  obtain ⟨T27, h27, X27, e27, W27, st27⟩ := ary_iset Xg24 hx hZ e24 fx25 (by decide) (by decide) (g := (mkF m 45 #[.val (.int p1), .val (.int p2), .unset, .unset, .unset, .unset] [(.int (91 : Int32)), (.int (7 : Int32)), (.ref b3), (.ref b3)])) rfl rfl (hb hby at_45)
  have N27 := Fr.snoc X27 Ng24 g_b3
  have Z27 : n0 ≤ h27.size := Nat.le_trans Z24 (Keep.of_wr W27).1
  obtain ⟨Lg27, Xg27, Ng27⟩ := Stand_gen X27 N27
  have fx28 : Ary Z h27 b3 .int 20 (fun i => if i = 7 then (.int (91 : Int32)) else ff26 i) := fx25.same W27
  obtain ⟨ff29, hff29⟩ : ∃ f : Nat → Value, f = (fun i => if i = 7 then (.int (91 : Int32)) else ff26 i) := ⟨_, rfl⟩
  rw [← hff29] at fx28
  have iff29 : ∀ n, ∃ y, ff29 n = Value.int y := by rw [hff29]; exact isI_s iff26 _ _
  refine Run.go st27 ?_
  show Run p e below s 1 20 (Q_rm0 Z p1 p2 h0 n0) (T27.setTop (mkF m 46 #[.val (.int p1), .val (.int p2), .unset, .unset, .unset, .unset] [(.ref b3)]))
  refine Run.go (fun _ k => XS.dup Xg27.here hx rfl (hb hby at_46) rfl rfl k) ?_
  show Run p e below s 1 20 (Q_rm0 Z p1 p2 h0 n0) (T27.setTop (mkF m 47 #[.val (.int p1), .val (.int p2), .unset, .unset, .unset, .unset] [(.ref b3), (.ref b3)]))
  refine Run.go (fun _ k => XS.bipush Xg27.here hx rfl (hb hby at_47) k) ?_
  show Run p e below s 1 20 (Q_rm0 Z p1 p2 h0 n0) (T27.setTop (mkF m 49 #[.val (.int p1), .val (.int p2), .unset, .unset, .unset, .unset] [(.int (8 : Int32)), (.ref b3), (.ref b3)]))
  refine Run.go (fun _ k => XS.bipush Xg27.here hx rfl (hb hby at_49) k) ?_
  show Run p e below s 1 20 (Q_rm0 Z p1 p2 h0 n0) (T27.setTop (mkF m 51 #[.val (.int p1), .val (.int p2), .unset, .unset, .unset, .unset] [(.int (94 : Int32)), (.int (8 : Int32)), (.ref b3), (.ref b3)]))
  obtain ⟨T30, h30, X30, e30, W30, st30⟩ := ary_iset Xg27 hx hZ e27 fx28 (by decide) (by decide) (g := (mkF m 51 #[.val (.int p1), .val (.int p2), .unset, .unset, .unset, .unset] [(.int (94 : Int32)), (.int (8 : Int32)), (.ref b3), (.ref b3)])) rfl rfl (hb hby at_51)
  have N30 := Fr.snoc X30 Ng27 g_b3
  have Z30 : n0 ≤ h30.size := Nat.le_trans Z27 (Keep.of_wr W30).1
  obtain ⟨Lg30, Xg30, Ng30⟩ := Stand_gen X30 N30
  have fx31 : Ary Z h30 b3 .int 20 (fun i => if i = 8 then (.int (94 : Int32)) else ff29 i) := fx28.same W30
  obtain ⟨ff32, hff32⟩ : ∃ f : Nat → Value, f = (fun i => if i = 8 then (.int (94 : Int32)) else ff29 i) := ⟨_, rfl⟩
  rw [← hff32] at fx31
  have iff32 : ∀ n, ∃ y, ff32 n = Value.int y := by rw [hff32]; exact isI_s iff29 _ _
  refine Run.go st30 ?_
  show Run p e below s 1 20 (Q_rm0 Z p1 p2 h0 n0) (T30.setTop (mkF m 52 #[.val (.int p1), .val (.int p2), .unset, .unset, .unset, .unset] [(.ref b3)]))
  refine Run.go (fun _ k => XS.dup Xg30.here hx rfl (hb hby at_52) rfl rfl k) ?_
  show Run p e below s 1 20 (Q_rm0 Z p1 p2 h0 n0) (T30.setTop (mkF m 53 #[.val (.int p1), .val (.int p2), .unset, .unset, .unset, .unset] [(.ref b3), (.ref b3)]))
  refine Run.go (fun _ k => XS.bipush Xg30.here hx rfl (hb hby at_53) k) ?_
  show Run p e below s 1 20 (Q_rm0 Z p1 p2 h0 n0) (T30.setTop (mkF m 55 #[.val (.int p1), .val (.int p2), .unset, .unset, .unset, .unset] [(.int (9 : Int32)), (.ref b3), (.ref b3)]))
  refine Run.go (fun _ k => XS.bipush Xg30.here hx rfl (hb hby at_55) k) ?_
  show Run p e below s 1 20 (Q_rm0 Z p1 p2 h0 n0) (T30.setTop (mkF m 57 #[.val (.int p1), .val (.int p2), .unset, .unset, .unset, .unset] [(.int (95 : Int32)), (.int (9 : Int32)), (.ref b3), (.ref b3)]))
  obtain ⟨T33, h33, X33, e33, W33, st33⟩ := ary_iset Xg30 hx hZ e30 fx31 (by decide) (by decide) (g := (mkF m 57 #[.val (.int p1), .val (.int p2), .unset, .unset, .unset, .unset] [(.int (95 : Int32)), (.int (9 : Int32)), (.ref b3), (.ref b3)])) rfl rfl (hb hby at_57)
  have N33 := Fr.snoc X33 Ng30 g_b3
  have Z33 : n0 ≤ h33.size := Nat.le_trans Z30 (Keep.of_wr W33).1
  obtain ⟨Lg33, Xg33, Ng33⟩ := Stand_gen X33 N33
  have fx34 : Ary Z h33 b3 .int 20 (fun i => if i = 9 then (.int (95 : Int32)) else ff32 i) := fx31.same W33
  obtain ⟨ff35, hff35⟩ : ∃ f : Nat → Value, f = (fun i => if i = 9 then (.int (95 : Int32)) else ff32 i) := ⟨_, rfl⟩
  rw [← hff35] at fx34
  have iff35 : ∀ n, ∃ y, ff35 n = Value.int y := by rw [hff35]; exact isI_s iff32 _ _
  refine Run.go st33 ?_
  show Run p e below s 1 20 (Q_rm0 Z p1 p2 h0 n0) (T33.setTop (mkF m 58 #[.val (.int p1), .val (.int p2), .unset, .unset, .unset, .unset] [(.ref b3)]))
  refine Run.go (fun _ k => XS.dup Xg33.here hx rfl (hb hby at_58) rfl rfl k) ?_
  show Run p e below s 1 20 (Q_rm0 Z p1 p2 h0 n0) (T33.setTop (mkF m 59 #[.val (.int p1), .val (.int p2), .unset, .unset, .unset, .unset] [(.ref b3), (.ref b3)]))
  refine Run.go (fun _ k => XS.bipush Xg33.here hx rfl (hb hby at_59) k) ?_
  show Run p e below s 1 20 (Q_rm0 Z p1 p2 h0 n0) (T33.setTop (mkF m 61 #[.val (.int p1), .val (.int p2), .unset, .unset, .unset, .unset] [(.int (10 : Int32)), (.ref b3), (.ref b3)]))
  refine Run.go (fun _ k => XS.bipush Xg33.here hx rfl (hb hby at_61) k) ?_
  show Run p e below s 1 20 (Q_rm0 Z p1 p2 h0 n0) (T33.setTop (mkF m 63 #[.val (.int p1), .val (.int p2), .unset, .unset, .unset, .unset] [(.int (96 : Int32)), (.int (10 : Int32)), (.ref b3), (.ref b3)]))
  obtain ⟨T36, h36, X36, e36, W36, st36⟩ := ary_iset Xg33 hx hZ e33 fx34 (by decide) (by decide) (g := (mkF m 63 #[.val (.int p1), .val (.int p2), .unset, .unset, .unset, .unset] [(.int (96 : Int32)), (.int (10 : Int32)), (.ref b3), (.ref b3)])) rfl rfl (hb hby at_63)
  have N36 := Fr.snoc X36 Ng33 g_b3
  have Z36 : n0 ≤ h36.size := Nat.le_trans Z33 (Keep.of_wr W36).1
  obtain ⟨Lg36, Xg36, Ng36⟩ := Stand_gen X36 N36
  have fx37 : Ary Z h36 b3 .int 20 (fun i => if i = 10 then (.int (96 : Int32)) else ff35 i) := fx34.same W36
  obtain ⟨ff38, hff38⟩ : ∃ f : Nat → Value, f = (fun i => if i = 10 then (.int (96 : Int32)) else ff35 i) := ⟨_, rfl⟩
  rw [← hff38] at fx37
  have iff38 : ∀ n, ∃ y, ff38 n = Value.int y := by rw [hff38]; exact isI_s iff35 _ _
  refine Run.go st36 ?_
  show Run p e below s 1 20 (Q_rm0 Z p1 p2 h0 n0) (T36.setTop (mkF m 64 #[.val (.int p1), .val (.int p2), .unset, .unset, .unset, .unset] [(.ref b3)]))
  refine Run.go (fun _ k => XS.dup Xg36.here hx rfl (hb hby at_64) rfl rfl k) ?_
  show Run p e below s 1 20 (Q_rm0 Z p1 p2 h0 n0) (T36.setTop (mkF m 65 #[.val (.int p1), .val (.int p2), .unset, .unset, .unset, .unset] [(.ref b3), (.ref b3)]))
  refine Run.go (fun _ k => XS.bipush Xg36.here hx rfl (hb hby at_65) k) ?_
  show Run p e below s 1 20 (Q_rm0 Z p1 p2 h0 n0) (T36.setTop (mkF m 67 #[.val (.int p1), .val (.int p2), .unset, .unset, .unset, .unset] [(.int (11 : Int32)), (.ref b3), (.ref b3)]))
  refine Run.go (fun _ k => XS.bipush Xg36.here hx rfl (hb hby at_67) k) ?_
  show Run p e below s 1 20 (Q_rm0 Z p1 p2 h0 n0) (T36.setTop (mkF m 69 #[.val (.int p1), .val (.int p2), .unset, .unset, .unset, .unset] [(.int (97 : Int32)), (.int (11 : Int32)), (.ref b3), (.ref b3)]))
  obtain ⟨T39, h39, X39, e39, W39, st39⟩ := ary_iset Xg36 hx hZ e36 fx37 (by decide) (by decide) (g := (mkF m 69 #[.val (.int p1), .val (.int p2), .unset, .unset, .unset, .unset] [(.int (97 : Int32)), (.int (11 : Int32)), (.ref b3), (.ref b3)])) rfl rfl (hb hby at_69)
  have N39 := Fr.snoc X39 Ng36 g_b3
  have Z39 : n0 ≤ h39.size := Nat.le_trans Z36 (Keep.of_wr W39).1
  obtain ⟨Lg39, Xg39, Ng39⟩ := Stand_gen X39 N39
  have fx40 : Ary Z h39 b3 .int 20 (fun i => if i = 11 then (.int (97 : Int32)) else ff38 i) := fx37.same W39
  obtain ⟨ff41, hff41⟩ : ∃ f : Nat → Value, f = (fun i => if i = 11 then (.int (97 : Int32)) else ff38 i) := ⟨_, rfl⟩
  rw [← hff41] at fx40
  have iff41 : ∀ n, ∃ y, ff41 n = Value.int y := by rw [hff41]; exact isI_s iff38 _ _
  refine Run.go st39 ?_
  show Run p e below s 1 20 (Q_rm0 Z p1 p2 h0 n0) (T39.setTop (mkF m 70 #[.val (.int p1), .val (.int p2), .unset, .unset, .unset, .unset] [(.ref b3)]))
  refine Run.go (fun _ k => XS.dup Xg39.here hx rfl (hb hby at_70) rfl rfl k) ?_
  show Run p e below s 1 20 (Q_rm0 Z p1 p2 h0 n0) (T39.setTop (mkF m 71 #[.val (.int p1), .val (.int p2), .unset, .unset, .unset, .unset] [(.ref b3), (.ref b3)]))
  refine Run.go (fun _ k => XS.bipush Xg39.here hx rfl (hb hby at_71) k) ?_
  show Run p e below s 1 20 (Q_rm0 Z p1 p2 h0 n0) (T39.setTop (mkF m 73 #[.val (.int p1), .val (.int p2), .unset, .unset, .unset, .unset] [(.int (12 : Int32)), (.ref b3), (.ref b3)]))
  refine Run.go (fun _ k => XS.bipush Xg39.here hx rfl (hb hby at_73) k) ?_
  show Run p e below s 1 20 (Q_rm0 Z p1 p2 h0 n0) (T39.setTop (mkF m 75 #[.val (.int p1), .val (.int p2), .unset, .unset, .unset, .unset] [(.int (122 : Int32)), (.int (12 : Int32)), (.ref b3), (.ref b3)]))
  obtain ⟨T42, h42, X42, e42, W42, st42⟩ := ary_iset Xg39 hx hZ e39 fx40 (by decide) (by decide) (g := (mkF m 75 #[.val (.int p1), .val (.int p2), .unset, .unset, .unset, .unset] [(.int (122 : Int32)), (.int (12 : Int32)), (.ref b3), (.ref b3)])) rfl rfl (hb hby at_75)
  have N42 := Fr.snoc X42 Ng39 g_b3
  have Z42 : n0 ≤ h42.size := Nat.le_trans Z39 (Keep.of_wr W42).1
  obtain ⟨Lg42, Xg42, Ng42⟩ := Stand_gen X42 N42
  have fx43 : Ary Z h42 b3 .int 20 (fun i => if i = 12 then (.int (122 : Int32)) else ff41 i) := fx40.same W42
  obtain ⟨ff44, hff44⟩ : ∃ f : Nat → Value, f = (fun i => if i = 12 then (.int (122 : Int32)) else ff41 i) := ⟨_, rfl⟩
  rw [← hff44] at fx43
  have iff44 : ∀ n, ∃ y, ff44 n = Value.int y := by rw [hff44]; exact isI_s iff41 _ _
  refine Run.go st42 ?_
  show Run p e below s 1 20 (Q_rm0 Z p1 p2 h0 n0) (T42.setTop (mkF m 76 #[.val (.int p1), .val (.int p2), .unset, .unset, .unset, .unset] [(.ref b3)]))
  refine Run.go (fun _ k => XS.dup Xg42.here hx rfl (hb hby at_76) rfl rfl k) ?_
  show Run p e below s 1 20 (Q_rm0 Z p1 p2 h0 n0) (T42.setTop (mkF m 77 #[.val (.int p1), .val (.int p2), .unset, .unset, .unset, .unset] [(.ref b3), (.ref b3)]))
  refine Run.go (fun _ k => XS.bipush Xg42.here hx rfl (hb hby at_77) k) ?_
  show Run p e below s 1 20 (Q_rm0 Z p1 p2 h0 n0) (T42.setTop (mkF m 79 #[.val (.int p1), .val (.int p2), .unset, .unset, .unset, .unset] [(.int (13 : Int32)), (.ref b3), (.ref b3)]))
  refine Run.go (fun _ k => XS.bipush Xg42.here hx rfl (hb hby at_79) k) ?_
  show Run p e below s 1 20 (Q_rm0 Z p1 p2 h0 n0) (T42.setTop (mkF m 81 #[.val (.int p1), .val (.int p2), .unset, .unset, .unset, .unset] [(.int (123 : Int32)), (.int (13 : Int32)), (.ref b3), (.ref b3)]))
  obtain ⟨T45, h45, X45, e45, W45, st45⟩ := ary_iset Xg42 hx hZ e42 fx43 (by decide) (by decide) (g := (mkF m 81 #[.val (.int p1), .val (.int p2), .unset, .unset, .unset, .unset] [(.int (123 : Int32)), (.int (13 : Int32)), (.ref b3), (.ref b3)])) rfl rfl (hb hby at_81)
  have N45 := Fr.snoc X45 Ng42 g_b3
  have Z45 : n0 ≤ h45.size := Nat.le_trans Z42 (Keep.of_wr W45).1
  obtain ⟨Lg45, Xg45, Ng45⟩ := Stand_gen X45 N45
  have fx46 : Ary Z h45 b3 .int 20 (fun i => if i = 13 then (.int (123 : Int32)) else ff44 i) := fx43.same W45
  obtain ⟨ff47, hff47⟩ : ∃ f : Nat → Value, f = (fun i => if i = 13 then (.int (123 : Int32)) else ff44 i) := ⟨_, rfl⟩
  rw [← hff47] at fx46
  have iff47 : ∀ n, ∃ y, ff47 n = Value.int y := by rw [hff47]; exact isI_s iff44 _ _
  refine Run.go st45 ?_
  show Run p e below s 1 20 (Q_rm0 Z p1 p2 h0 n0) (T45.setTop (mkF m 82 #[.val (.int p1), .val (.int p2), .unset, .unset, .unset, .unset] [(.ref b3)]))
  refine Run.go (fun _ k => XS.dup Xg45.here hx rfl (hb hby at_82) rfl rfl k) ?_
  show Run p e below s 1 20 (Q_rm0 Z p1 p2 h0 n0) (T45.setTop (mkF m 83 #[.val (.int p1), .val (.int p2), .unset, .unset, .unset, .unset] [(.ref b3), (.ref b3)]))
  refine Run.go (fun _ k => XS.bipush Xg45.here hx rfl (hb hby at_83) k) ?_
  show Run p e below s 1 20 (Q_rm0 Z p1 p2 h0 n0) (T45.setTop (mkF m 85 #[.val (.int p1), .val (.int p2), .unset, .unset, .unset, .unset] [(.int (14 : Int32)), (.ref b3), (.ref b3)]))
  refine Run.go (fun _ k => XS.iconst Xg45.here hx rfl (hb hby at_85) k) ?_
  show Run p e below s 1 20 (Q_rm0 Z p1 p2 h0 n0) (T45.setTop (mkF m 86 #[.val (.int p1), .val (.int p2), .unset, .unset, .unset, .unset] [(.int (0 : Int32)), (.int (14 : Int32)), (.ref b3), (.ref b3)]))
  obtain ⟨T48, h48, X48, e48, W48, st48⟩ := ary_iset Xg45 hx hZ e45 fx46 (by decide) (by decide) (g := (mkF m 86 #[.val (.int p1), .val (.int p2), .unset, .unset, .unset, .unset] [(.int (0 : Int32)), (.int (14 : Int32)), (.ref b3), (.ref b3)])) rfl rfl (hb hby at_86)
  have N48 := Fr.snoc X48 Ng45 g_b3
  have Z48 : n0 ≤ h48.size := Nat.le_trans Z45 (Keep.of_wr W48).1
  obtain ⟨Lg48, Xg48, Ng48⟩ := Stand_gen X48 N48
  have fx49 : Ary Z h48 b3 .int 20 (fun i => if i = 14 then (.int (0 : Int32)) else ff47 i) := fx46.same W48
  obtain ⟨ff50, hff50⟩ : ∃ f : Nat → Value, f = (fun i => if i = 14 then (.int (0 : Int32)) else ff47 i) := ⟨_, rfl⟩
  rw [← hff50] at fx49
  have iff50 : ∀ n, ∃ y, ff50 n = Value.int y := by rw [hff50]; exact isI_s iff47 _ _
  refine Run.go st48 ?_
  show Run p e below s 1 20 (Q_rm0 Z p1 p2 h0 n0) (T48.setTop (mkF m 87 #[.val (.int p1), .val (.int p2), .unset, .unset, .unset, .unset] [(.ref b3)]))
  refine Run.go (fun _ k => XS.dup Xg48.here hx rfl (hb hby at_87) rfl rfl k) ?_
  show Run p e below s 1 20 (Q_rm0 Z p1 p2 h0 n0) (T48.setTop (mkF m 88 #[.val (.int p1), .val (.int p2), .unset, .unset, .unset, .unset] [(.ref b3), (.ref b3)]))
  refine Run.go (fun _ k => XS.bipush Xg48.here hx rfl (hb hby at_88) k) ?_
  show Run p e below s 1 20 (Q_rm0 Z p1 p2 h0 n0) (T48.setTop (mkF m 90 #[.val (.int p1), .val (.int p2), .unset, .unset, .unset, .unset] [(.int (15 : Int32)), (.ref b3), (.ref b3)]))
  refine Run.go (fun _ k => Xg48.ldcInt hx hown (mvT hZ (hw _ (List.mem_of_getElem? (i := 1) rfl))) (g := (mkF m 90 #[.val (.int p1), .val (.int p2), .unset, .unset, .unset, .unset] [(.int (15 : Int32)), (.ref b3), (.ref b3)])) rfl (hb hby at_90) _ k) ?_
  show Run p e below s 1 20 (Q_rm0 Z p1 p2 h0 n0) (T48.setTop (mkF m 92 #[.val (.int p1), .val (.int p2), .unset, .unset, .unset, .unset] [(.int (-2147483648 : Int32)), (.int (15 : Int32)), (.ref b3), (.ref b3)]))
  obtain ⟨T51, h51, X51, e51, W51, st51⟩ := ary_iset Xg48 hx hZ e48 fx49 (by decide) (by decide) (g := (mkF m 92 #[.val (.int p1), .val (.int p2), .unset, .unset, .unset, .unset] [(.int (-2147483648 : Int32)), (.int (15 : Int32)), (.ref b3), (.ref b3)])) rfl rfl (hb hby at_92)
  have N51 := Fr.snoc X51 Ng48 g_b3
  have Z51 : n0 ≤ h51.size := Nat.le_trans Z48 (Keep.of_wr W51).1
  obtain ⟨Lg51, Xg51, Ng51⟩ := Stand_gen X51 N51
  have fx52 : Ary Z h51 b3 .int 20 (fun i => if i = 15 then (.int (-2147483648 : Int32)) else ff50 i) := fx49.same W51
  obtain ⟨ff53, hff53⟩ : ∃ f : Nat → Value, f = (fun i => if i = 15 then (.int (-2147483648 : Int32)) else ff50 i) := ⟨_, rfl⟩
  rw [← hff53] at fx52
  have iff53 : ∀ n, ∃ y, ff53 n = Value.int y := by rw [hff53]; exact isI_s iff50 _ _
  refine Run.go st51 ?_
  show Run p e below s 1 20 (Q_rm0 Z p1 p2 h0 n0) (T51.setTop (mkF m 93 #[.val (.int p1), .val (.int p2), .unset, .unset, .unset, .unset] [(.ref b3)]))
  refine Run.go (fun _ k => XS.dup Xg51.here hx rfl (hb hby at_93) rfl rfl k) ?_
  show Run p e below s 1 20 (Q_rm0 Z p1 p2 h0 n0) (T51.setTop (mkF m 94 #[.val (.int p1), .val (.int p2), .unset, .unset, .unset, .unset] [(.ref b3), (.ref b3)]))
  refine Run.go (fun _ k => XS.bipush Xg51.here hx rfl (hb hby at_94) k) ?_
  show Run p e below s 1 20 (Q_rm0 Z p1 p2 h0 n0) (T51.setTop (mkF m 96 #[.val (.int p1), .val (.int p2), .unset, .unset, .unset, .unset] [(.int (16 : Int32)), (.ref b3), (.ref b3)]))
  refine Run.go (fun _ k => Xg51.ldcInt hx hown (mvT hZ (hw _ (List.mem_of_getElem? (i := 2) rfl))) (g := (mkF m 96 #[.val (.int p1), .val (.int p2), .unset, .unset, .unset, .unset] [(.int (16 : Int32)), (.ref b3), (.ref b3)])) rfl (hb hby at_96) _ k) ?_
  show Run p e below s 1 20 (Q_rm0 Z p1 p2 h0 n0) (T51.setTop (mkF m 98 #[.val (.int p1), .val (.int p2), .unset, .unset, .unset, .unset] [(.int (2147483647 : Int32)), (.int (16 : Int32)), (.ref b3), (.ref b3)]))
  obtain ⟨T54, h54, X54, e54, W54, st54⟩ := ary_iset Xg51 hx hZ e51 fx52 (by decide) (by decide) (g := (mkF m 98 #[.val (.int p1), .val (.int p2), .unset, .unset, .unset, .unset] [(.int (2147483647 : Int32)), (.int (16 : Int32)), (.ref b3), (.ref b3)])) rfl rfl (hb hby at_98)
  have N54 := Fr.snoc X54 Ng51 g_b3
  have Z54 : n0 ≤ h54.size := Nat.le_trans Z51 (Keep.of_wr W54).1
  obtain ⟨Lg54, Xg54, Ng54⟩ := Stand_gen X54 N54
  have fx55 : Ary Z h54 b3 .int 20 (fun i => if i = 16 then (.int (2147483647 : Int32)) else ff53 i) := fx52.same W54
  obtain ⟨ff56, hff56⟩ : ∃ f : Nat → Value, f = (fun i => if i = 16 then (.int (2147483647 : Int32)) else ff53 i) := ⟨_, rfl⟩
  rw [← hff56] at fx55
  have iff56 : ∀ n, ∃ y, ff56 n = Value.int y := by rw [hff56]; exact isI_s iff53 _ _
  refine Run.go st54 ?_
  show Run p e below s 1 20 (Q_rm0 Z p1 p2 h0 n0) (T54.setTop (mkF m 99 #[.val (.int p1), .val (.int p2), .unset, .unset, .unset, .unset] [(.ref b3)]))
  refine Run.go (fun _ k => XS.dup Xg54.here hx rfl (hb hby at_99) rfl rfl k) ?_
  show Run p e below s 1 20 (Q_rm0 Z p1 p2 h0 n0) (T54.setTop (mkF m 100 #[.val (.int p1), .val (.int p2), .unset, .unset, .unset, .unset] [(.ref b3), (.ref b3)]))
  refine Run.go (fun _ k => XS.bipush Xg54.here hx rfl (hb hby at_100) k) ?_
  show Run p e below s 1 20 (Q_rm0 Z p1 p2 h0 n0) (T54.setTop (mkF m 102 #[.val (.int p1), .val (.int p2), .unset, .unset, .unset, .unset] [(.int (17 : Int32)), (.ref b3), (.ref b3)]))
  refine Run.go (fun _ k => XS.iconst Xg54.here hx rfl (hb hby at_102) k) ?_
  show Run p e below s 1 20 (Q_rm0 Z p1 p2 h0 n0) (T54.setTop (mkF m 103 #[.val (.int p1), .val (.int p2), .unset, .unset, .unset, .unset] [(.int (-1 : Int32)), (.int (17 : Int32)), (.ref b3), (.ref b3)]))
  obtain ⟨T57, h57, X57, e57, W57, st57⟩ := ary_iset Xg54 hx hZ e54 fx55 (by decide) (by decide) (g := (mkF m 103 #[.val (.int p1), .val (.int p2), .unset, .unset, .unset, .unset] [(.int (-1 : Int32)), (.int (17 : Int32)), (.ref b3), (.ref b3)])) rfl rfl (hb hby at_103)
  have N57 := Fr.snoc X57 Ng54 g_b3
  have Z57 : n0 ≤ h57.size := Nat.le_trans Z54 (Keep.of_wr W57).1
  obtain ⟨Lg57, Xg57, Ng57⟩ := Stand_gen X57 N57
  have fx58 : Ary Z h57 b3 .int 20 (fun i => if i = 17 then (.int (-1 : Int32)) else ff56 i) := fx55.same W57
  obtain ⟨ff59, hff59⟩ : ∃ f : Nat → Value, f = (fun i => if i = 17 then (.int (-1 : Int32)) else ff56 i) := ⟨_, rfl⟩
  rw [← hff59] at fx58
  have iff59 : ∀ n, ∃ y, ff59 n = Value.int y := by rw [hff59]; exact isI_s iff56 _ _
  refine Run.go st57 ?_
  show Run p e below s 1 20 (Q_rm0 Z p1 p2 h0 n0) (T57.setTop (mkF m 104 #[.val (.int p1), .val (.int p2), .unset, .unset, .unset, .unset] [(.ref b3)]))
  refine Run.go (fun _ k => XS.dup Xg57.here hx rfl (hb hby at_104) rfl rfl k) ?_
  show Run p e below s 1 20 (Q_rm0 Z p1 p2 h0 n0) (T57.setTop (mkF m 105 #[.val (.int p1), .val (.int p2), .unset, .unset, .unset, .unset] [(.ref b3), (.ref b3)]))
  refine Run.go (fun _ k => XS.bipush Xg57.here hx rfl (hb hby at_105) k) ?_
  show Run p e below s 1 20 (Q_rm0 Z p1 p2 h0 n0) (T57.setTop (mkF m 107 #[.val (.int p1), .val (.int p2), .unset, .unset, .unset, .unset] [(.int (18 : Int32)), (.ref b3), (.ref b3)]))
  refine Run.go (fun _ k => XS.sipush Xg57.here hx rfl (hb hby at_107) k) ?_
  show Run p e below s 1 20 (Q_rm0 Z p1 p2 h0 n0) (T57.setTop (mkF m 110 #[.val (.int p1), .val (.int p2), .unset, .unset, .unset, .unset] [(.int (255 : Int32)), (.int (18 : Int32)), (.ref b3), (.ref b3)]))
  obtain ⟨T60, h60, X60, e60, W60, st60⟩ := ary_iset Xg57 hx hZ e57 fx58 (by decide) (by decide) (g := (mkF m 110 #[.val (.int p1), .val (.int p2), .unset, .unset, .unset, .unset] [(.int (255 : Int32)), (.int (18 : Int32)), (.ref b3), (.ref b3)])) rfl rfl (hb hby at_110)
  have N60 := Fr.snoc X60 Ng57 g_b3
  have Z60 : n0 ≤ h60.size := Nat.le_trans Z57 (Keep.of_wr W60).1
  obtain ⟨Lg60, Xg60, Ng60⟩ := Stand_gen X60 N60
  have fx61 : Ary Z h60 b3 .int 20 (fun i => if i = 18 then (.int (255 : Int32)) else ff59 i) := fx58.same W60
  obtain ⟨ff62, hff62⟩ : ∃ f : Nat → Value, f = (fun i => if i = 18 then (.int (255 : Int32)) else ff59 i) := ⟨_, rfl⟩
  rw [← hff62] at fx61
  have iff62 : ∀ n, ∃ y, ff62 n = Value.int y := by rw [hff62]; exact isI_s iff59 _ _
  refine Run.go st60 ?_
  show Run p e below s 1 20 (Q_rm0 Z p1 p2 h0 n0) (T60.setTop (mkF m 111 #[.val (.int p1), .val (.int p2), .unset, .unset, .unset, .unset] [(.ref b3)]))
  refine Run.go (fun _ k => XS.dup Xg60.here hx rfl (hb hby at_111) rfl rfl k) ?_
  show Run p e below s 1 20 (Q_rm0 Z p1 p2 h0 n0) (T60.setTop (mkF m 112 #[.val (.int p1), .val (.int p2), .unset, .unset, .unset, .unset] [(.ref b3), (.ref b3)]))
  refine Run.go (fun _ k => XS.bipush Xg60.here hx rfl (hb hby at_112) k) ?_
  show Run p e below s 1 20 (Q_rm0 Z p1 p2 h0 n0) (T60.setTop (mkF m 114 #[.val (.int p1), .val (.int p2), .unset, .unset, .unset, .unset] [(.int (19 : Int32)), (.ref b3), (.ref b3)]))
  refine Run.go (fun _ k => Xg60.ldcInt hx hown (mvT hZ (hw _ (List.mem_of_getElem? (i := 3) rfl))) (g := (mkF m 114 #[.val (.int p1), .val (.int p2), .unset, .unset, .unset, .unset] [(.int (19 : Int32)), (.ref b3), (.ref b3)])) rfl (hb hby at_114) _ k) ?_
  show Run p e below s 1 20 (Q_rm0 Z p1 p2 h0 n0) (T60.setTop (mkF m 116 #[.val (.int p1), .val (.int p2), .unset, .unset, .unset, .unset] [(.int (65633 : Int32)), (.int (19 : Int32)), (.ref b3), (.ref b3)]))
  obtain ⟨T63, h63, X63, e63, W63, st63⟩ := ary_iset Xg60 hx hZ e60 fx61 (by decide) (by decide) (g := (mkF m 116 #[.val (.int p1), .val (.int p2), .unset, .unset, .unset, .unset] [(.int (65633 : Int32)), (.int (19 : Int32)), (.ref b3), (.ref b3)])) rfl rfl (hb hby at_116)
  have N63 := Fr.snoc X63 Ng60 g_b3
  have Z63 : n0 ≤ h63.size := Nat.le_trans Z60 (Keep.of_wr W63).1
  obtain ⟨Lg63, Xg63, Ng63⟩ := Stand_gen X63 N63
  have fx64 : Ary Z h63 b3 .int 20 (fun i => if i = 19 then (.int (65633 : Int32)) else ff62 i) := fx61.same W63
  obtain ⟨ff65, hff65⟩ : ∃ f : Nat → Value, f = (fun i => if i = 19 then (.int (65633 : Int32)) else ff62 i) := ⟨_, rfl⟩
  rw [← hff65] at fx64
  have iff65 : ∀ n, ∃ y, ff65 n = Value.int y := by rw [hff65]; exact isI_s iff62 _ _
  refine Run.go st63 ?_
  show Run p e below s 1 20 (Q_rm0 Z p1 p2 h0 n0) (T63.setTop (mkF m 117 #[.val (.int p1), .val (.int p2), .unset, .unset, .unset, .unset] [(.ref b3)]))
  refine Run.go (fun _ k => XS.astoreN Xg63.here hx rfl (hb hby at_117) rfl rfl (l' := #[.val (.int p1), .val (.int p2), .val (.ref b3), .unset, .unset, .unset]) rfl k) ?_
  show Run p e below s 1 20 (Q_rm0 Z p1 p2 h0 n0) (T63.setTop (mkF m 118 #[.val (.int p1), .val (.int p2), .val (.ref b3), .unset, .unset, .unset] []))
  refine Run.go (fun _ k => XS.aloadN Xg63.here hx rfl (hb hby at_118) rfl rfl k) ?_
  show Run p e below s 1 20 (Q_rm0 Z p1 p2 h0 n0) (T63.setTop (mkF m 119 #[.val (.int p1), .val (.int p2), .val (.ref b3), .unset, .unset, .unset] [(.ref b3)]))
  refine Run.go (fun _ k => XS.iloadN Xg63.here hx rfl (hb hby at_119) rfl  k) ?_
  show Run p e below s 1 20 (Q_rm0 Z p1 p2 h0 n0) (T63.setTop (mkF m 120 #[.val (.int p1), .val (.int p2), .val (.ref b3), .unset, .unset, .unset] [(.int p2), (.ref b3)]))
  refine Run.go (fun _ k => Xg63.ldcInt hx hown (mvT hZ (hw _ (List.mem_of_getElem? (i := 2) rfl))) (g := (mkF m 120 #[.val (.int p1), .val (.int p2), .val (.ref b3), .unset, .unset, .unset] [(.int p2), (.ref b3)])) rfl (hb hby at_120) _ k) ?_
  show Run p e below s 1 20 (Q_rm0 Z p1 p2 h0 n0) (T63.setTop (mkF m 122 #[.val (.int p1), .val (.int p2), .val (.ref b3), .unset, .unset, .unset] [(.int (2147483647 : Int32)), (.int p2), (.ref b3)]))
  refine Run.go (fun _ k => XS.iand Xg63.here hx rfl (hb hby at_122) rfl k) ?_
  show Run p e below s 1 20 (Q_rm0 Z p1 p2 h0 n0) (T63.setTop (mkF m 123 #[.val (.int p1), .val (.int p2), .val (.ref b3), .unset, .unset, .unset] [(.int (p2 &&& (2147483647 : Int32))), (.ref b3)]))
  refine Run.go (fun _ k => XS.bipush Xg63.here hx rfl (hb hby at_123) k) ?_
  show Run p e below s 1 20 (Q_rm0 Z p1 p2 h0 n0) (T63.setTop (mkF m 125 #[.val (.int p1), .val (.int p2), .val (.ref b3), .unset, .unset, .unset] [(.int (20 : Int32)), (.int (p2 &&& (2147483647 : Int32))), (.ref b3)]))
  refine Run.go (fun _ k => iremM Xg63 hx rfl (hb hby at_125) rfl (by decide) k) ?_
  show Run p e below s 1 20 (Q_rm0 Z p1 p2 h0 n0) (T63.setTop (mkF m 126 #[.val (.int p1), .val (.int p2), .val (.ref b3), .unset, .unset, .unset] [(.int ((p2 &&& (2147483647 : Int32)) % (20 : Int32))), (.ref b3)]))
  obtain ⟨e66, he66⟩ := iff65 (((p2 &&& (2147483647 : Int32)) % (20 : Int32)).toNatClampNeg)
  refine Run.go (fun _ k => ary_iget Xg63 hx hZ e63 fx64 (own_idx p2).1 (own_idx p2).2 (g := (mkF m 126 #[.val (.int p1), .val (.int p2), .val (.ref b3), .unset, .unset, .unset] [(.int ((p2 &&& (2147483647 : Int32)) % (20 : Int32))), (.ref b3)])) rfl rfl (hb hby at_126) he66 _ k) ?_
  show Run p e below s 1 20 (Q_rm0 Z p1 p2 h0 n0) (T63.setTop (mkF m 127 #[.val (.int p1), .val (.int p2), .val (.ref b3), .unset, .unset, .unset] [(.int e66)]))
  refine Run.go (fun _ k => XS.istoreN Xg63.here hx rfl (hb hby at_127) rfl (l' := #[.val (.int p1), .val (.int p2), .val (.ref b3), .val (.int e66), .unset, .unset]) rfl k) ?_
  show Run p e below s 1 20 (Q_rm0 Z p1 p2 h0 n0) (T63.setTop (mkF m 128 #[.val (.int p1), .val (.int p2), .val (.ref b3), .val (.int e66), .unset, .unset] []))
  refine Run.go (fun _ k => XS.iloadN Xg63.here hx rfl (hb hby at_128) rfl  k) ?_
  show Run p e below s 1 20 (Q_rm0 Z p1 p2 h0 n0) (T63.setTop (mkF m 129 #[.val (.int p1), .val (.int p2), .val (.ref b3), .val (.int e66), .unset, .unset] [(.int p1)]))
  obtain ⟨_, _, ⟨T67, L67, k67, n67⟩, -, X67, ⟨Lc67, hQ67, l67, y67, z67⟩, st67⟩ := Jvm.LawKit.callS Xg63 hx (y := (⟨"com/example/exact_table/exacttable/ExpressionAttributes", "isPlaceholderCharacter", "(I)Z"⟩ : MethodName)) hown (mvT hZ (hw _ (List.mem_of_getElem? (i := 4) rfl))) (mvT hZ (hw _ (List.mem_of_getElem? (i := 5) rfl))) (mvT hZ (hw _ (List.mem_of_getElem? (i := 6) rfl))) (mvT hZ (hw _ (List.mem_of_getElem? (i := 7) rfl))) (by decide) (backOf (W := 0) (rm1 l Z a0 hw [] p1 h63 n0 Z63 ) hZ (hw _ (List.mem_of_getElem? (i := 7) rfl)) (hw _ (List.mem_of_getElem? (i := 6) rfl)) (by decide) (by decide)) (g := (mkF m 129 #[.val (.int p1), .val (.int p2), .val (.ref b3), .val (.int e66), .unset, .unset] [(.int p1)])) rfl (by rw [hml]; rfl) (argsL := [(.int p1)]) (rest := []) (lenOf pd_1 rfl) rfl (by show 2 * 0 + _ ≤ _; exact Nat.le_of_eq rfl) (hb hby at_129) (fun _ _ => ⟨rfl, e63, (by decide : 1 + 0 ≤ _), (by decide : 20 + 0 ≤ _)⟩)
  dsimp only [Pt.U, Pt.locs, Pt.cells, Pt.slots] at X67 l67 y67 z67 st67 hQ67
  subst l67 y67 z67
  obtain ⟨rfl, N67q, e67q⟩ := hQ67
  have N67 := Fr.app Ng63 N67q
  obtain ⟨Lg67, Xg67, Ng67⟩ := Stand_gen X67 N67
  refine Run.go st67 ?_
  show Run p e below s 1 20 (Q_rm0 Z p1 p2 h0 n0) (T67.setTop (mkF m 132 #[.val (.int p1), .val (.int p2), .val (.ref b3), .val (.int e66), .unset, .unset] [(.int (F_rm1 p1))]))
  refine Run.go (fun _ k => XS.iloadN Xg67.here hx rfl (hb hby at_132) rfl  k) ?_
  show Run p e below s 1 20 (Q_rm0 Z p1 p2 h0 n0) (T67.setTop (mkF m 133 #[.val (.int p1), .val (.int p2), .val (.ref b3), .val (.int e66), .unset, .unset] [(.int p1), (.int (F_rm1 p1))]))
  obtain ⟨_, _, ⟨T68, L68, k68, n68⟩, -, X68, ⟨Lc68, hQ68, l68, y68, z68⟩, st68⟩ := Jvm.LawKit.callS Xg67 hx (y := (⟨"com/example/exact_table/exacttable/ExpressionAttributesIsPlaceholderCharacterPinLaw", "reference", "(I)Z"⟩ : MethodName)) hown (mvT hZ (hw _ (List.mem_of_getElem? (i := 8) rfl))) (mvT hZ (hw _ (List.mem_of_getElem? (i := 9) rfl))) (mvT hZ (hw _ (List.mem_of_getElem? (i := 10) rfl))) (mvT hZ (hw _ (List.mem_of_getElem? (i := 11) rfl))) (by decide) (backOf (W := 1) (rm2 l Z a0 hw [] p1 h63 n0 Z63 ) hZ (hw _ (List.mem_of_getElem? (i := 11) rfl)) (hw _ (List.mem_of_getElem? (i := 10) rfl)) (by decide) (by decide)) (g := (mkF m 133 #[.val (.int p1), .val (.int p2), .val (.ref b3), .val (.int e66), .unset, .unset] [(.int p1), (.int (F_rm1 p1))])) rfl (by rw [hml]; rfl) (argsL := [(.int p1)]) (rest := [(.int (F_rm1 p1))]) (lenOf pd_1 rfl) rfl (by show 2 * 0 + _ ≤ _; exact Nat.le_of_eq rfl) (hb hby at_133) (fun _ _ => ⟨rfl, e67q, (by decide : 1 + 0 ≤ _), (by decide : 20 + 0 ≤ _)⟩)
  dsimp only [Pt.U, Pt.locs, Pt.cells, Pt.slots] at X68 l68 y68 z68 st68 hQ68
  subst l68 y68 z68
  obtain ⟨rfl, N68q, e68q⟩ := hQ68
  have N68 := Fr.app Ng67 N68q
  obtain ⟨Lg68, Xg68, Ng68⟩ := Stand_gen X68 N68
  refine Run.go st68 ?_
  show Run p e below s 1 20 (Q_rm0 Z p1 p2 h0 n0) (T68.setTop (mkF m 136 #[.val (.int p1), .val (.int p2), .val (.ref b3), .val (.int e66), .unset, .unset] [(.int (F_rm2 p1)), (.int (F_rm1 p1))]))
  refine Run.go (fun _ k => XS.icmpNo Xg68.here hx rfl (hb hby at_136) rfl (teq (own_law _)).2 k) ?_
  show Run p e below s 1 20 (Q_rm0 Z p1 p2 h0 n0) (T68.setTop (mkF m 139 #[.val (.int p1), .val (.int p2), .val (.ref b3), .val (.int e66), .unset, .unset] []))
  refine Run.go (fun _ k => XS.iconst Xg68.here hx rfl (hb hby at_139) k) ?_
  show Run p e below s 1 20 (Q_rm0 Z p1 p2 h0 n0) (T68.setTop (mkF m 140 #[.val (.int p1), .val (.int p2), .val (.ref b3), .val (.int e66), .unset, .unset] [(.int (1 : Int32))]))
  refine Run.go (fun _ k => XS.goto Xg68.here hx rfl (pc0 := 140) (pc' := 144) rfl (hb hby at_140) (by decide) (by decide) k) ?_
  show Run p e below s 1 20 (Q_rm0 Z p1 p2 h0 n0) (T68.setTop (mkF m 144 #[.val (.int p1), .val (.int p2), .val (.ref b3), .val (.int e66), .unset, .unset] [(.int (1 : Int32))]))
  refine Run.go (fun _ k => XS.istore Xg68.here hx rfl (hb hby at_144) rfl (l' := #[.val (.int p1), .val (.int p2), .val (.ref b3), .val (.int e66), .val (.int (1 : Int32)), .unset]) rfl k) ?_
  show Run p e below s 1 20 (Q_rm0 Z p1 p2 h0 n0) (T68.setTop (mkF m 146 #[.val (.int p1), .val (.int p2), .val (.ref b3), .val (.int e66), .val (.int (1 : Int32)), .unset] []))
  refine Run.go (fun _ k => XS.iloadN Xg68.here hx rfl (hb hby at_146) rfl  k) ?_
  show Run p e below s 1 20 (Q_rm0 Z p1 p2 h0 n0) (T68.setTop (mkF m 147 #[.val (.int p1), .val (.int p2), .val (.ref b3), .val (.int e66), .val (.int (1 : Int32)), .unset] [(.int e66)]))
  obtain ⟨_, _, ⟨T69, L69, k69, n69⟩, -, X69, ⟨Lc69, hQ69, l69, y69, z69⟩, st69⟩ := Jvm.LawKit.callS Xg68 hx (y := (⟨"com/example/exact_table/exacttable/ExpressionAttributes", "isPlaceholderCharacter", "(I)Z"⟩ : MethodName)) hown (mvT hZ (hw _ (List.mem_of_getElem? (i := 4) rfl))) (mvT hZ (hw _ (List.mem_of_getElem? (i := 5) rfl))) (mvT hZ (hw _ (List.mem_of_getElem? (i := 6) rfl))) (mvT hZ (hw _ (List.mem_of_getElem? (i := 7) rfl))) (by decide) (backOf (W := 0) (rm1 l Z a0 hw [] e66 h63 n0 Z63 ) hZ (hw _ (List.mem_of_getElem? (i := 7) rfl)) (hw _ (List.mem_of_getElem? (i := 6) rfl)) (by decide) (by decide)) (g := (mkF m 147 #[.val (.int p1), .val (.int p2), .val (.ref b3), .val (.int e66), .val (.int (1 : Int32)), .unset] [(.int e66)])) rfl (by rw [hml]; rfl) (argsL := [(.int e66)]) (rest := []) (lenOf pd_1 rfl) rfl (by show 2 * 0 + _ ≤ _; exact Nat.le_of_eq rfl) (hb hby at_147) (fun _ _ => ⟨rfl, e68q, (by decide : 1 + 0 ≤ _), (by decide : 20 + 0 ≤ _)⟩)
  dsimp only [Pt.U, Pt.locs, Pt.cells, Pt.slots] at X69 l69 y69 z69 st69 hQ69
  subst l69 y69 z69
  obtain ⟨rfl, N69q, e69q⟩ := hQ69
  have N69 := Fr.app Ng68 N69q
  obtain ⟨Lg69, Xg69, Ng69⟩ := Stand_gen X69 N69
  refine Run.go st69 ?_
  show Run p e below s 1 20 (Q_rm0 Z p1 p2 h0 n0) (T69.setTop (mkF m 150 #[.val (.int p1), .val (.int p2), .val (.ref b3), .val (.int e66), .val (.int (1 : Int32)), .unset] [(.int (F_rm1 e66))]))
  refine Run.go (fun _ k => XS.iloadN Xg69.here hx rfl (hb hby at_150) rfl  k) ?_
  show Run p e below s 1 20 (Q_rm0 Z p1 p2 h0 n0) (T69.setTop (mkF m 151 #[.val (.int p1), .val (.int p2), .val (.ref b3), .val (.int e66), .val (.int (1 : Int32)), .unset] [(.int e66), (.int (F_rm1 e66))]))
  obtain ⟨_, _, ⟨T70, L70, k70, n70⟩, -, X70, ⟨Lc70, hQ70, l70, y70, z70⟩, st70⟩ := Jvm.LawKit.callS Xg69 hx (y := (⟨"com/example/exact_table/exacttable/ExpressionAttributesIsPlaceholderCharacterPinLaw", "reference", "(I)Z"⟩ : MethodName)) hown (mvT hZ (hw _ (List.mem_of_getElem? (i := 8) rfl))) (mvT hZ (hw _ (List.mem_of_getElem? (i := 9) rfl))) (mvT hZ (hw _ (List.mem_of_getElem? (i := 10) rfl))) (mvT hZ (hw _ (List.mem_of_getElem? (i := 11) rfl))) (by decide) (backOf (W := 1) (rm2 l Z a0 hw [] e66 h63 n0 Z63 ) hZ (hw _ (List.mem_of_getElem? (i := 11) rfl)) (hw _ (List.mem_of_getElem? (i := 10) rfl)) (by decide) (by decide)) (g := (mkF m 151 #[.val (.int p1), .val (.int p2), .val (.ref b3), .val (.int e66), .val (.int (1 : Int32)), .unset] [(.int e66), (.int (F_rm1 e66))])) rfl (by rw [hml]; rfl) (argsL := [(.int e66)]) (rest := [(.int (F_rm1 e66))]) (lenOf pd_1 rfl) rfl (by show 2 * 0 + _ ≤ _; exact Nat.le_of_eq rfl) (hb hby at_151) (fun _ _ => ⟨rfl, e69q, (by decide : 1 + 0 ≤ _), (by decide : 20 + 0 ≤ _)⟩)
  dsimp only [Pt.U, Pt.locs, Pt.cells, Pt.slots] at X70 l70 y70 z70 st70 hQ70
  subst l70 y70 z70
  obtain ⟨rfl, N70q, e70q⟩ := hQ70
  have N70 := Fr.app Ng69 N70q
  obtain ⟨Lg70, Xg70, Ng70⟩ := Stand_gen X70 N70
  refine Run.go st70 ?_
  show Run p e below s 1 20 (Q_rm0 Z p1 p2 h0 n0) (T70.setTop (mkF m 154 #[.val (.int p1), .val (.int p2), .val (.ref b3), .val (.int e66), .val (.int (1 : Int32)), .unset] [(.int (F_rm2 e66)), (.int (F_rm1 e66))]))
  refine Run.go (fun _ k => XS.icmpNo Xg70.here hx rfl (hb hby at_154) rfl (teq (own_law _)).2 k) ?_
  show Run p e below s 1 20 (Q_rm0 Z p1 p2 h0 n0) (T70.setTop (mkF m 157 #[.val (.int p1), .val (.int p2), .val (.ref b3), .val (.int e66), .val (.int (1 : Int32)), .unset] []))
  refine Run.go (fun _ k => XS.iconst Xg70.here hx rfl (hb hby at_157) k) ?_
  show Run p e below s 1 20 (Q_rm0 Z p1 p2 h0 n0) (T70.setTop (mkF m 158 #[.val (.int p1), .val (.int p2), .val (.ref b3), .val (.int e66), .val (.int (1 : Int32)), .unset] [(.int (1 : Int32))]))
  refine Run.go (fun _ k => XS.goto Xg70.here hx rfl (pc0 := 158) (pc' := 162) rfl (hb hby at_158) (by decide) (by decide) k) ?_
  show Run p e below s 1 20 (Q_rm0 Z p1 p2 h0 n0) (T70.setTop (mkF m 162 #[.val (.int p1), .val (.int p2), .val (.ref b3), .val (.int e66), .val (.int (1 : Int32)), .unset] [(.int (1 : Int32))]))
  refine Run.go (fun _ k => XS.istore Xg70.here hx rfl (hb hby at_162) rfl (l' := #[.val (.int p1), .val (.int p2), .val (.ref b3), .val (.int e66), .val (.int (1 : Int32)), .val (.int (1 : Int32))]) rfl k) ?_
  show Run p e below s 1 20 (Q_rm0 Z p1 p2 h0 n0) (T70.setTop (mkF m 164 #[.val (.int p1), .val (.int p2), .val (.ref b3), .val (.int e66), .val (.int (1 : Int32)), .val (.int (1 : Int32))] []))
  refine Run.go (fun _ k => XS.iload Xg70.here hx rfl (hb hby at_164) rfl  k) ?_
  show Run p e below s 1 20 (Q_rm0 Z p1 p2 h0 n0) (T70.setTop (mkF m 166 #[.val (.int p1), .val (.int p2), .val (.ref b3), .val (.int e66), .val (.int (1 : Int32)), .val (.int (1 : Int32))] [(.int (1 : Int32))]))
  refine Run.go (fun _ k => XS.ifNo Xg70.here hx rfl (hb hby at_166) rfl ((if0 _ _).trans (feq (by decide)).1) k) ?_
  show Run p e below s 1 20 (Q_rm0 Z p1 p2 h0 n0) (T70.setTop (mkF m 169 #[.val (.int p1), .val (.int p2), .val (.ref b3), .val (.int e66), .val (.int (1 : Int32)), .val (.int (1 : Int32))] []))
  refine Run.go (fun _ k => XS.iload Xg70.here hx rfl (hb hby at_169) rfl  k) ?_
  show Run p e below s 1 20 (Q_rm0 Z p1 p2 h0 n0) (T70.setTop (mkF m 171 #[.val (.int p1), .val (.int p2), .val (.ref b3), .val (.int e66), .val (.int (1 : Int32)), .val (.int (1 : Int32))] [(.int (1 : Int32))]))
  refine Run.go (fun _ k => XS.ifNo Xg70.here hx rfl (hb hby at_171) rfl ((if0 _ _).trans (feq (by decide)).1) k) ?_
  show Run p e below s 1 20 (Q_rm0 Z p1 p2 h0 n0) (T70.setTop (mkF m 174 #[.val (.int p1), .val (.int p2), .val (.ref b3), .val (.int e66), .val (.int (1 : Int32)), .val (.int (1 : Int32))] []))
  refine Run.go (fun _ k => XS.iconst Xg70.here hx rfl (hb hby at_174) k) ?_
  show Run p e below s 1 20 (Q_rm0 Z p1 p2 h0 n0) (T70.setTop (mkF m 175 #[.val (.int p1), .val (.int p2), .val (.ref b3), .val (.int e66), .val (.int (1 : Int32)), .val (.int (1 : Int32))] [(.int (1 : Int32))]))
  refine Run.go (fun _ k => XS.goto Xg70.here hx rfl (pc0 := 175) (pc' := 179) rfl (hb hby at_175) (by decide) (by decide) k) ?_
  show Run p e below s 1 20 (Q_rm0 Z p1 p2 h0 n0) (T70.setTop (mkF m 179 #[.val (.int p1), .val (.int p2), .val (.ref b3), .val (.int e66), .val (.int (1 : Int32)), .val (.int (1 : Int32))] [(.int (1 : Int32))]))
  exact Run.retN (y := 1) Xg70 hx (t := .boolean) Bd.returns (by simp) rfl Bd.notSynchronized (hb hby at_179) (by decide) (by decide) ⟨rfl, Ng70⟩
set_option maxRecDepth 65536 in
set_option maxHeartbeats 40000000 in
theorem comes_1 {Post : Tables → Env → Array Value → State → Outcome → State → Prop} (hpost : ∀ tb e args s v u, (limb_1_1.after args s (.returned v) u = true ∧ limb_1_2.after args s (.returned v) u = true ∧ True) → FrameEnd s (.returned v) u (Jvm.fieldLocs frame_1_writes args s ++ Jvm.arrayLocs frame_1_arrays args s ++ Jvm.staticLocs frame_1_statics s) 16 128 → Post tb e args s (.returned v) u) :
    ArmFor flags0 classFile x code maxLocals ret World_1 tables_1 room_1 Calls_1 rest_1 Pre_1 Post := by
  intro l hfl _ _ p e ha hc hk s m args below hf hA hF happ hP
  obtain ⟨hcalls, hrest, hpre⟩ := hP
  obtain ⟨-, -, -, hnamed, -, -, -, hat⟩ := (Spec.applies_iff hf).mp happ
  obtain ⟨hg, hn⟩ := and_e (Cond.before_iff.mp (show (Jvm.Cond.and given_1 narrow_1).before args s = true from hpre))
  obtain ⟨g1, g2⟩ := and_e hg
  obtain ⟨g3, g4⟩ := and_e g2
  obtain ⟨w0, w1, rfl⟩ : ∃ w0 w1 : Value, args = #[w0, w1] := by
    have hs : args.size = 2 := by simpa [Cond.value, given_1] using g1
    obtain ⟨L⟩ := args
    match L, hs with
    | [w0, w1], _ => exact ⟨w0, w1, rfl⟩
  have hw := fun d (hd : d ∈ tables_1) => atoms_spec (ws := Jvm.Cond.code x code maxLocals ret :: tables_1) hat d (List.mem_cons_of_mem _ hd)
  have hfit : Fit s := fun {y c} hc i hi => by
    obtain ⟨ha, rfl⟩ := Array.getElem?_eq_some_iff.mp hc
    have q := List.all_eq_true.mp ((Array.all_eq_true_iff_forall_mem.mp hF) _ (Array.getElem_mem ha)) i (List.mem_range.mpr hi)
    simpa [Array.getElem?_eq_getElem hi] using q
  obtain ⟨i0, ei0⟩ := is_v g3
  obtain rfl : w0 = (.int i0) := Option.some.inj ei0
  obtain ⟨i1, ei1⟩ := is_v g4
  obtain rfl : w1 = (.int i1) := Option.some.inj ei1
  obtain ⟨n, o, h1, h2, h3, _, L, rfl, ⟨rfl, N⟩, hq⟩ := rm0 l s _ hw tables_1 i0 i1 s.heap s.heap.size (Nat.le_refl _)  p e ha hc hk s m _ below hf ((Spec.applies_iff_loose hf).mp happ).1 ⟨rfl, State.Warmed39.refl s, rfl⟩ trivial
  refine ⟨n, _, h1, h2, h3, hpost _ _ _ _ _ _ ⟨Cond.after_iff.mpr rfl, Cond.after_iff.mpr (eq_i res_at (Term.int_eval (1)) rfl), trivial⟩ ⟨hq.1, hq.2.1, (hq.2.2.sift fun y hy => Or.inr (N y hy)).mono (by decide) (by decide)⟩⟩
theorem main_1_1 : Claimed_1_1 := comes_1 fun _ _ _ _ _ _ h hF => ⟨h.1, hF⟩
theorem main_1_2 : Claimed_1_2 := comes_1 fun _ _ _ _ _ _ h hF => ⟨h.2.1, hF⟩
end Jvm.Pilot.@@N@@
namespace Jvm.Pilot.@@N@@
open Jvm Jvm.ClassFile Sem Op Lib Jvm.Free Jvm.Stand Jvm.Pilot.@@N@@.Jvm.D
/-! MADE BY PROGRAM (witnessworld.py) out of the Statement's table words and the real class files: 9 classes; the members and pool entries that the words name. The judged class is class 1, her method 3. -/
namespace start1
open Jvm.ClassFile
def u (s : String) : CpInfo := .utf8 (stringToUtf16 s)
/-- a pool by its gaps: so many unusable entries, then the entry; so many at the end -/
def gap : Nat → List CpInfo → List CpInfo
  | 0, r => r
  | n + 1, r => .unusable :: gap n r
def poolList (es : List (Nat × CpInfo)) (last : Nat) : List CpInfo := es.foldr (fun e r => gap e.1 (e.2 :: r)) (gap last [])
def pool (es : List (Nat × CpInfo)) (last : Nat) : Array CpInfo := ⟨poolList es last⟩
def fileOf (pool : Array CpInfo) (this : Nat) (attrs : Array Attribute := #[]) (ms : Array MethodInfo := #[]) (fl : Nat := 33) (sup : Nat := 0) (ifs : Array Nat := #[]) (fds : Array FieldInfo := #[]) : ClassFile where
  minorVersion := 0
  majorVersion := 65
  constantPool := pool
  accessFlags := fl
  thisClass := this
  superClass := sup
  interfaces := ifs
  fields := fds
  methods := ms
  attributes := attrs
def plain (name : String) (sup : Option ClassId) : Class where
  name := name
  kind := .ordinary
  loader := none
  accessFlags := 33
  super := sup
  interfaces := #[]
  cf := none
  fields := #[]
  methods := #[]
  instanceTypes := #[]
  staticTypes := #[]
  resolved := #[]
  callSites := []
  init := .initialized
  statics := none
  mirror := none

def pool0 : Array CpInfo := pool [(5, u "<init>"), (0, u "()V"), (1, .class_ 10), (1, u "java/lang/Object")] 113

def k0m0 : Method := { name := "<init>", desc := "()V", sig := { parameters := [], returnType := none }, accessFlags := 1, code := none }
/-- java/lang/Object -/
def k0 : Class := { plain "java/lang/Object" none with
  accessFlags := 33
  interfaces := #[]
  cf := some (fileOf pool0 8 #[] #[{ accessFlags := 1, nameIndex := 5, descriptorIndex := 6, attributes := #[] }] 33 0 #[] #[])
  fields := #[]
  methods := #[k0m0]
  instanceTypes := #[]
  staticTypes := #[]
  resolved := Array.replicate 124 none
  statics := none }

def pool1 : Array CpInfo := pool [(2, .class_ 4), (1, u "java/lang/Object"), (0, u "<init>"), (0, u "()V"), (0, .long 4294967295), (1, .methodref 10 11), (0, .class_ 12), (0, .nameAndType 13 14), (0, u "com/example/exact_table/exacttable/ExpressionAttributesIsPlaceholderCharacterPinLaw"), (0, u "inRange"), (0, u "(III)Z"), (2, .integer 2147483648), (0, .integer 2147483647), (0, .integer 65633), (0, .methodref 21 22), (0, .class_ 23), (0, .nameAndType 24 25), (0, u "com/example/exact_table/exacttable/ExpressionAttributes"), (0, u "isPlaceholderCharacter"), (0, u "(I)Z"), (0, .methodref 10 27), (0, .nameAndType 28 25), (0, u "reference"), (3, u "law"), (0, u "(II)Z")] 4

def k1m0 : Method := { name := "<init>", desc := "()V", sig := { parameters := [], returnType := none }, accessFlags := 1, code := none }
def k1c1 : Code := { maxStack := 4, maxLocals := 5, code := method_2_code, exceptionTable := #[], attributes := #[] }
def k1m1 : Method := { name := "inRange", desc := "(III)Z", sig := { parameters := [.int, .int, .int], returnType := some .boolean }, accessFlags := 10, code := some k1c1 }
def k1c2 : Code := { maxStack := 3, maxLocals := 1, code := method_3_code, exceptionTable := #[], attributes := #[] }
def k1m2 : Method := { name := "reference", desc := "(I)Z", sig := { parameters := [.int], returnType := some .boolean }, accessFlags := 10, code := some k1c2 }
def k1c3 : Code := { maxStack := 4, maxLocals := 6, code := code, exceptionTable := #[], attributes := #[] }
def k1m3 : Method := { name := "law", desc := "(II)Z", sig := { parameters := [.int, .int], returnType := some .boolean }, accessFlags := 9, code := some k1c3 }
/-- com/example/exact_table/exacttable/ExpressionAttributesIsPlaceholderCharacterPinLaw -/
def k1 : Class := { plain "com/example/exact_table/exacttable/ExpressionAttributesIsPlaceholderCharacterPinLaw" (some 0) with
  accessFlags := 49
  interfaces := #[]
  cf := some (fileOf pool1 10 #[] #[{ accessFlags := 1, nameIndex := 5, descriptorIndex := 6, attributes := #[] }, { accessFlags := 10, nameIndex := 13, descriptorIndex := 14, attributes := #[] }, { accessFlags := 10, nameIndex := 28, descriptorIndex := 25, attributes := #[] }, { accessFlags := 9, nameIndex := 32, descriptorIndex := 33, attributes := #[] }] 49 2 #[] #[])
  fields := #[]
  methods := #[k1m0, k1m1, k1m2, k1m3]
  instanceTypes := #[]
  staticTypes := #[]
  resolved := Array.replicate 38 none
  statics := none }

def pool2 : Array CpInfo := pool [(2, .class_ 4), (1, u "java/lang/Object"), (6, .class_ 13), (1, u "com/example/exact_table/exacttable/ExpressionAttributes"), (0, u "usedNames"), (0, u "Ljava/util/Set;"), (2, u "usedValues"), (2, u "names"), (0, u "Ljava/util/Map;"), (2, u "values"), (2, u "reservedWords"), (0, u "Lcom/example/exact_table/exacttable/ReservedWords;"), (145, u "isPlaceholderCharacter"), (0, u "(I)Z")] 46

def k2c0 : Code := { maxStack := 2, maxLocals := 1, code := prog_31_method_3_code, exceptionTable := #[], attributes := #[] }
def k2m0 : Method := { name := "isPlaceholderCharacter", desc := "(I)Z", sig := { parameters := [.int], returnType := some .boolean }, accessFlags := 8, code := some k2c0 }
/-- com/example/exact_table/exacttable/ExpressionAttributes -/
def k2 : Class := { plain "com/example/exact_table/exacttable/ExpressionAttributes" (some 0) with
  accessFlags := 48
  interfaces := #[]
  cf := some (fileOf pool2 11 #[] #[{ accessFlags := 8, nameIndex := 175, descriptorIndex := 176, attributes := #[] }] 48 2 #[] #[{ accessFlags := 18, nameIndex := 21, descriptorIndex := 22, attributes := #[] }, { accessFlags := 18, nameIndex := 25, descriptorIndex := 22, attributes := #[] }, { accessFlags := 18, nameIndex := 28, descriptorIndex := 29, attributes := #[] }, { accessFlags := 18, nameIndex := 14, descriptorIndex := 15, attributes := #[] }, { accessFlags := 18, nameIndex := 18, descriptorIndex := 15, attributes := #[] }])
  fields := #[{ name := "names", type := (.object "java/util/Map"), accessFlags := 18, slot := 0, constantValue := 0 }, { name := "values", type := (.object "java/util/Map"), accessFlags := 18, slot := 1, constantValue := 0 }, { name := "reservedWords", type := (.object "com/example/exact_table/exacttable/ReservedWords"), accessFlags := 18, slot := 2, constantValue := 0 }, { name := "usedNames", type := (.object "java/util/Set"), accessFlags := 18, slot := 3, constantValue := 0 }, { name := "usedValues", type := (.object "java/util/Set"), accessFlags := 18, slot := 4, constantValue := 0 }]
  methods := #[k2m0]
  instanceTypes := #[(.object "java/util/Map"), (.object "java/util/Map"), (.object "com/example/exact_table/exacttable/ReservedWords"), (.object "java/util/Set"), (.object "java/util/Set")]
  staticTypes := #[]
  resolved := Array.replicate 223 none
  statics := none }

def pool3 : Array CpInfo := pool [(1, u "java/lang/Cloneable"), (0, .class_ 1), (0, u "java/lang/Object"), (0, .class_ 3)] 3

/-- java/lang/Cloneable -/
def k3 : Class := { plain "java/lang/Cloneable" (some 0) with
  accessFlags := 1537
  interfaces := #[]
  cf := some (fileOf pool3 2 #[] #[] 1537 4 #[] #[])
  fields := #[]
  methods := #[]
  instanceTypes := #[]
  staticTypes := #[]
  resolved := Array.replicate 8 none
  statics := none }

def pool4 : Array CpInfo := pool [(1, u "java/io/Serializable"), (0, .class_ 1), (0, u "java/lang/Object"), (0, .class_ 3)] 3

/-- java/io/Serializable -/
def k4 : Class := { plain "java/io/Serializable" (some 0) with
  accessFlags := 1537
  interfaces := #[]
  cf := some (fileOf pool4 2 #[] #[] 1537 4 #[] #[])
  fields := #[]
  methods := #[]
  instanceTypes := #[]
  staticTypes := #[]
  resolved := Array.replicate 8 none
  statics := none }

/-- the primitive byte -/
def k5 : Class := { plain "byte" none with kind := .primitive 'B', accessFlags := 0x411 }
/-- [B -/
def k6 : Class := { plain "[B" (some 0) with kind := .array 5 .byte, interfaces := #[3, 4], accessFlags := 1041 }

/-- the primitive int -/
def k7 : Class := { plain "int" none with kind := .primitive 'I', accessFlags := 0x411 }
/-- [I -/
def k8 : Class := { plain "[I" (some 0) with kind := .array 7 .int, interfaces := #[3, 4], accessFlags := 1041 }

def heap : Heap := #[]
def classes : Array Class := #[k0, k1, k2, k3, k4, k5, k6, k7, k8]
def interned : List (Array UInt16 × Addr) := []
def slotsUsed : Nat := 0
def theMethod : MethodId := ⟨1, 3⟩
def args0 : Array Value := #[.int 3, .int 2]
def aboutOver (below : List Frame) : State where
  vm := { classes := classes, interned := interned.toArray }
  heap := heap
  slotsUsed := slotsUsed
  threads := #[{ frames := .invoking theMethod args0 :: below }]
def below0 : List Frame := [.native { method := ⟨0, 0⟩, args := #[] }]
def about1 : State := aboutOver below0
def p0 : Program := .bare "" "" ""
def e0 : Env := launch0.env 0 0 0
theorem w_frames : about1.frames = Frame.invoking theMethod args0 :: below0 := rfl
set_option maxRecDepth 65536 in
theorem w_args : argsFit about1.vm theMethod args0 = true := by decide +kernel
set_option maxRecDepth 65536 in
theorem w_heap : heapFits about1 = true := by decide +kernel
set_option maxRecDepth 65536 in
theorem w_runnable : about1.curStatus? = some .runnable := by decide +kernel
set_option maxRecDepth 65536 in
theorem w_alone : about1.alone = true := by decide +kernel
set_option maxRecDepth 65536 in
theorem w_named : about1.methodNamed? x = some theMethod := by decide +kernel
set_option maxRecDepth 65536 in
theorem w_hears : about1.hears theMethod below0 = true := by decide +kernel
set_option maxRecDepth 65536 in
theorem w_ripe : about1.ripe theMethod args0 below0 = true := by decide +kernel
theorem w_running : about1.status = .running := rfl
set_option maxRecDepth 65536 in
theorem w_room : about1.hasRoom e0.platform room_1 = true :=
  launch0.hasRoom_least _ room_1 (by decide +kernel) (by decide +kernel) (by decide +kernel) (by decide +kernel) (by decide +kernel) (by decide +kernel)
theorem allAtoms_all (ts : List Jvm.Cond) (a : Array Jvm.Value) (st : Jvm.State) : (allAtoms ts).before a st = ts.all (fun c => c.before a st) := by
  induction ts with
  | nil => rfl
  | cons c t ih =>
    show (Jvm.Cond.and c (allAtoms t)).before a st = _
    rw [Jvm.Cond.before_and, ih, List.all_cons]
def words1 : List Jvm.Cond := Jvm.Cond.code x code maxLocals ret :: tables_1
/-- a 'code' word, met by the world's own term for the bytes: nothing is compared byte by byte -/
theorem code_word {y : MethodName} {bytes : ByteArray} {mx : Nat} {rt : Option FieldType} {a : Array Value} {s : State} {m : MethodId} {meth : Method} {c : Code} (h1 : s.methodNamed? y = some m) (h2 : s.vm.method? m = some meth) (h3 : meth.code = some c) (h4 : c.code = bytes)
    (h5 : (c.maxLocals == mx && c.exceptionTable.isEmpty && decide (c.maxStack ≤ mostOperands) && decide (meth.sig.returnType = rt) && !meth.locks && decide (parseMethodDescriptor y.desc = some meth.sig)) = true) : (Jvm.Cond.code y bytes mx rt).before a s = true := by
  simp only [Bool.and_eq_true, beq_iff_eq, Bool.not_eq_true', decide_eq_true_eq] at h5
  obtain ⟨⟨⟨⟨⟨g1, g2⟩, g3⟩, g4⟩, g5⟩, g6⟩ := h5
  simp [Cond.before, Cond.holds, Cond.value, h1, h2, h3, h4, g1, g2, g3, g4, g5, g6]
def isCode : Jvm.Cond → Bool
  | .code _ _ _ _ => true
  | _ => false
theorem all_split {L : List Jvm.Cond} {P : Jvm.Cond → Bool} (h1 : L.all (fun c => isCode c || P c) = true) (h2 : ∀ c ∈ L.filter isCode, P c = true) : L.all P = true := by
  refine List.all_eq_true.mpr fun c hc => ?_
  have h := List.all_eq_true.mp h1 c hc
  rcases Bool.eq_false_or_eq_true (isCode c) with hi | hi
  · exact h2 c (List.mem_filter.mpr ⟨hc, hi⟩)
  · simpa [hi] using h
set_option maxRecDepth 65536 in
theorem w_c0 : (Jvm.Cond.code x code maxLocals ret).before args0 about1 = true := code_word (m := ⟨1, 3⟩) (meth := k1m3) (c := k1c3) (by decide +kernel) rfl rfl rfl (by decide +kernel)
set_option maxRecDepth 65536 in
theorem w_c1 : (Jvm.Cond.code ({ cls := "com/example/exact_table/exacttable/ExpressionAttributes", name := "isPlaceholderCharacter", desc := "(I)Z" } : Jvm.MethodName) prog_31_method_3_code (1 : Nat) (Option.some Jvm.ClassFile.FieldType.boolean)).before args0 about1 = true := code_word (m := ⟨2, 0⟩) (meth := k2m0) (c := k2c0) (by decide +kernel) rfl rfl rfl (by decide +kernel)
set_option maxRecDepth 65536 in
theorem w_c2 : (Jvm.Cond.code ({ cls := "com/example/exact_table/exacttable/ExpressionAttributesIsPlaceholderCharacterPinLaw", name := "reference", desc := "(I)Z" } : Jvm.MethodName) method_3_code (1 : Nat) (Option.some Jvm.ClassFile.FieldType.boolean)).before args0 about1 = true := code_word (m := ⟨1, 2⟩) (meth := k1m2) (c := k1c2) (by decide +kernel) rfl rfl rfl (by decide +kernel)
set_option maxRecDepth 65536 in
theorem w_c3 : (Jvm.Cond.code ({ cls := "com/example/exact_table/exacttable/ExpressionAttributesIsPlaceholderCharacterPinLaw", name := "inRange", desc := "(III)Z" } : Jvm.MethodName) method_2_code (5 : Nat) (Option.some Jvm.ClassFile.FieldType.boolean)).before args0 about1 = true := code_word (m := ⟨1, 1⟩) (meth := k1m1) (c := k1c1) (by decide +kernel) rfl rfl rfl (by decide +kernel)
def codes1 : List Jvm.Cond := [Jvm.Cond.code x code maxLocals ret, Jvm.Cond.code ({ cls := "com/example/exact_table/exacttable/ExpressionAttributes", name := "isPlaceholderCharacter", desc := "(I)Z" } : Jvm.MethodName) prog_31_method_3_code (1 : Nat) (Option.some Jvm.ClassFile.FieldType.boolean), Jvm.Cond.code ({ cls := "com/example/exact_table/exacttable/ExpressionAttributesIsPlaceholderCharacterPinLaw", name := "reference", desc := "(I)Z" } : Jvm.MethodName) method_3_code (1 : Nat) (Option.some Jvm.ClassFile.FieldType.boolean), Jvm.Cond.code ({ cls := "com/example/exact_table/exacttable/ExpressionAttributesIsPlaceholderCharacterPinLaw", name := "inRange", desc := "(III)Z" } : Jvm.MethodName) method_2_code (5 : Nat) (Option.some Jvm.ClassFile.FieldType.boolean)]
set_option maxRecDepth 65536 in
theorem codes_eq : words1.filter isCode = codes1 := rfl
theorem w_codes : ∀ c ∈ words1.filter isCode, c.before args0 about1 = true := by
  rw [codes_eq]
  intro c hc
  simp only [codes1, List.mem_cons, List.not_mem_nil, or_false] at hc
  rcases hc with rfl | rfl | rfl | rfl
  · exact w_c0
  · exact w_c1
  · exact w_c2
  · exact w_c3
set_option maxRecDepth 65536 in
theorem w_t1 : words1.all (fun c => isCode c || c.before args0 about1) = true := by decide +kernel
theorem w_tables : (allAtoms (Jvm.Cond.code x code maxLocals ret :: tables_1)).before args0 about1 = true := by
  rw [allAtoms_all]
  show words1.all (fun c => c.before args0 about1) = true
  refine all_split ?_ w_codes
  rw [w_t1]
set_option maxRecDepth 65536 in
theorem w_case : (Jvm.Cond.and given_1 narrow_1).before args0 about1 = true := by decide +kernel
theorem w_applies : (headSpec (Jvm.Cond.code x code maxLocals ret :: tables_1) room_1).applies x e0.platform about1 = true :=
  (Spec.applies_iff w_frames).mpr ⟨w_running, w_runnable, w_alone, w_named, w_hears, w_ripe, w_room, w_tables⟩
theorem atStart : AtStart classFile x code maxLocals ret World_1 tables_1 room_1 Calls_1 rest_1 Pre_1 launch0 p0 e0 about1 theMethod args0 below0 :=
  ⟨lists_1, trivial, launch0.admits_env _ _ _, launch0.least_env, fairChoices_fair.cas, fairChoices_fair.clock, w_frames, w_args, w_heap, w_applies, trivial, trivial, w_case⟩
end start1
theorem witness_1 : WitnessClaimed_1 := ⟨start1.p0, start1.e0, start1.about1, start1.theMethod, start1.args0, start1.below0, start1.atStart⟩
end Jvm.Pilot.@@N@@
