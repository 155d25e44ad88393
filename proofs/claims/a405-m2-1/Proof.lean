import JvmDerived
import JvmDerived.Pilot.@@N@@Statement
import JvmDerived.Pilot.@@N@@Code
set_option linter.unusedVariables false
set_option linter.unusedSimpArgs false
namespace Jvm.Pilot.@@N@@
open Jvm Jvm.ClassFile Sem Op Lib Jvm.Free Jvm.Stand Jvm.LawKit Jvm.RoadKit Bundle Jvm.Pilot.@@N@@.Jvm.D
section Own
variable {p : Program} {l : Launch} {e : Env} {R : Room} {s : State} {m : MethodId} {args : Array Value} {below : List Frame} {meth : Method} {c : Code} {T : State} {locs : List Loc} {cells slots : Nat} {Z : State} {h h' : Heap}
def Run (p : Program) (e : Env) (below : List Frame) (s : State) (C N : Nat) (Q : Option Value → Heap → List Loc → Prop) (S : State) : Prop :=
  ∃ s₂ o, Steps p.tables e below S s₂ ∧ s₂.status = .running ∧ Ended s₂ below o ∧ ∃ v L, o = .returned v ∧ Q v s₂.heap L ∧ FrameEnd s o s₂ L C N
variable {C N : Nat} {Q : Option Value → Heap → List Loc → Prop} {S S' : State}
theorem Run.go (k : ∀ t, Steps p.tables e below S' t → Steps p.tables e below S t) (r : Run p e below s C N Q S') : Run p e below s C N Q S := by
  obtain ⟨s₂, o, h1, r⟩ := r
  exact ⟨s₂, o, k _ h1, r⟩
theorem Run.tr (k : Steps p.tables e below S S') (r : Run p e below s C N Q S') : Run p e below s C N Q S := by
  obtain ⟨s₂, o, h1, r⟩ := r
  exact ⟨s₂, o, k.trans h1, r⟩
theorem Run.retI (X : Stand p l e R s m args below meth c T locs cells slots) (hx : p.tables.exec = Jvm.exec) {pc : Nat} {Ls : Array Slot} {z : Int32} {rest : List Value} (hret : meth.sig.returnType = some .int) (hlk : meth.locks = false) (hd : decode c.code pc = .ok (.ireturn, 1)) (hc : cells ≤ C) (hn : slots ≤ N)
    (hQ : Q (some (.int z)) T.heap locs) : Run p e below s C N Q (T.setTop (mkF m pc Ls (.int z :: rest))) := by
  obtain ⟨fs, hr, hrun, hended, hW, hsame⟩ := X.leave (v := some (.int z)) (fun q => by rw [hret] at q; cases q)
  refine ⟨_, _, ?_, hrun, hended, _, _, rfl, hQ, ⟨_, rfl⟩, hW, hsame.mono hc hn⟩
  have hm' : T.vm.method? m = some meth := X.method'
  have hn : narrow .int (.int z) = .int z := rfl
  show Steps p.tables e below (T.setTop { method := m, pc := pc, locals := Ls, stack := _ :: rest, locked := none }) _
  jvm_step X.here [X.here.top, hx, hd, hm', hret, hn]
  first | (intro acts; rw [hr _ acts rfl rfl rfl]) | rw [hr _ _ rfl rfl rfl]
  exact Steps.refl _
theorem Run.retN (X : Stand p l e R s m args below meth c T locs cells slots) (hx : p.tables.exec = Jvm.exec) {pc : Nat} {Ls : Array Slot} {z y : Int32} {t : FieldType} {rest : List Value} (hret : meth.sig.returnType = some t) (ht : t = .boolean ∨ t = .byte ∨ t = .char ∨ t = .short) (hy : nar t z = y) (hlk : meth.locks = false) (hd : decode c.code pc = .ok (.ireturn, 1)) (hc : cells ≤ C) (hn : slots ≤ N)
    (hQ : Q (some (.int y)) T.heap locs) : Run p e below s C N Q (T.setTop (mkF m pc Ls (.int z :: rest))) := by
  subst hy
  obtain ⟨fs, hr, hrun, hended, hW, hsame⟩ := X.leave (v := some (.int (nar t z))) (fun q => by rw [hret] at q; cases q)
  exact ⟨_, _, Jvm.RoadKit.retN X hx hret ht hd hr, hrun, hended, _, _, rfl, hQ, ⟨_, rfl⟩, hW, hsame.mono hc hn⟩
theorem Run.retJ (X : Stand p l e R s m args below meth c T locs cells slots) (hx : p.tables.exec = Jvm.exec) {pc : Nat} {Ls : Array Slot} {z : Int64} {rest : List Value} (hret : meth.sig.returnType = some .long) (hlk : meth.locks = false) (hd : decode c.code pc = .ok (.lreturn, 1)) (hc : cells ≤ C) (hn : slots ≤ N)
    (hQ : Q (some (.long z)) T.heap locs) : Run p e below s C N Q (T.setTop (mkF m pc Ls (.long z :: rest))) := by
  obtain ⟨fs, hr, hrun, hended, hW, hsame⟩ := X.leave (v := some (.long z)) (fun q => by rw [hret] at q; cases q)
  refine ⟨_, _, ?_, hrun, hended, _, _, rfl, hQ, ⟨_, rfl⟩, hW, hsame.mono hc hn⟩
  have hm' : T.vm.method? m = some meth := X.method'
  show Steps p.tables e below (T.setTop { method := m, pc := pc, locals := Ls, stack := _ :: rest, locked := none }) _
  jvm_step X.here [X.here.top, hx, hd, hm', hret, narrow]
  first | (intro acts; rw [hr _ acts rfl rfl rfl]) | rw [hr _ _ rfl rfl rfl]
  exact Steps.refl _
theorem Run.retA (X : Stand p l e R s m args below meth c T locs cells slots) (hx : p.tables.exec = Jvm.exec) {pc : Nat} {Ls : Array Slot} {w : Value} {t : FieldType} {rest : List Value} (hw : w.isRef = true) (hret : meth.sig.returnType = some t) (ht : t.isReference = true) (hlk : meth.locks = false) (hd : decode c.code pc = .ok (.areturn, 1)) (hc : cells ≤ C) (hn : slots ≤ N)
    (hQ : Q (some w) T.heap locs) : Run p e below s C N Q (T.setTop (mkF m pc Ls (w :: rest))) := by
  obtain ⟨fs, hr, hrun, hended, hW, hsame⟩ := X.leave (v := some w) (fun q => by rw [hret] at q; cases q)
  refine ⟨_, _, ?_, hrun, hended, _, _, rfl, hQ, ⟨_, rfl⟩, hW, hsame.mono hc hn⟩
  have hm' : T.vm.method? m = some meth := X.method'
  show Steps p.tables e below (T.setTop { method := m, pc := pc, locals := Ls, stack := _ :: rest, locked := none }) _
  rcases ref_cases hw with rfl | ⟨a, rfl⟩
  all_goals
    jvm_step X.here [X.here.top, hx, hd, hm', hret, Value.isRef, ht]
    first | (intro acts; rw [hr _ acts rfl rfl rfl]) | rw [hr _ _ rfl rfl rfl]
    exact Steps.refl _
theorem Run.ret0 (X : Stand p l e R s m args below meth c T locs cells slots) (hx : p.tables.exec = Jvm.exec) {pc : Nat} {Ls : Array Slot} (hret : meth.sig.returnType = none) (hlk : meth.locks = false) (hd : decode c.code pc = .ok (.return_, 1)) (hc : cells ≤ C) (hn : slots ≤ N)
    (hQ : Q none T.heap locs) : Run p e below s C N Q (T.setTop (mkF m pc Ls [])) := by
  obtain ⟨fs, hr, hrun, hended, hW, hsame⟩ := X.leave (v := none) (fun _ => rfl)
  exact ⟨_, _, X.returnOut hx hret hd hr, hrun, hended, _, _, rfl, hQ, ⟨_, rfl⟩, hW, hsame.mono hc hn⟩
theorem Stand_gen {k : Nat} (X : Stand p l e R s m args below meth c T locs cells slots) (F : Fr k locs) : ∃ L, Stand p l e R s m args below meth c T L cells slots ∧ Fr k L := ⟨_, X, F⟩
theorem Sta.keep {C n d : String} {w : Value} {ws : List Addr} (F : Sta Z h C n d w) (K : Keep h h' ws) (q : ∀ x ∈ ws, ∀ c : Cell, h[x]? = some c → c.vm.isStatics = false) : Sta Z h' C n d w := by
  obtain ⟨cf, i, k, f, st, cell, h1, h2, h3, h4, h5, h6, h7⟩ := F
  refine ⟨cf, i, k, f, st, cell, h1, h2, h3, h4, K.2.1 st cell h5 (fun hm => ?_), h6, h7⟩
  rw [q st hm cell h5] at h6; cases h6
theorem Exa.nst {a : Addr} {C : String} (F : Exa Z h a C) : ∀ c : Cell, h[a]? = some c → c.vm.isStatics = false := fun c q => by
  obtain ⟨cell, k, h1, -, -, h4, -⟩ := F
  cases h1.symm.trans q; exact h4
/-- an array of n elements, the i-th is f i -/
def Ary (Z : State) (h : Heap) (a : Addr) (ty : FieldType) (n : Nat) (f : Nat → Value) : Prop := ∃ c : Cell, Arr Z h a c ty ∧ c.slots.size = n ∧ ∀ i, i < n → c.slots[i]? = some (f i)
variable {a b : Addr} {ty : FieldType} {n sl : Nat} {f : Nat → Value} {v : Value} {ws : List Addr}
theorem Ary.lt (F : Ary Z h a ty n f) : a < h.size := by obtain ⟨c, A, -⟩ := F; exact A.lt
theorem Ary.ext (F : Ary Z h a ty n f) (E : Ext h h') : Ary Z h' a ty n f := by obtain ⟨c, A, r⟩ := F; exact ⟨c, A.ext E, r⟩
theorem Ary.other (F : Ary Z h b ty n f) (W : Wr h h' a sl v) (q : b ≠ a) : Ary Z h' b ty n f := by obtain ⟨c, A, r⟩ := F; exact ⟨c, A.other W q, r⟩
theorem Ary.keep (F : Ary Z h a ty n f) (K : Keep h h' ws) (q : a ∉ ws) : Ary Z h' a ty n f := by obtain ⟨c, A, r⟩ := F; exact ⟨c, ⟨K.2.1 a c A.1 q, A.2⟩, r⟩
theorem Ary.ne {C : String} {a0 : Array Value} {k : Nat} (F : Ary Z h a ty n f) (G : Exa Z h b C) (wi : (Jvm.Cond.instantiable C k).before a0 Z = true) : a ≠ b := by
  obtain ⟨c, A, r⟩ := F; exact (ne_arr G wi A).symm
theorem Ary.same (F : Ary Z h a ty n f) (W : Wr h h' a sl v) : Ary Z h' a ty n (fun i => if i = sl then v else f i) := by
  obtain ⟨c, A, hs, hf⟩ := F
  obtain ⟨c1, q1, q2, q3, q4⟩ := W
  obtain rfl := Option.some.inj (q1.symm.trans A.1)
  refine ⟨c1.setSlot sl v, A.same ⟨c1, q1, q2, q3, q4⟩, by simp [Cell.setSlot, hs], fun i hi => ?_⟩
  by_cases e : i = sl
  · subst e; simp [Cell.setSlot, q3]
  · simp only [if_neg e]; rw [← hf i hi]; exact Array.getElem?_setIfInBounds_ne (Ne.symm e)
theorem Ary.nst (F : Ary Z h a ty n f) : ∀ c : Cell, h[a]? = some c → c.vm.isStatics = false := fun c q => by
  obtain ⟨cl, A, -⟩ := F
  cases A.1.symm.trans q; exact A.plain
theorem Ary.congr {g : Nat → Value} (F : Ary Z h a ty n f) (q : ∀ i, i < n → f i = g i) : Ary Z h a ty n g := by
  obtain ⟨c, A, hs, hf⟩ := F; exact ⟨c, A, hs, fun i hi => by rw [hf i hi, q i hi]⟩
theorem Ary.new {k : ClassId} {z : Int32} (A : Arr Z h a (newA k ty z) ty) (q : z.toNatClampNeg = n) : Ary Z h a ty n (fun _ => defaultValue ty) := by
  subst q
  exact ⟨_, A, sz_new _ _ _, fun i hi => by simp [newA, hi]⟩
theorem out_of {j : Int32} {c : Cell} (hs : c.slots.size = n) (h0 : ¬ j < 0) (hj : j.toNatClampNeg < n) : ¬ (j < 0 ∨ c.slots.size ≤ j.toNatClampNeg) := by
  rw [hs]; exact fun q => q.elim h0 (fun q => absurd hj (Nat.not_lt.mpr q))
/-- an array of references: besides, its class is that of arrays over C -/
def ArR (Z : State) (h : Heap) (a : Addr) (C : String) (n : Nat) (f : Nat → Value) : Prop := ∃ c : Cell, Arr Z h a c (.object C) ∧ Ovr Z c.cls C ∧ c.slots.size = n ∧ ∀ i, i < n → c.slots[i]? = some (f i)
variable {K : String}
theorem ArR.lt (F : ArR Z h a K n f) : a < h.size := by obtain ⟨c, A, -⟩ := F; exact A.lt
theorem ArR.ext (F : ArR Z h a K n f) (E : Ext h h') : ArR Z h' a K n f := by obtain ⟨c, A, r⟩ := F; exact ⟨c, A.ext E, r⟩
theorem ArR.other (F : ArR Z h b K n f) (W : Wr h h' a sl v) (q : b ≠ a) : ArR Z h' b K n f := by obtain ⟨c, A, r⟩ := F; exact ⟨c, A.other W q, r⟩
theorem ArR.keep (F : ArR Z h a K n f) (k : Keep h h' ws) (q : a ∉ ws) : ArR Z h' a K n f := by obtain ⟨c, A, r⟩ := F; exact ⟨c, ⟨k.2.1 a c A.1 q, A.2⟩, r⟩
theorem ArR.ary (F : ArR Z h a K n f) : Ary Z h a (.object K) n f := by obtain ⟨c, A, -, r⟩ := F; exact ⟨c, A, r⟩
theorem ArR.same (F : ArR Z h a K n f) (W : Wr h h' a sl v) : ArR Z h' a K n (fun i => if i = sl then v else f i) := by
  obtain ⟨c, A, o, hs, hf⟩ := F
  obtain ⟨c1, q1, q2, q3, q4⟩ := W
  obtain rfl := Option.some.inj (q1.symm.trans A.1)
  refine ⟨c1.setSlot sl v, A.same ⟨c1, q1, q2, q3, q4⟩, o, by simp [Cell.setSlot, hs], fun i hi => ?_⟩
  by_cases e : i = sl
  · subst e; simp [Cell.setSlot, q3]
  · simp only [if_neg e]; rw [← hf i hi]; exact Array.getElem?_setIfInBounds_ne (Ne.symm e)
theorem ArR.new {k : ClassId} {z : Int32} (A : Arr Z h a (newA k (.object K) z) (.object K)) (O : Ovr Z k K) (q : z.toNatClampNeg = n) : ArR Z h a K n (fun _ => .null) := by
  subst q
  exact ⟨_, A, O, sz_new _ _ _, fun i hi => by simp [newA, hi]; rfl⟩
section Arrays
theorem ary_iget (X : Stand p l e R s m args below meth c T locs cells slots) (hx : p.tables.exec = Jvm.exec) (hZ : Z.Warmed39 s.vm) (eT : T.heap = h) (A : Ary Z h a .int n f) {j : Int32} (h0 : ¬ j < 0) (hj : j.toNatClampNeg < n) {g : JFrame} (hg : g.method = m) {rest : List Value} (hs : g.stack = .int j :: .ref a :: rest) (hd : decode c.code g.pc = .ok (.iaload, 1)) {v : Value} (hv : f j.toNatClampNeg = v) (target : State)
    (k : Steps p.tables e below (T.setTop { g with pc := g.pc + 1, stack := v :: rest }) target) : Steps p.tables e below (T.setTop g) target := by
  subst hv; obtain ⟨cl, A, q, F⟩ := A
  exact X.iaload hx (by rw [eT]; exact A.1) (State.isArrayOf_alike hZ.alike A.2.1) A.2.2 (out_of q h0 hj) (F _ hj) hg hs hd target k
theorem ary_lget (X : Stand p l e R s m args below meth c T locs cells slots) (hx : p.tables.exec = Jvm.exec) (hZ : Z.Warmed39 s.vm) (eT : T.heap = h) (A : Ary Z h a .long n f) {j : Int32} (h0 : ¬ j < 0) (hj : j.toNatClampNeg < n) {g : JFrame} (hg : g.method = m) {rest : List Value} (hs : g.stack = .int j :: .ref a :: rest) (hd : decode c.code g.pc = .ok (.laload, 1)) {v : Value} (hv : f j.toNatClampNeg = v) (target : State)
    (k : Steps p.tables e below (T.setTop { g with pc := g.pc + 1, stack := v :: rest }) target) : Steps p.tables e below (T.setTop g) target := by
  subst hv; obtain ⟨cl, A, q, F⟩ := A
  exact X.laload hx (by rw [eT]; exact A.1) (State.isArrayOf_alike hZ.alike A.2.1) A.2.2 (out_of q h0 hj) (F _ hj) hg hs hd target k
theorem ary_bget (X : Stand p l e R s m args below meth c T locs cells slots) (hx : p.tables.exec = Jvm.exec) (hZ : Z.Warmed39 s.vm) (eT : T.heap = h) (A : Ary Z h a .byte n f) {j : Int32} (h0 : ¬ j < 0) (hj : j.toNatClampNeg < n) {g : JFrame} (hg : g.method = m) {rest : List Value} (hs : g.stack = .int j :: .ref a :: rest) (hd : decode c.code g.pc = .ok (.baload, 1)) {v : Value} (hv : f j.toNatClampNeg = v) (target : State)
    (k : Steps p.tables e below (T.setTop { g with pc := g.pc + 1, stack := v :: rest }) target) : Steps p.tables e below (T.setTop g) target := by
  subst hv; obtain ⟨cl, A, q, F⟩ := A
  exact X.baloadBytes hx (by rw [eT]; exact A.1) (State.isArrayOf_alike hZ.alike A.2.1) A.2.2 (out_of q h0 hj) (F _ hj) hg hs hd target k
theorem ary_cget (X : Stand p l e R s m args below meth c T locs cells slots) (hx : p.tables.exec = Jvm.exec) (hZ : Z.Warmed39 s.vm) (eT : T.heap = h) (A : Ary Z h a .char n f) {j : Int32} (h0 : ¬ j < 0) (hj : j.toNatClampNeg < n) {g : JFrame} (hg : g.method = m) {rest : List Value} (hs : g.stack = .int j :: .ref a :: rest) (hd : decode c.code g.pc = .ok (.caload, 1)) {v : Value} (hv : f j.toNatClampNeg = v) (target : State)
    (k : Steps p.tables e below (T.setTop { g with pc := g.pc + 1, stack := v :: rest }) target) : Steps p.tables e below (T.setTop g) target := by
  subst hv; obtain ⟨cl, A, q, F⟩ := A
  exact X.caload hx (by rw [eT]; exact A.1) (State.isArrayOf_alike hZ.alike A.2.1) A.2.2 (out_of q h0 hj) (F _ hj) hg hs hd target k
theorem ary_aget (X : Stand p l e R s m args below meth c T locs cells slots) (hx : p.tables.exec = Jvm.exec) (hZ : Z.Warmed39 s.vm) (eT : T.heap = h) (A : Ary Z h a ty n f) (hr : ty.isReference = true) {j : Int32} (h0 : ¬ j < 0) (hj : j.toNatClampNeg < n) {g : JFrame} (hg : g.method = m) {rest : List Value} (hs : g.stack = .int j :: .ref a :: rest) (hd : decode c.code g.pc = .ok (.aaload, 1)) {v : Value} (hv : f j.toNatClampNeg = v) (target : State)
    (k : Steps p.tables e below (T.setTop { g with pc := g.pc + 1, stack := v :: rest }) target) : Steps p.tables e below (T.setTop g) target := by
  subst hv; obtain ⟨cl, A, q, F⟩ := A
  exact X.aaload hx (by rw [eT]; exact A.1) (State.isArrayOf_alike hZ.alike A.2.1) hr A.2.2 (out_of q h0 hj) (F _ hj) hg hs hd target k
theorem ary_len (X : Stand p l e R s m args below meth c T locs cells slots) (hx : p.tables.exec = Jvm.exec) (hZ : Z.Warmed39 s.vm) (eT : T.heap = h) (A : Ary Z h a ty n f) {g : JFrame} (hg : g.method = m) {rest : List Value} (hs : g.stack = .ref a :: rest) (hd : decode c.code g.pc = .ok (.arraylength, 1)) {z : Int32} (hv : n.toInt32 = z) (target : State)
    (k : Steps p.tables e below (T.setTop { g with pc := g.pc + 1, stack := .int z :: rest }) target) : Steps p.tables e below (T.setTop g) target := by
  subst hv; obtain ⟨cl, A, q, F⟩ := A
  subst q
  exact X.arraylength hx (by rw [eT]; exact A.1) (State.isArrayOf_alike hZ.alike A.2.1) hg hs hd target k
theorem ary_iset (X : Stand p l e R s m args below meth c T locs cells slots) (hx : p.tables.exec = Jvm.exec) (hZ : Z.Warmed39 s.vm) (eT : T.heap = h) (A : Ary Z h a .int n f) {j x : Int32} (h0 : ¬ j < 0) (hj : j.toNatClampNeg < n) {g : JFrame} (hg : g.method = m) {rest : List Value} (hs : g.stack = .int x :: .int j :: .ref a :: rest) (hd : decode c.code g.pc = .ok (.iastore, 1)) :
    ∃ T' h', Stand p l e R s m args below meth c T' (locs ++ [⟨a, j.toNatClampNeg⟩]) cells slots ∧ T'.heap = h' ∧ Wr h h' a j.toNatClampNeg (.int x) ∧ ∀ target, Steps p.tables e below (T'.setTop { g with pc := g.pc + 1, stack := rest }) target → Steps p.tables e below (T.setTop g) target := by
  obtain ⟨cl, A, q, F⟩ := A
  exact stI X hx hZ eT A (out_of q h0 hj) hg hs hd
theorem ary_lset (X : Stand p l e R s m args below meth c T locs cells slots) (hx : p.tables.exec = Jvm.exec) (hZ : Z.Warmed39 s.vm) (eT : T.heap = h) (A : Ary Z h a .long n f) {j : Int32} {x : Int64} (h0 : ¬ j < 0) (hj : j.toNatClampNeg < n) {g : JFrame} (hg : g.method = m) {rest : List Value} (hs : g.stack = .long x :: .int j :: .ref a :: rest) (hd : decode c.code g.pc = .ok (.lastore, 1)) :
    ∃ T' h', Stand p l e R s m args below meth c T' (locs ++ [⟨a, j.toNatClampNeg⟩]) cells slots ∧ T'.heap = h' ∧ Wr h h' a j.toNatClampNeg (.long x) ∧ ∀ target, Steps p.tables e below (T'.setTop { g with pc := g.pc + 1, stack := rest }) target → Steps p.tables e below (T.setTop g) target := by
  obtain ⟨cl, A, q, F⟩ := A
  exact stJ X hx hZ eT A (out_of q h0 hj) hg hs hd
theorem ary_bset (X : Stand p l e R s m args below meth c T locs cells slots) (hx : p.tables.exec = Jvm.exec) (hZ : Z.Warmed39 s.vm) (eT : T.heap = h) (A : Ary Z h a .byte n f) {j x y : Int32} (h0 : ¬ j < 0) (hj : j.toNatClampNeg < n) {g : JFrame} (hg : g.method = m) {rest : List Value} (hs : g.stack = .int x :: .int j :: .ref a :: rest) (hd : decode c.code g.pc = .ok (.bastore, 1)) (hy : x.toInt8.toInt32 = y) :
    ∃ T' h', Stand p l e R s m args below meth c T' (locs ++ [⟨a, j.toNatClampNeg⟩]) cells slots ∧ T'.heap = h' ∧ Wr h h' a j.toNatClampNeg (.int y) ∧ ∀ target, Steps p.tables e below (T'.setTop { g with pc := g.pc + 1, stack := rest }) target → Steps p.tables e below (T.setTop g) target := by
  subst hy; obtain ⟨cl, A, q, F⟩ := A
  exact stB X hx hZ eT A (out_of q h0 hj) hg hs hd
theorem ary_cset (X : Stand p l e R s m args below meth c T locs cells slots) (hx : p.tables.exec = Jvm.exec) (hZ : Z.Warmed39 s.vm) (eT : T.heap = h) (A : Ary Z h a .char n f) {j x y : Int32} (h0 : ¬ j < 0) (hj : j.toNatClampNeg < n) {g : JFrame} (hg : g.method = m) {rest : List Value} (hs : g.stack = .int x :: .int j :: .ref a :: rest) (hd : decode c.code g.pc = .ok (.castore, 1)) (hy : nar .char x = y) :
    ∃ T' h', Stand p l e R s m args below meth c T' (locs ++ [⟨a, j.toNatClampNeg⟩]) cells slots ∧ T'.heap = h' ∧ Wr h h' a j.toNatClampNeg (.int y) ∧ ∀ target, Steps p.tables e below (T'.setTop { g with pc := g.pc + 1, stack := rest }) target → Steps p.tables e below (T.setTop g) target := by
  subst hy; obtain ⟨cl, A, q, F⟩ := A
  exact stC X hx hZ eT A (out_of q h0 hj) hg hs hd
theorem arr_set (X : Stand p l e R s m args below meth c T locs cells slots) (hx : p.tables.exec = Jvm.exec) (hZ : Z.Warmed39 s.vm) (eT : T.heap = h) (A : ArR Z h a K n f) {j : Int32} {y : Addr} (I : Ins Z h y K true) (h0 : ¬ j < 0) (hj : j.toNatClampNeg < n) {g : JFrame} (hg : g.method = m) {rest : List Value} (hs : g.stack = .ref y :: .int j :: .ref a :: rest) (hd : decode c.code g.pc = .ok (.aastore, 1)) :
    ∃ T' h', Stand p l e R s m args below meth c T' (locs ++ [⟨a, j.toNatClampNeg⟩]) cells slots ∧ T'.heap = h' ∧ Wr h h' a j.toNatClampNeg (.ref y) ∧ ∀ target, Steps p.tables e below (T'.setTop { g with pc := g.pc + 1, stack := rest }) target → Steps p.tables e below (T.setTop g) target := by
  obtain ⟨cl, A, O, q, F⟩ := A
  exact stR X hx hZ eT A (out_of q h0 hj) rfl (Sto.of A O I) hg hs hd
end Arrays
theorem nar_ite (P : Prop) [Decidable P] : nar .boolean (if P then (1 : Int32) else 0) = if P then 1 else 0 := by by_cases q : P <;> simp [q] <;> rfl
theorem cat_ref {w : Value} (q : w.isRef = true) : w.category = 1 := by cases w <;> first | rfl | (simp [Value.isRef] at q)
theorem upd_hit {g f : Nat → Value} {k : Nat} {w : Value} (q : g = fun i => if i = k then w else f i) : g k = w := by rw [q]; exact if_pos rfl
theorem upd_miss {g f : Nat → Value} {k j : Nat} {w u : Value} (q : g = fun i => if i = k then w else f i) (ne : ¬ j = k) (r : f j = u) : g j = u := by rw [q]; exact (if_neg ne).trans r
theorem upd_c {g : Nat → Value} {j : Nat} {w : Value} (q : g = fun _ => w) : g j = w := by rw [q]
theorem b_idem (x : Int32) : x.toInt8.toInt32.toInt8.toInt32 = x.toInt8.toInt32 := by rw [Int8.toInt8_toInt32]
theorem isI_c (x : Int32) : ∀ n : Nat, ∃ y, (fun _ => Value.int x) n = Value.int y := fun _ => ⟨x, rfl⟩
theorem isI_s {f : Nat → Value} (q : ∀ n, ∃ y, f n = Value.int y) (k : Nat) (x : Int32) : ∀ n, ∃ y, (fun i => if i = k then Value.int x else f i) n = Value.int y := fun n => by
  by_cases e : n = k
  · exact ⟨x, if_pos e⟩
  · obtain ⟨y, hy⟩ := q n
    exact ⟨y, (if_neg e).trans hy⟩
end Own
section OwnDbl
variable {p : Program} {l : Launch} {e : Env} {R : Room} {s : State} {m : MethodId} {args : Array Value} {below : List Frame} {meth : Method} {c : Code} {T : State} {locs : List Loc} {cells slots : Nat} {Z : State} {h h' : Heap} {C N : Nat} {Q : Option Value → Heap → List Loc → Prop}
theorem Run.retD (X : Stand p l e R s m args below meth c T locs cells slots) (hx : p.tables.exec = Jvm.exec) {pc : Nat} {Ls : Array Slot} {z : UInt64} {rest : List Value} (hret : meth.sig.returnType = some .double) (hlk : meth.locks = false) (hd : decode c.code pc = .ok (.dreturn, 1)) (hc : cells ≤ C) (hn : slots ≤ N)
    (hQ : Q (some (.double z)) T.heap locs) : Run p e below s C N Q (T.setTop (mkF m pc Ls (.double z :: rest))) := by
  obtain ⟨fs, hr, hrun, hended, hW, hsame⟩ := X.leave (v := some (.double z)) (fun q => by rw [hret] at q; cases q)
  refine ⟨_, _, ?_, hrun, hended, _, _, rfl, hQ, ⟨_, rfl⟩, hW, hsame.mono hc hn⟩
  have hm' : T.vm.method? m = some meth := X.method'
  show Steps p.tables e below (T.setTop { method := m, pc := pc, locals := Ls, stack := _ :: rest, locked := none }) _
  jvm_step X.here [X.here.top, hx, hd, hm', hret, narrow]
  first | (intro acts; rw [hr _ acts rfl rfl rfl]) | rw [hr _ _ rfl rfl rfl]
  exact Steps.refl _
end OwnDbl
section OwnCa
open Jvm.FP.Core
def pw (K : Nat) : Int := ((2 ^ K : Nat) : Int)
theorem pw_add (a b : Nat) : pw (a + b) = pw a * pw b := by unfold pw; rw [Nat.pow_add, Int.natCast_mul]
theorem pw_pos (a : Nat) : 0 < pw a := by have := Nat.two_pow_pos a; unfold pw; omega
theorem pw_le {a b : Nat} (h : a ≤ b) : pw a ≤ pw b := by have := Nat.pow_le_pow_right (n := 2) (by decide) h; unfold pw; omega
theorem own_qm : ((2 ^ (-b64.qmin).toNat : Nat) : Int) = pw 1074 := by
  have e : (-b64.qmin).toNat = 1074 := by rw [qmin_b64]; rfl
  unfold pw; rw [e]
theorem own_qm2 : ((2 ^ (b64.qmin - 2 * b64.qmin).toNat : Nat) : Int) = pw 1074 := by
  have e : (b64.qmin - 2 * b64.qmin).toNat = 1074 := by rw [qmin_b64]; rfl
  unfold pw; rw [e]
theorem own_shape {v : Int64} (h0 : v.toInt ≠ 0) (h1 : Small53 v) : ∃ (c : Nat) (q : Int), val64 (l2d v) = .fin (decide (v.toInt < 0)) c q ∧ 2 ^ 52 ≤ c ∧ c < 2 ^ 53 ∧ -53 < q ∧ q ≤ 0 ∧ zval b64 (val64 (l2d v)) = v.toInt * pw 1074 := by
  obtain ⟨c, q, hv⟩ := l2d_shape v
  have W := l2d_whole (a := v) h1
  have WZ := whole_zval good_b64 (val64_fits (l2d v)) W
  rw [own_qm] at WZ
  rw [hv] at W
  have E := whole_natAbs W
  have F := val64_fits (l2d v)
  rw [hv] at F
  obtain ⟨f1, f2, f3, f4⟩ := F
  have e0 : b64.qmin = -1074 := qmin_b64
  have e1 : b64.tails = 2 ^ 52 := tails_b64
  have e2 : b64.p = 53 := rfl
  rw [e0] at f2 f4
  rw [e1] at f4
  rw [e2] at f1
  obtain ⟨b1, b2⟩ := h1
  have n0 : 1 ≤ v.toInt.natAbs := by omega
  have n1 : v.toInt.natAbs < 2 ^ 53 := by omega
  have a1 : -53 < q := by
    by_cases k : -53 < q
    · exact k
    · exfalso
      have z : q.toNat = 0 := by omega
      rw [z] at E
      have g : 2 ^ 53 ≤ 2 ^ (-q).toNat := Nat.pow_le_pow_right (by decide) (by omega)
      have g2 : 1 * 2 ^ (-q).toNat ≤ v.toInt.natAbs * 2 ^ (-q).toNat := Nat.mul_le_mul_right _ n0
      omega
  have a2 : 2 ^ 52 ≤ c := by omega
  refine ⟨c, q, hv, a2, f1, a1, ?_, WZ⟩
  by_cases k : q ≤ 0
  · exact k
  · exfalso
    have z : (-q).toNat = 0 := by omega
    rw [z] at E
    have g : 2 ^ 1 ≤ 2 ^ q.toNat := Nat.pow_le_pow_right (by decide) (by omega)
    have g2 : 2 ^ 52 * 2 ^ 1 ≤ c * 2 ^ q.toNat := Nat.mul_le_mul a2 g
    omega
/-- z least numbers are a double -/
def Rep (z : Int) : Prop := ∃ V, Jvm.FP.Core.fits b64 V ∧ V ≠ .nan ∧ zval b64 V = z
theorem own_rep {i : Int} {K : Nat} (h1 : -9007199254740992 < i) (h2 : i < 9007199254740992) (k1 : 53 ≤ K) (k2 : K ≤ 2000) : Rep (i * pw K) := by
  by_cases z : i = 0
  · subst z
    exact ⟨_, val64_fits 0, by rw [val64_zero]; exact nofun, by rw [zval64_zero, Int.zero_mul]⟩
  · have hi : (Int64.ofInt i).toInt = i := Int64.toInt_ofInt_of_le (by omega) (by omega)
    obtain ⟨c, q, hv, c1, c2, q1, q2, hz⟩ := own_shape (v := Int64.ofInt i) (by rw [hi]; exact z) ⟨by rw [hi]; exact h1, by rw [hi]; exact h2⟩
    rw [hv, hi] at hz
    refine ⟨.fin (decide (i < 0)) c (q + K - 1074), ⟨c2, ?_, ?_, Or.inr c1⟩, nofun, ?_⟩
    · show (-1074 : Int) ≤ _
      omega
    · show _ ≤ (971 : Int)
      omega
    · have u : signed (decide (i < 0)) (c * 2 ^ (q + 1074).toNat) = i * pw 1074 := by
        have e : q + 1074 = q - b64.qmin := by rw [qmin_b64]; omega
        rw [e]; exact hz
      show signed (decide (i < 0)) (c * 2 ^ ((q + K - 1074) - b64.qmin).toNat) = i * pw K
      rw [qmin_b64, show (q + K - 1074 - -1074).toNat = (q + K).toNat by omega]
      rw [signed_mul] at u ⊢
      refine Int.eq_of_mul_eq_mul_right (Int.ne_of_gt (pw_pos 1074)) ?_
      show signed (decide (i < 0)) c * pw (q + K).toNat * pw 1074 = _
      rw [Int.mul_assoc, ← pw_add, show (q + K).toNat + 1074 = (q + 1074).toNat + K by omega, pw_add, ← Int.mul_assoc]
      rw [show signed (decide (i < 0)) c * pw (q + 1074).toNat = i * pw 1074 from u]
      exact Int.mul_right_comm _ _ _
/-- a number, from lo to hi times 2^(K - 1074) -/
def OB (a : UInt64) (lo hi : Int) (K : Nat) : Prop := val64 a ≠ .nan ∧ lo * pw K ≤ zval b64 (val64 a) ∧ zval b64 (val64 a) ≤ hi * pw K
theorem own_top : zmag b64 (.inf false) = 2 ^ 2098 := by decide +kernel
theorem OB.fin {a : UInt64} {lo hi : Int} {K : Nat} (h : OB a lo hi K) (h1 : -9007199254740992 < lo) (h2 : hi < 9007199254740992) (k : K ≤ 2000) : DFin a := by
  obtain ⟨n, l, u⟩ := h
  unfold DFin
  cases e : val64 a with
  | nan => exact absurd e n
  | fin s c q => exact ⟨s, c, q, rfl⟩
  | inf s =>
    exfalso
    rw [e] at l u
    have P : zval b64 (.inf s) = signed s (2 ^ 2098) := by rw [← own_top]; rfl
    rw [P] at l u
    have g : pw 53 * pw K ≤ pw 2053 := by rw [← pw_add]; exact pw_le (by omega)
    have g1 : hi * pw K ≤ pw 53 * pw K := Int.mul_le_mul_of_nonneg_right (by show hi ≤ 9007199254740992; omega) (Int.le_of_lt (pw_pos K))
    have g2 : -pw 53 * pw K ≤ lo * pw K := Int.mul_le_mul_of_nonneg_right (by show -9007199254740992 ≤ lo; omega) (Int.le_of_lt (pw_pos K))
    rw [Int.neg_mul] at g2
    have g3 : pw 2053 * 2 ≤ pw 2098 := by rw [show (2 : Int) = pw 1 from rfl, ← pw_add]; exact pw_le (by omega)
    have g4 := pw_pos 2053
    have g5 : ((2 ^ 2098 : Nat) : Int) = pw 2098 := rfl
    cases s
    · rw [show signed false (2 ^ 2098) = pw 2098 from rfl] at u; omega
    · rw [show signed true (2 ^ 2098) = -pw 2098 from rfl] at l; omega
theorem own_nn_add {a b : UInt64} (ha : DFin a) (hb : DFin b) : val64 (dadd a b) ≠ .nan := by
  obtain ⟨s, c, q, e⟩ := ha; obtain ⟨t, d, r, g⟩ := hb
  rw [val64_dadd, e, g]
  exact roundRatio_ne_nan _ _ _ _ _
theorem own_nn_mul {a b : UInt64} (ha : DFin a) (hb : DFin b) : val64 (dmul a b) ≠ .nan := by
  obtain ⟨s, c, q, e⟩ := ha; obtain ⟨t, d, r, g⟩ := hb
  rw [val64_dmul, e, g]
  exact roundRatio_ne_nan _ _ _ _ _
theorem own_sum_le {a b : UInt64} {w : Int} (ha : DFin a) (hb : DFin b) (R : Rep w) (h : zval b64 (val64 a) + zval b64 (val64 b) ≤ w) : zval b64 (val64 (dadd a b)) ≤ w := by
  obtain ⟨s, c, q, e⟩ := ha; obtain ⟨t, d, r, g⟩ := hb
  have fa := val64_fits a; have fb := val64_fits b
  rw [val64_dadd]; rw [e] at fa h ⊢; rw [g] at fb h ⊢
  obtain ⟨sg, n, x, p1, p2, p3⟩ := sum_units fa fb
  obtain ⟨V, f1, f2, rfl⟩ := R
  rw [p1]
  refine zval_round_le good_b64 f1 f2 (Int.le_refl _) p2 ?_
  rw [p3, Int.sub_self, Int.toNat_zero, Nat.pow_zero]; omega
theorem own_sum_ge {a b : UInt64} {w : Int} (ha : DFin a) (hb : DFin b) (R : Rep w) (h : w ≤ zval b64 (val64 a) + zval b64 (val64 b)) : w ≤ zval b64 (val64 (dadd a b)) := by
  obtain ⟨s, c, q, e⟩ := ha; obtain ⟨t, d, r, g⟩ := hb
  have fa := val64_fits a; have fb := val64_fits b
  rw [val64_dadd]; rw [e] at fa h ⊢; rw [g] at fb h ⊢
  obtain ⟨sg, n, x, p1, p2, p3⟩ := sum_units fa fb
  obtain ⟨V, f1, f2, rfl⟩ := R
  rw [p1]
  refine zval_round_ge good_b64 f1 f2 (Int.le_refl _) p2 ?_
  rw [p3, Int.sub_self, Int.toNat_zero, Nat.pow_zero]; omega
theorem own_prod {a b : UInt64} (ha : DFin a) (hb : DFin b) : ∃ sg n x, val64 (dmul a b) = round b64 (.fin sg n x) ∧ 2 * b64.qmin ≤ x ∧ signed sg (inUnits n x (2 * b64.qmin)) = zval b64 (val64 a) * zval b64 (val64 b) := by
  obtain ⟨s, c, q, e⟩ := ha; obtain ⟨t, d, r, g⟩ := hb
  have fa := val64_fits a; have fb := val64_fits b
  rw [val64_dmul]; rw [e] at fa ⊢; rw [g] at fb ⊢
  obtain ⟨p1, p2, p3⟩ := product_units fa fb
  refine ⟨_, _, _, by rw [p1], p2, ?_⟩
  rw [p3]
  show _ = signed s _ * signed t _
  generalize zmag b64 (.fin s c q) = x
  generalize zmag b64 (.fin t d r) = y
  cases s <;> cases t <;> simp [signed, Int.neg_mul, Int.mul_neg]
theorem own_prod_le {a b : UInt64} {w : Int} (ha : DFin a) (hb : DFin b) (R : Rep w) (h : zval b64 (val64 a) * zval b64 (val64 b) ≤ w * pw 1074) : zval b64 (val64 (dmul a b)) ≤ w := by
  obtain ⟨sg, n, x, p1, p2, p3⟩ := own_prod ha hb
  obtain ⟨V, f1, f2, rfl⟩ := R
  rw [p1]
  refine zval_round_le good_b64 f1 f2 (e0 := 2 * b64.qmin) (by rw [qmin_b64]; decide) p2 ?_
  rw [p3, own_qm2]; exact h
theorem own_prod_ge {a b : UInt64} {w : Int} (ha : DFin a) (hb : DFin b) (R : Rep w) (h : w * pw 1074 ≤ zval b64 (val64 a) * zval b64 (val64 b)) : w ≤ zval b64 (val64 (dmul a b)) := by
  obtain ⟨sg, n, x, p1, p2, p3⟩ := own_prod ha hb
  obtain ⟨V, f1, f2, rfl⟩ := R
  rw [p1]
  refine zval_round_ge good_b64 f1 f2 (e0 := 2 * b64.qmin) (by rw [qmin_b64]; decide) p2 ?_
  rw [p3, own_qm2]; exact h
theorem OB.eq {a : UInt64} {i : Int} {K : Nat} (h : OB a i i K) : zval b64 (val64 a) = i * pw K := Int.le_antisymm h.2.2 h.2.1
theorem own_addx {a b : UInt64} {i j : Int} {K : Nat} (A : OB a i i K) (B : OB b j j K) (fa : DFin a) (fb : DFin b) (h1 : -9007199254740992 < i + j) (h2 : i + j < 9007199254740992) (k1 : 53 ≤ K) (k2 : K ≤ 2000) : OB (dadd a b) (i + j) (i + j) K := by
  have R := own_rep h1 h2 k1 k2
  have e : zval b64 (val64 a) + zval b64 (val64 b) = (i + j) * pw K := by rw [A.eq, B.eq, Int.add_mul]
  exact ⟨own_nn_add fa fb, own_sum_ge fa fb R (Int.le_of_eq e.symm), own_sum_le fa fb R (Int.le_of_eq e)⟩
theorem own_mulx {a b : UInt64} {i : Int} {K K1 K2 : Nat} (A : OB a i i K1) (B : OB b 1 1 K2) (fa : DFin a) (fb : DFin b) (hK : K1 + K2 = K + 1074) (h1 : -9007199254740992 < i) (h2 : i < 9007199254740992) (k1 : 53 ≤ K) (k2 : K ≤ 2000) : OB (dmul a b) i i K := by
  have R := own_rep h1 h2 k1 k2
  have e : zval b64 (val64 a) * zval b64 (val64 b) = i * pw K * pw 1074 := by
    rw [A.eq, B.eq, Int.one_mul, Int.mul_assoc, Int.mul_assoc, ← pw_add, ← pw_add, hK]
  exact ⟨own_nn_mul fa fb, own_prod_ge fa fb R (Int.le_of_eq e.symm), own_prod_le fa fb R (Int.le_of_eq e)⟩
theorem own_half : OB 4602678819172646912 1 1 1073 := by unfold OB pw; decide +kernel
theorem own_c31 : OB 4467570830351532032 1 1 1043 := by unfold OB pw; decide +kernel
theorem own_m1 : OB (dneg dconst1) (-4294967296) (-4294967296) 1042 := by unfold OB pw; decide +kernel
theorem own_one : zval b64 (val64 dconst1) = pw 1074 := by unfold pw; decide +kernel
def own_x (h : Int64) : UInt64 := dsub (dmul (dadd (l2d h) 4602678819172646912) 4467570830351532032) dconst1
theorem own_l2d {v : Int64} (h : Small53 v) : OB (l2d v) v.toInt v.toInt 1074 := by
  have W := whole_zval good_b64 (val64_fits (l2d v)) (l2d_whole h)
  rw [own_qm] at W
  exact ⟨(l2d_fin v).ne_nan, Int.le_of_eq W.symm, Int.le_of_eq W⟩
theorem own_ox {h : Int64} (h0 : 0 ≤ h.toInt) (h1 : h.toInt < 4294967296) : (DFin (dadd (l2d h) 4602678819172646912) ∧ DFin (dmul (dadd (l2d h) 4602678819172646912) 4467570830351532032) ∧ DFin (own_x h)) ∧ OB (own_x h) (2 * h.toInt + 1 - 4294967296) (2 * h.toInt + 1 - 4294967296) 1042 := by
  have L := own_l2d (v := h) ⟨by omega, by omega⟩
  have L2 : OB (l2d h) (2 * h.toInt) (2 * h.toInt) 1073 := by
    have e : 2 * h.toInt * pw 1073 = h.toInt * pw 1074 := by rw [show (1074 : Nat) = 1 + 1073 from rfl, pw_add, show pw 1 = 2 from rfl, ← Int.mul_assoc, Int.mul_comm h.toInt 2]
    exact ⟨L.1, by rw [e]; exact L.2.1, by rw [e]; exact L.2.2⟩
  have U := own_addx L2 own_half (l2d_fin h) (own_half.fin (by decide) (by decide) (by decide)) (by omega) (by omega) (by decide) (by decide)
  have f1 := U.fin (by omega) (by omega) (by decide)
  have M := own_mulx U own_c31 f1 (own_c31.fin (by decide) (by decide) (by decide)) (K := 1042) (by decide) (by omega) (by omega) (by decide) (by decide)
  have f2 := M.fin (by omega) (by omega) (by decide)
  have S := own_addx M own_m1 f2 (own_m1.fin (by decide) (by decide) (by decide)) (by omega) (by omega) (by decide) (by decide)
  rw [← dsub_eq] at S
  exact ⟨⟨f1, f2, S.fin (by omega) (by omega) (by decide)⟩, S⟩
theorem own_sq {x : UInt64} {a : Int} (X : OB x a a 1042) (fx : DFin x) (h1 : a * a / 2048 < 9007199254740991) (h0 : 0 ≤ a * a / 2048) : OB (dmul x x) (a * a / 2048) (a * a / 2048 + 1) 1021 := by
  generalize hm : a * a / 2048 = m at *
  have e : zval b64 (val64 x) * zval b64 (val64 x) = a * a * pw 2084 := by
    rw [X.eq, show (2084 : Nat) = 1042 + 1042 from rfl, pw_add]
    generalize pw 1042 = P
    rw [Int.mul_assoc, Int.mul_left_comm P a P, ← Int.mul_assoc]
  have e2 : ∀ n : Int, n * pw 1021 * pw 1074 = (n * 2048) * pw 2084 := fun n => by
    rw [Int.mul_assoc, ← pw_add, show 1021 + 1074 = 11 + 2084 from rfl, pw_add, show pw 11 = 2048 from rfl, ← Int.mul_assoc]
  have P := Int.le_of_lt (pw_pos 2084)
  refine ⟨own_nn_mul fx fx, own_prod_ge fx fx (own_rep (by omega) (by omega) (by decide) (by decide)) ?_, own_prod_le fx fx (own_rep (by omega) (by omega) (by decide) (by decide)) ?_⟩
  · rw [e, e2]; exact Int.mul_le_mul_of_nonneg_right (by omega) P
  · rw [e, e2]; exact Int.mul_le_mul_of_nonneg_right (by omega) P
theorem own_in {s1 s2 : UInt64} {m1 m2 : Int} (A : OB s1 m1 (m1 + 1) 1021) (B : OB s2 m2 (m2 + 1) 1021) (fa : DFin s1) (fb : DFin s2) (h : m1 + m2 + 2 ≤ 9007199254740992) : dcmp (dadd s1 s2) dconst1 = some .lt ∨ dcmp (dadd s1 s2) dconst1 = some .eq := by
  have R : Rep (pw 1074) := ⟨_, val64_fits dconst1, by rw [val64_dconst1]; exact nofun, own_one⟩
  have e : pw 1074 = 9007199254740992 * pw 1021 := by rw [show (1074 : Nat) = 53 + 1021 from rfl, pw_add]; rfl
  have g := own_sum_le fa fb R (by
    have := A.2.2; have := B.2.2
    have g : (m1 + 1) * pw 1021 + (m2 + 1) * pw 1021 ≤ 9007199254740992 * pw 1021 := by rw [← Int.add_mul]; exact Int.mul_le_mul_of_nonneg_right (by omega) (Int.le_of_lt (pw_pos 1021))
    rw [e]; omega)
  rw [dcmp_zval (own_nn_add fa fb) (by rw [val64_dconst1]; exact nofun), own_one, compare_ite]
  by_cases q : zval b64 (val64 (dadd s1 s2)) < pw 1074
  · rw [if_pos q]; exact Or.inl rfl
  · rw [if_neg q, if_pos (by omega)]; exact Or.inr rfl
theorem own_out {s1 s2 : UInt64} {m1 m2 : Int} (A : OB s1 m1 (m1 + 1) 1021) (B : OB s2 m2 (m2 + 1) 1021) (fa : DFin s1) (fb : DFin s2) (h : 9007199254740994 ≤ m1 + m2) : dcmp (dadd s1 s2) dconst1 = some .gt := by
  have R : Rep (4503599627370497 * pw 1022) := own_rep (by decide) (by decide) (by decide) (by decide)
  have e2 : 4503599627370497 * pw 1022 = 9007199254740994 * pw 1021 := by rw [show (1022 : Nat) = 1 + 1021 from rfl, pw_add, ← Int.mul_assoc]; rfl
  have e : pw 1074 = 9007199254740992 * pw 1021 := by rw [show (1074 : Nat) = 53 + 1021 from rfl, pw_add]; rfl
  have g := own_sum_ge fa fb R (by
    have := A.2.1; have := B.2.1
    have g : 9007199254740994 * pw 1021 ≤ m1 * pw 1021 + m2 * pw 1021 := by rw [← Int.add_mul]; exact Int.mul_le_mul_of_nonneg_right (by omega) (Int.le_of_lt (pw_pos 1021))
    rw [e2]; omega)
  have p := pw_pos 1021
  rw [dcmp_zval (own_nn_add fa fb) (by rw [val64_dconst1]; exact nofun), own_one, compare_ite]
  rw [if_neg (by omega), if_neg (by omega)]
theorem own_dms {x : UInt64} {s : Bool} {c : Nat} {q r : Int} {y : UInt64} (hx : val64 x = .fin s c q) (hy : val64 y = .fin false (2 ^ 52) r) (c1 : 2 ^ 52 ≤ c) (c2 : c < 2 ^ 53) (q1 : -1074 ≤ q + r + 52) (q2 : q + r + 52 ≤ 971) : val64 (dmul x y) = .fin s c (q + r + 52) := by
  rw [val64_dmul, hx, hy]
  show roundRatio b64 (s != false) (c * 2 ^ 52) 1 (q + r) = _
  rw [show (s != false) = s by cases s <;> rfl]
  refine roundRatio_exact good_b64 (by decide) ⟨c2, ?_, ?_, Or.inr c1⟩ ?_
  · exact q1
  · exact q2
  · have z1 : (q + r - (q + r + 52)).toNat = 0 := by omega
    have z2 : (q + r + 52 - (q + r)).toNat = 52 := by omega
    rw [z1, z2, Nat.pow_zero, Nat.mul_one, Nat.mul_one]
theorem own_c32v : val64 4463067230724161536 = .fin false (2 ^ 52) (-84) := by decide +kernel
theorem own_c32 : OB 4463067230724161536 1 1 1042 := by unfold OB pw; decide +kernel
/-- a double worth v * 2^-32 is l2d v, her exponent less 32 -/
theorem own_scaled {x : UInt64} {v : Int64} (h : Small53 v) (h0 : v.toInt ≠ 0) (X : OB x v.toInt v.toInt 1042) : ∃ c q, val64 (l2d v) = .fin (decide (v.toInt < 0)) c q ∧ val64 x = .fin (decide (v.toInt < 0)) c (q - 32) ∧ c ≠ 0 := by
  obtain ⟨c, q, hv, c1, c2, q1, q2, -⟩ := own_shape h0 h
  have D := own_dms hv own_c32v c1 c2 (by omega) (by omega)
  have M := own_mulx (own_l2d h) own_c32 (l2d_fin v) (own_c32.fin (by decide) (by decide) (by decide)) (K := 1042) (by decide) h.1 h.2 (by decide) (by decide)
  have e : dcmp x (dmul (l2d v) 4463067230724161536) = some .eq := by
    rw [dcmp_zval X.1 M.1, X.eq, M.eq, compare_ite, if_neg (Int.lt_irrefl _), if_pos rfl]
  have b := eq_bits (fun ⟨s, q', hz⟩ => by
    rw [D] at hz; injection hz with _ hc _; omega) e
  refine ⟨c, q, hv, ?_, by omega⟩
  rw [b, D]
  congr 1
  omega
theorem own_quot {x y : UInt64} {v w : Int64} (hv : Small53 v) (hv0 : v.toInt ≠ 0) (X : OB x v.toInt v.toInt 1042) (hw : Small53 w) (hw0 : w.toInt ≠ 0) (Y : OB y w.toInt w.toInt 1042) : ddiv x y = ddiv (l2d v) (l2d w) := by
  obtain ⟨c, q, a1, a2, a3⟩ := own_scaled hv hv0 X
  obtain ⟨d, r, b1, b2, b3⟩ := own_scaled hw hw0 Y
  have e : val64 (ddiv x y) = roundRatio b64 (decide (v.toInt < 0) != decide (w.toInt < 0)) c d (q - r) := by
    rw [val64_ddiv, a2, b2]
    simp only [quotient, if_neg b3]
    rw [show q - 32 - (r - 32) = q - r by omega]
  refine val64_inj (by rw [e]; exact roundRatio_ne_nan _ _ _ _ _) ?_
  rw [e, val64_ddiv, a1, b1]
  simp only [quotient, if_neg b3]
end OwnCa
theorem d2_0 : decode method_2_code 0 = .ok (.ldc2_w 7, 3) := by decide +kernel
theorem d2_3 : decode method_2_code 3 = .ok (.lload_n 0, 1) := by decide +kernel
theorem d2_4 : decode method_2_code 4 = .ok (.lmul, 1) := by decide +kernel
theorem d2_5 : decode method_2_code 5 = .ok (.lconst 1, 1) := by decide +kernel
theorem d2_6 : decode method_2_code 6 = .ok (.ladd, 1) := by decide +kernel
theorem d2_7 : decode method_2_code 7 = .ok (.ldc2_w 9, 3) := by decide +kernel
theorem d2_10 : decode method_2_code 10 = .ok (.lsub, 1) := by decide +kernel
theorem d2_11 : decode method_2_code 11 = .ok (.lreturn, 1) := by decide +kernel
def F_rm2 (q1 : Int64) : Int64 := ((((2 : Int64) * q1) + (1 : Int64)) - (4294967296 : Int64))
def Q_rm2 (Z : State) (q1 : Int64) (h0 : Heap) (n0 : Nat) (v : Option Value) (h : Heap) (L : List Loc) : Prop := v = some (.long (F_rm2 q1)) ∧ Fr n0 L ∧ h = h0
theorem ef_rm2 (m : MethodId) (x0 : Int64) : entryFrame m #[(.long x0)] 2 = mkF m 0 #[.val (.long x0), .second] [] := by first | (simp [entryFrame, mkF, argsToLocals, Value.category]; done) | rfl
theorem pn_0 : plainName "com/example/outlyr/outlyr/detect/WindowSketchCauchyPinLaw" = true := by first | (simp [plainName, overriddenIn]; done) | decide +kernel
set_option maxRecDepth 65536 in
set_option maxHeartbeats 40000000 in
theorem rm2 (l : Launch) (Z : State) (a0 : Array Value) (hw : ∀ d ∈ tables_1, d.before a0 Z = true) (ws : List Jvm.Cond) (q1 : Int64) (h0 : Heap) (n0 : Nat) (Z0 : n0 ≤ h0.size)  :
    MetFree l (⟨"com/example/outlyr/outlyr/detect/WindowSketchCauchyPinLaw", "num", "(J)J"⟩ : MethodName) (head1 (Jvm.Cond.code (⟨"com/example/outlyr/outlyr/detect/WindowSketchCauchyPinLaw", "num", "(J)J"⟩ : MethodName) method_2_code 2 (some .long) :: ws) ({ frames := 0, cells := 0, slots := 0, locals := 0 } : Room)) (fun a U => a = #[(.long q1)] ∧ Z.Warmed39 U.vm ∧ U.heap = h0) (fun _ _ _ _ _ => True) (fun _ U o U' => ∃ v L, o = .returned v ∧ Q_rm2 Z q1 h0 n0 v U'.heap L ∧ FrameEnd U o U' L ({ frames := 0, cells := 0, slots := 0, locals := 0 } : Room).cells ({ frames := 0, cells := 0, slots := 0, locals := 0 } : Room).slots) := by
  refine MetFree.of_bodySF (plainFor_of_name pn_0) hisR ?_
  intro p e s m args below meth c s₁ Bd hml0 hP hK
  obtain ⟨rfl, hZ, hh⟩ := hP
  have hx := Bd.exec
  have hby := Bd.bytes
  have hml : c.maxLocals = 2 := hml0
  have hown : s.vm.findClass "com/example/outlyr/outlyr/detect/WindowSketchCauchyPinLaw" = some m.cls := findClass_of_methodNamed Bd.named
  have hnm := (name_of_methodNamed Bd.named Bd.method).1
  have X0 : Stand p l e ({ frames := 0, cells := 0, slots := 0, locals := 0 } : Room) s m #[(.long q1)] below meth c s₁ [] 0 0 := Stand.of_body Bd
  have e0 : s₁.heap = h0 := by rw [← hh, Bd.state]; rfl
  have N0 := Fr.nil n0
  show Run p e below s 0 0 (Q_rm2 Z q1 h0 n0) (s₁.setTop (entryFrame m #[(.long q1)] 2))
  refine Run.go (fun _ k => castTop (ef_rm2 m q1) k) ?_
  show Run p e below s 0 0 (Q_rm2 Z q1 h0 n0) (s₁.setTop (mkF m 0 #[.val (.long q1), .second] []))
  refine Run.go (fun _ k => X0.ldc2Long hx hown (mvT hZ (hw _ (List.mem_of_getElem? (i := 7) rfl))) (g := (mkF m 0 #[.val (.long q1), .second] [])) rfl (hb hby d2_0) _ k) ?_
  show Run p e below s 0 0 (Q_rm2 Z q1 h0 n0) (s₁.setTop (mkF m 3 #[.val (.long q1), .second] [(.long (2 : Int64))]))
  refine Run.go (fun _ k => XS.lloadN X0.here hx rfl (hb hby d2_3) rfl  k) ?_
  show Run p e below s 0 0 (Q_rm2 Z q1 h0 n0) (s₁.setTop (mkF m 4 #[.val (.long q1), .second] [(.long q1), (.long (2 : Int64))]))
  refine Run.go (fun _ k => XS.lmul X0.here hx rfl (hb hby d2_4) rfl k) ?_
  show Run p e below s 0 0 (Q_rm2 Z q1 h0 n0) (s₁.setTop (mkF m 5 #[.val (.long q1), .second] [(.long ((2 : Int64) * q1))]))
  refine Run.go (fun _ k => XS.lconst X0.here hx rfl (hb hby d2_5) k) ?_
  show Run p e below s 0 0 (Q_rm2 Z q1 h0 n0) (s₁.setTop (mkF m 6 #[.val (.long q1), .second] [(.long (1 : Int64)), (.long ((2 : Int64) * q1))]))
  refine Run.go (fun _ k => XS.ladd X0.here hx rfl (hb hby d2_6) rfl k) ?_
  show Run p e below s 0 0 (Q_rm2 Z q1 h0 n0) (s₁.setTop (mkF m 7 #[.val (.long q1), .second] [(.long (((2 : Int64) * q1) + (1 : Int64)))]))
  refine Run.go (fun _ k => X0.ldc2Long hx hown (mvT hZ (hw _ (List.mem_of_getElem? (i := 8) rfl))) (g := (mkF m 7 #[.val (.long q1), .second] [(.long (((2 : Int64) * q1) + (1 : Int64)))])) rfl (hb hby d2_7) _ k) ?_
  show Run p e below s 0 0 (Q_rm2 Z q1 h0 n0) (s₁.setTop (mkF m 10 #[.val (.long q1), .second] [(.long (4294967296 : Int64)), (.long (((2 : Int64) * q1) + (1 : Int64)))]))
  refine Run.go (fun _ k => XS.lsub X0.here hx rfl (hb hby d2_10) rfl k) ?_
  show Run p e below s 0 0 (Q_rm2 Z q1 h0 n0) (s₁.setTop (mkF m 11 #[.val (.long q1), .second] [(.long ((((2 : Int64) * q1) + (1 : Int64)) - (4294967296 : Int64)))]))
  refine Run.retJ X0 hx Bd.returns Bd.notSynchronized (hb hby d2_11) (by decide) (by decide) ?_
  show Q_rm2 Z q1 h0 n0 _ s₁.heap _
  exact ⟨congrArg some (congrArg Value.long (show ((((2 : Int64) * q1) + (1 : Int64)) - (4294967296 : Int64)) = (F_rm2 q1) from (by unfold F_rm2; rfl))), N0, e0⟩
theorem d3_0 : decode prog_11_method_4_code 0 = .ok (.lload_n 0, 1) := by decide +kernel
theorem d3_1 : decode prog_11_method_4_code 1 = .ok (.lstore_n 2, 1) := by decide +kernel
theorem d3_2 : decode prog_11_method_4_code 2 = .ok (.lload_n 2, 1) := by decide +kernel
theorem d3_3 : decode prog_11_method_4_code 3 = .ok (.lload_n 2, 1) := by decide +kernel
theorem d3_4 : decode prog_11_method_4_code 4 = .ok (.bipush 30, 2) := by decide +kernel
theorem d3_6 : decode prog_11_method_4_code 6 = .ok (.lushr, 1) := by decide +kernel
theorem d3_7 : decode prog_11_method_4_code 7 = .ok (.lxor, 1) := by decide +kernel
theorem d3_8 : decode prog_11_method_4_code 8 = .ok (.ldc2_w 36, 3) := by decide +kernel
theorem d3_11 : decode prog_11_method_4_code 11 = .ok (.lmul, 1) := by decide +kernel
theorem d3_12 : decode prog_11_method_4_code 12 = .ok (.lstore_n 2, 1) := by decide +kernel
theorem d3_13 : decode prog_11_method_4_code 13 = .ok (.lload_n 2, 1) := by decide +kernel
theorem d3_14 : decode prog_11_method_4_code 14 = .ok (.lload_n 2, 1) := by decide +kernel
theorem d3_15 : decode prog_11_method_4_code 15 = .ok (.bipush 27, 2) := by decide +kernel
theorem d3_17 : decode prog_11_method_4_code 17 = .ok (.lushr, 1) := by decide +kernel
theorem d3_18 : decode prog_11_method_4_code 18 = .ok (.lxor, 1) := by decide +kernel
theorem d3_19 : decode prog_11_method_4_code 19 = .ok (.ldc2_w 38, 3) := by decide +kernel
theorem d3_22 : decode prog_11_method_4_code 22 = .ok (.lmul, 1) := by decide +kernel
theorem d3_23 : decode prog_11_method_4_code 23 = .ok (.lstore_n 2, 1) := by decide +kernel
theorem d3_24 : decode prog_11_method_4_code 24 = .ok (.lload_n 2, 1) := by decide +kernel
theorem d3_25 : decode prog_11_method_4_code 25 = .ok (.lload_n 2, 1) := by decide +kernel
theorem d3_26 : decode prog_11_method_4_code 26 = .ok (.bipush 31, 2) := by decide +kernel
theorem d3_28 : decode prog_11_method_4_code 28 = .ok (.lushr, 1) := by decide +kernel
theorem d3_29 : decode prog_11_method_4_code 29 = .ok (.lxor, 1) := by decide +kernel
theorem d3_30 : decode prog_11_method_4_code 30 = .ok (.lreturn, 1) := by decide +kernel
def F_rm3 (q1 : Int64) : Int64 := let z2 : Int64 := ((q1 ^^^ ((q1.toUInt64 >>> ((30 : Int32) &&& 0x3f).toInt64.toUInt64).toInt64)) * (-4658895280553007687 : Int64)); let z3 : Int64 := ((z2 ^^^ ((z2.toUInt64 >>> ((27 : Int32) &&& 0x3f).toInt64.toUInt64).toInt64)) * (-7723592293110705685 : Int64)); (z3 ^^^ ((z3.toUInt64 >>> ((31 : Int32) &&& 0x3f).toInt64.toUInt64).toInt64))
def Q_rm3 (Z : State) (q1 : Int64) (h0 : Heap) (n0 : Nat) (v : Option Value) (h : Heap) (L : List Loc) : Prop := v = some (.long (F_rm3 q1)) ∧ Fr n0 L ∧ h = h0
theorem ef_rm3 (m : MethodId) (x0 : Int64) : entryFrame m #[(.long x0)] 4 = mkF m 0 #[.val (.long x0), .second, .unset, .unset] [] := by first | (simp [entryFrame, mkF, argsToLocals, Value.category]; done) | rfl
theorem pn_1 : plainName "com/example/outlyr/outlyr/detect/SplitMix" = true := by first | (simp [plainName, overriddenIn]; done) | decide +kernel
set_option maxRecDepth 65536 in
set_option maxHeartbeats 40000000 in
theorem rm3 (l : Launch) (Z : State) (a0 : Array Value) (hw : ∀ d ∈ tables_1, d.before a0 Z = true) (ws : List Jvm.Cond) (q1 : Int64) (h0 : Heap) (n0 : Nat) (Z0 : n0 ≤ h0.size)  :
    MetFree l (⟨"com/example/outlyr/outlyr/detect/SplitMix", "mix", "(J)J"⟩ : MethodName) (head1 (Jvm.Cond.code (⟨"com/example/outlyr/outlyr/detect/SplitMix", "mix", "(J)J"⟩ : MethodName) prog_11_method_4_code 4 (some .long) :: ws) ({ frames := 0, cells := 0, slots := 0, locals := 0 } : Room)) (fun a U => a = #[(.long q1)] ∧ Z.Warmed39 U.vm ∧ U.heap = h0) (fun _ _ _ _ _ => True) (fun _ U o U' => ∃ v L, o = .returned v ∧ Q_rm3 Z q1 h0 n0 v U'.heap L ∧ FrameEnd U o U' L ({ frames := 0, cells := 0, slots := 0, locals := 0 } : Room).cells ({ frames := 0, cells := 0, slots := 0, locals := 0 } : Room).slots) := by
  refine MetFree.of_bodySF (plainFor_of_name pn_1) hisR ?_
  intro p e s m args below meth c s₁ Bd hml0 hP hK
  obtain ⟨rfl, hZ, hh⟩ := hP
  have hx := Bd.exec
  have hby := Bd.bytes
  have hml : c.maxLocals = 4 := hml0
  have hown : s.vm.findClass "com/example/outlyr/outlyr/detect/SplitMix" = some m.cls := findClass_of_methodNamed Bd.named
  have hnm := (name_of_methodNamed Bd.named Bd.method).1
  have X0 : Stand p l e ({ frames := 0, cells := 0, slots := 0, locals := 0 } : Room) s m #[(.long q1)] below meth c s₁ [] 0 0 := Stand.of_body Bd
  have e0 : s₁.heap = h0 := by rw [← hh, Bd.state]; rfl
  have N0 := Fr.nil n0
  show Run p e below s 0 0 (Q_rm3 Z q1 h0 n0) (s₁.setTop (entryFrame m #[(.long q1)] 4))
  refine Run.go (fun _ k => castTop (ef_rm3 m q1) k) ?_
  show Run p e below s 0 0 (Q_rm3 Z q1 h0 n0) (s₁.setTop (mkF m 0 #[.val (.long q1), .second, .unset, .unset] []))
  refine Run.go (fun _ k => XS.lloadN X0.here hx rfl (hb hby d3_0) rfl  k) ?_
  show Run p e below s 0 0 (Q_rm3 Z q1 h0 n0) (s₁.setTop (mkF m 1 #[.val (.long q1), .second, .unset, .unset] [(.long q1)]))
  refine Run.go (fun _ k => XS.lstoreN X0.here hx rfl (hb hby d3_1) rfl (l' := #[.val (.long q1), .second, .val (.long q1), .second]) rfl k) ?_
  show Run p e below s 0 0 (Q_rm3 Z q1 h0 n0) (s₁.setTop (mkF m 2 #[.val (.long q1), .second, .val (.long q1), .second] []))
  refine Run.go (fun _ k => XS.lloadN X0.here hx rfl (hb hby d3_2) rfl  k) ?_
  show Run p e below s 0 0 (Q_rm3 Z q1 h0 n0) (s₁.setTop (mkF m 3 #[.val (.long q1), .second, .val (.long q1), .second] [(.long q1)]))
  refine Run.go (fun _ k => XS.lloadN X0.here hx rfl (hb hby d3_3) rfl  k) ?_
  show Run p e below s 0 0 (Q_rm3 Z q1 h0 n0) (s₁.setTop (mkF m 4 #[.val (.long q1), .second, .val (.long q1), .second] [(.long q1), (.long q1)]))
  refine Run.go (fun _ k => XS.bipush X0.here hx rfl (hb hby d3_4) k) ?_
  show Run p e below s 0 0 (Q_rm3 Z q1 h0 n0) (s₁.setTop (mkF m 6 #[.val (.long q1), .second, .val (.long q1), .second] [(.int (30 : Int32)), (.long q1), (.long q1)]))
  refine Run.go (fun _ k => XS.lushr X0.here hx rfl (hb hby d3_6) rfl k) ?_
  show Run p e below s 0 0 (Q_rm3 Z q1 h0 n0) (s₁.setTop (mkF m 7 #[.val (.long q1), .second, .val (.long q1), .second] [(.long ((q1.toUInt64 >>> ((30 : Int32) &&& 0x3f).toInt64.toUInt64).toInt64)), (.long q1)]))
  refine Run.go (fun _ k => XS.lxor X0.here hx rfl (hb hby d3_7) rfl k) ?_
  show Run p e below s 0 0 (Q_rm3 Z q1 h0 n0) (s₁.setTop (mkF m 8 #[.val (.long q1), .second, .val (.long q1), .second] [(.long (q1 ^^^ ((q1.toUInt64 >>> ((30 : Int32) &&& 0x3f).toInt64.toUInt64).toInt64)))]))
  refine Run.go (fun _ k => X0.ldc2Long hx hown (mvT hZ (hw _ (List.mem_of_getElem? (i := 17) rfl))) (g := (mkF m 8 #[.val (.long q1), .second, .val (.long q1), .second] [(.long (q1 ^^^ ((q1.toUInt64 >>> ((30 : Int32) &&& 0x3f).toInt64.toUInt64).toInt64)))])) rfl (hb hby d3_8) _ k) ?_
  show Run p e below s 0 0 (Q_rm3 Z q1 h0 n0) (s₁.setTop (mkF m 11 #[.val (.long q1), .second, .val (.long q1), .second] [(.long (-4658895280553007687 : Int64)), (.long (q1 ^^^ ((q1.toUInt64 >>> ((30 : Int32) &&& 0x3f).toInt64.toUInt64).toInt64)))]))
  refine Run.go (fun _ k => XS.lmul X0.here hx rfl (hb hby d3_11) rfl k) ?_
  show Run p e below s 0 0 (Q_rm3 Z q1 h0 n0) (s₁.setTop (mkF m 12 #[.val (.long q1), .second, .val (.long q1), .second] [(.long ((q1 ^^^ ((q1.toUInt64 >>> ((30 : Int32) &&& 0x3f).toInt64.toUInt64).toInt64)) * (-4658895280553007687 : Int64)))]))
  refine Run.go (fun _ k => XS.lstoreN X0.here hx rfl (hb hby d3_12) rfl (l' := #[.val (.long q1), .second, .val (.long ((q1 ^^^ ((q1.toUInt64 >>> ((30 : Int32) &&& 0x3f).toInt64.toUInt64).toInt64)) * (-4658895280553007687 : Int64))), .second]) rfl k) ?_
  show Run p e below s 0 0 (Q_rm3 Z q1 h0 n0) (s₁.setTop (mkF m 13 #[.val (.long q1), .second, .val (.long ((q1 ^^^ ((q1.toUInt64 >>> ((30 : Int32) &&& 0x3f).toInt64.toUInt64).toInt64)) * (-4658895280553007687 : Int64))), .second] []))
  obtain ⟨z2, hz2⟩ : ∃ z, z = ((q1 ^^^ ((q1.toUInt64 >>> ((30 : Int32) &&& 0x3f).toInt64.toUInt64).toInt64)) * (-4658895280553007687 : Int64)) := ⟨_, rfl⟩
  rw [← hz2]
  show Run p e below s 0 0 (Q_rm3 Z q1 h0 n0) (s₁.setTop (mkF m 13 #[.val (.long q1), .second, .val (.long z2), .second] []))
  refine Run.go (fun _ k => XS.lloadN X0.here hx rfl (hb hby d3_13) rfl  k) ?_
  show Run p e below s 0 0 (Q_rm3 Z q1 h0 n0) (s₁.setTop (mkF m 14 #[.val (.long q1), .second, .val (.long z2), .second] [(.long z2)]))
  refine Run.go (fun _ k => XS.lloadN X0.here hx rfl (hb hby d3_14) rfl  k) ?_
  show Run p e below s 0 0 (Q_rm3 Z q1 h0 n0) (s₁.setTop (mkF m 15 #[.val (.long q1), .second, .val (.long z2), .second] [(.long z2), (.long z2)]))
  refine Run.go (fun _ k => XS.bipush X0.here hx rfl (hb hby d3_15) k) ?_
  show Run p e below s 0 0 (Q_rm3 Z q1 h0 n0) (s₁.setTop (mkF m 17 #[.val (.long q1), .second, .val (.long z2), .second] [(.int (27 : Int32)), (.long z2), (.long z2)]))
  refine Run.go (fun _ k => XS.lushr X0.here hx rfl (hb hby d3_17) rfl k) ?_
  show Run p e below s 0 0 (Q_rm3 Z q1 h0 n0) (s₁.setTop (mkF m 18 #[.val (.long q1), .second, .val (.long z2), .second] [(.long ((z2.toUInt64 >>> ((27 : Int32) &&& 0x3f).toInt64.toUInt64).toInt64)), (.long z2)]))
  refine Run.go (fun _ k => XS.lxor X0.here hx rfl (hb hby d3_18) rfl k) ?_
  show Run p e below s 0 0 (Q_rm3 Z q1 h0 n0) (s₁.setTop (mkF m 19 #[.val (.long q1), .second, .val (.long z2), .second] [(.long (z2 ^^^ ((z2.toUInt64 >>> ((27 : Int32) &&& 0x3f).toInt64.toUInt64).toInt64)))]))
  refine Run.go (fun _ k => X0.ldc2Long hx hown (mvT hZ (hw _ (List.mem_of_getElem? (i := 18) rfl))) (g := (mkF m 19 #[.val (.long q1), .second, .val (.long z2), .second] [(.long (z2 ^^^ ((z2.toUInt64 >>> ((27 : Int32) &&& 0x3f).toInt64.toUInt64).toInt64)))])) rfl (hb hby d3_19) _ k) ?_
  show Run p e below s 0 0 (Q_rm3 Z q1 h0 n0) (s₁.setTop (mkF m 22 #[.val (.long q1), .second, .val (.long z2), .second] [(.long (-7723592293110705685 : Int64)), (.long (z2 ^^^ ((z2.toUInt64 >>> ((27 : Int32) &&& 0x3f).toInt64.toUInt64).toInt64)))]))
  refine Run.go (fun _ k => XS.lmul X0.here hx rfl (hb hby d3_22) rfl k) ?_
  show Run p e below s 0 0 (Q_rm3 Z q1 h0 n0) (s₁.setTop (mkF m 23 #[.val (.long q1), .second, .val (.long z2), .second] [(.long ((z2 ^^^ ((z2.toUInt64 >>> ((27 : Int32) &&& 0x3f).toInt64.toUInt64).toInt64)) * (-7723592293110705685 : Int64)))]))
  refine Run.go (fun _ k => XS.lstoreN X0.here hx rfl (hb hby d3_23) rfl (l' := #[.val (.long q1), .second, .val (.long ((z2 ^^^ ((z2.toUInt64 >>> ((27 : Int32) &&& 0x3f).toInt64.toUInt64).toInt64)) * (-7723592293110705685 : Int64))), .second]) rfl k) ?_
  show Run p e below s 0 0 (Q_rm3 Z q1 h0 n0) (s₁.setTop (mkF m 24 #[.val (.long q1), .second, .val (.long ((z2 ^^^ ((z2.toUInt64 >>> ((27 : Int32) &&& 0x3f).toInt64.toUInt64).toInt64)) * (-7723592293110705685 : Int64))), .second] []))
  obtain ⟨z3, hz3⟩ : ∃ z, z = ((z2 ^^^ ((z2.toUInt64 >>> ((27 : Int32) &&& 0x3f).toInt64.toUInt64).toInt64)) * (-7723592293110705685 : Int64)) := ⟨_, rfl⟩
  rw [← hz3]
  show Run p e below s 0 0 (Q_rm3 Z q1 h0 n0) (s₁.setTop (mkF m 24 #[.val (.long q1), .second, .val (.long z3), .second] []))
  refine Run.go (fun _ k => XS.lloadN X0.here hx rfl (hb hby d3_24) rfl  k) ?_
  show Run p e below s 0 0 (Q_rm3 Z q1 h0 n0) (s₁.setTop (mkF m 25 #[.val (.long q1), .second, .val (.long z3), .second] [(.long z3)]))
  refine Run.go (fun _ k => XS.lloadN X0.here hx rfl (hb hby d3_25) rfl  k) ?_
  show Run p e below s 0 0 (Q_rm3 Z q1 h0 n0) (s₁.setTop (mkF m 26 #[.val (.long q1), .second, .val (.long z3), .second] [(.long z3), (.long z3)]))
  refine Run.go (fun _ k => XS.bipush X0.here hx rfl (hb hby d3_26) k) ?_
  show Run p e below s 0 0 (Q_rm3 Z q1 h0 n0) (s₁.setTop (mkF m 28 #[.val (.long q1), .second, .val (.long z3), .second] [(.int (31 : Int32)), (.long z3), (.long z3)]))
  refine Run.go (fun _ k => XS.lushr X0.here hx rfl (hb hby d3_28) rfl k) ?_
  show Run p e below s 0 0 (Q_rm3 Z q1 h0 n0) (s₁.setTop (mkF m 29 #[.val (.long q1), .second, .val (.long z3), .second] [(.long ((z3.toUInt64 >>> ((31 : Int32) &&& 0x3f).toInt64.toUInt64).toInt64)), (.long z3)]))
  refine Run.go (fun _ k => XS.lxor X0.here hx rfl (hb hby d3_29) rfl k) ?_
  show Run p e below s 0 0 (Q_rm3 Z q1 h0 n0) (s₁.setTop (mkF m 30 #[.val (.long q1), .second, .val (.long z3), .second] [(.long (z3 ^^^ ((z3.toUInt64 >>> ((31 : Int32) &&& 0x3f).toInt64.toUInt64).toInt64)))]))
  refine Run.retJ X0 hx Bd.returns Bd.notSynchronized (hb hby d3_30) (by decide) (by decide) ?_
  show Q_rm3 Z q1 h0 n0 _ s₁.heap _
  exact ⟨congrArg some (congrArg Value.long (show (z3 ^^^ ((z3.toUInt64 >>> ((31 : Int32) &&& 0x3f).toInt64.toUInt64).toInt64)) = (F_rm3 q1) from (by subst hz3; subst hz2; unfold F_rm3; rfl))), N0, e0⟩
theorem d1_0 : decode method_3_code 0 = .ok (.lload_n 0, 1) := by decide +kernel
theorem d1_1 : decode method_3_code 1 = .ok (.bipush 32, 2) := by decide +kernel
theorem d1_3 : decode method_3_code 3 = .ok (.lushr, 1) := by decide +kernel
theorem d1_4 : decode method_3_code 4 = .ok (.invokestatic 11, 3) := by decide +kernel
theorem pd_0 : parseMethodDescriptor "(J)J" = some ⟨[.long], some .long⟩ := by decide +kernel
theorem d1_7 : decode method_3_code 7 = .ok (.lstore_n 2, 1) := by decide +kernel
theorem d1_8 : decode method_3_code 8 = .ok (.lload_n 0, 1) := by decide +kernel
theorem d1_9 : decode method_3_code 9 = .ok (.ldc2_w 17, 3) := by decide +kernel
theorem d1_12 : decode method_3_code 12 = .ok (.land, 1) := by decide +kernel
theorem d1_13 : decode method_3_code 13 = .ok (.invokestatic 11, 3) := by decide +kernel
theorem d1_16 : decode method_3_code 16 = .ok (.lstore 4, 2) := by decide +kernel
theorem d1_18 : decode method_3_code 18 = .ok (.lload_n 2, 1) := by decide +kernel
theorem d1_19 : decode method_3_code 19 = .ok (.lload_n 2, 1) := by decide +kernel
theorem d1_20 : decode method_3_code 20 = .ok (.lmul, 1) := by decide +kernel
theorem d1_21 : decode method_3_code 21 = .ok (.iconst 2, 1) := by decide +kernel
theorem d1_22 : decode method_3_code 22 = .ok (.lushr, 1) := by decide +kernel
theorem d1_23 : decode method_3_code 23 = .ok (.lload 4, 2) := by decide +kernel
theorem d1_25 : decode method_3_code 25 = .ok (.lload 4, 2) := by decide +kernel
theorem d1_27 : decode method_3_code 27 = .ok (.lmul, 1) := by decide +kernel
theorem d1_28 : decode method_3_code 28 = .ok (.iconst 2, 1) := by decide +kernel
theorem d1_29 : decode method_3_code 29 = .ok (.lushr, 1) := by decide +kernel
theorem d1_30 : decode method_3_code 30 = .ok (.ladd, 1) := by decide +kernel
theorem d1_31 : decode method_3_code 31 = .ok (.lstore 6, 2) := by decide +kernel
theorem d1_33 : decode method_3_code 33 = .ok (.lload 6, 2) := by decide +kernel
theorem d1_35 : decode method_3_code 35 = .ok (.ldc2_w 19, 3) := by decide +kernel
theorem d1_38 : decode method_3_code 38 = .ok (.lcmp, 1) := by decide +kernel
theorem d1_39 : decode method_3_code 39 = .ok (.ifCond .gt 5, 3) := by decide +kernel
theorem d1_44 : decode method_3_code 44 = .ok (.lload 6, 2) := by decide +kernel
theorem d1_46 : decode method_3_code 46 = .ok (.ldc2_w 21, 3) := by decide +kernel
theorem d1_49 : decode method_3_code 49 = .ok (.lcmp, 1) := by decide +kernel
theorem d1_50 : decode method_3_code 50 = .ok (.ifCond .lt 5, 3) := by decide +kernel
theorem d1_55 : decode method_3_code 55 = .ok (.iconst 0, 1) := by decide +kernel
theorem d1_56 : decode method_3_code 56 = .ok (.ireturn, 1) := by decide +kernel
theorem d1_53 : decode method_3_code 53 = .ok (.iconst (-1), 1) := by decide +kernel
theorem d1_54 : decode method_3_code 54 = .ok (.ireturn, 1) := by decide +kernel
theorem d1_42 : decode method_3_code 42 = .ok (.iconst 1, 1) := by decide +kernel
theorem d1_43 : decode method_3_code 43 = .ok (.ireturn, 1) := by decide +kernel
def F_rm1 (q1 : Int64) : Int32 := (if ((4611686018426863616 : Int64) < (((((F_rm2 ((q1.toUInt64 >>> ((32 : Int32) &&& 0x3f).toInt64.toUInt64).toInt64)) * (F_rm2 ((q1.toUInt64 >>> ((32 : Int32) &&& 0x3f).toInt64.toUInt64).toInt64))).toUInt64 >>> ((2 : Int32) &&& 0x3f).toInt64.toUInt64).toInt64) + ((((F_rm2 (q1 &&& (4294967295 : Int64))) * (F_rm2 (q1 &&& (4294967295 : Int64)))).toUInt64 >>> ((2 : Int32) &&& 0x3f).toInt64.toUInt64).toInt64))) then (if ((((((F_rm2 ((q1.toUInt64 >>> ((32 : Int32) &&& 0x3f).toInt64.toUInt64).toInt64)) * (F_rm2 ((q1.toUInt64 >>> ((32 : Int32) &&& 0x3f).toInt64.toUInt64).toInt64))).toUInt64 >>> ((2 : Int32) &&& 0x3f).toInt64.toUInt64).toInt64) + ((((F_rm2 (q1 &&& (4294967295 : Int64))) * (F_rm2 (q1 &&& (4294967295 : Int64)))).toUInt64 >>> ((2 : Int32) &&& 0x3f).toInt64.toUInt64).toInt64)) < (4611686018427912192 : Int64)) then (0 : Int32) else (-1 : Int32)) else (1 : Int32))
def Q_rm1 (Z : State) (q1 : Int64) (h0 : Heap) (n0 : Nat) (v : Option Value) (h : Heap) (L : List Loc) : Prop := v = some (.int (F_rm1 q1)) ∧ Fr n0 L ∧ h = h0
theorem ef_rm1 (m : MethodId) (x0 : Int64) : entryFrame m #[(.long x0)] 8 = mkF m 0 #[.val (.long x0), .second, .unset, .unset, .unset, .unset, .unset, .unset] [] := by first | (simp [entryFrame, mkF, argsToLocals, Value.category]; done) | rfl
set_option maxRecDepth 65536 in
set_option maxHeartbeats 40000000 in
theorem rm1 (l : Launch) (Z : State) (a0 : Array Value) (hw : ∀ d ∈ tables_1, d.before a0 Z = true) (ws : List Jvm.Cond) (q1 : Int64) (h0 : Heap) (n0 : Nat) (Z0 : n0 ≤ h0.size)  :
    MetFree l (⟨"com/example/outlyr/outlyr/detect/WindowSketchCauchyPinLaw", "where", "(J)I"⟩ : MethodName) (head1 (Jvm.Cond.code (⟨"com/example/outlyr/outlyr/detect/WindowSketchCauchyPinLaw", "where", "(J)I"⟩ : MethodName) method_3_code 8 (some .int) :: ws) ({ frames := 1, cells := 0, slots := 0, locals := 13 } : Room)) (fun a U => a = #[(.long q1)] ∧ Z.Warmed39 U.vm ∧ U.heap = h0) (fun _ _ _ _ _ => True) (fun _ U o U' => ∃ v L, o = .returned v ∧ Q_rm1 Z q1 h0 n0 v U'.heap L ∧ FrameEnd U o U' L ({ frames := 1, cells := 0, slots := 0, locals := 13 } : Room).cells ({ frames := 1, cells := 0, slots := 0, locals := 13 } : Room).slots) := by
  refine MetFree.of_bodySF (plainFor_of_name pn_0) hisR ?_
  intro p e s m args below meth c s₁ Bd hml0 hP hK
  obtain ⟨rfl, hZ, hh⟩ := hP
  have hx := Bd.exec
  have hby := Bd.bytes
  have hml : c.maxLocals = 8 := hml0
  have hown : s.vm.findClass "com/example/outlyr/outlyr/detect/WindowSketchCauchyPinLaw" = some m.cls := findClass_of_methodNamed Bd.named
  have hnm := (name_of_methodNamed Bd.named Bd.method).1
  have X0 : Stand p l e ({ frames := 1, cells := 0, slots := 0, locals := 13 } : Room) s m #[(.long q1)] below meth c s₁ [] 0 0 := Stand.of_body Bd
  have e0 : s₁.heap = h0 := by rw [← hh, Bd.state]; rfl
  have N0 := Fr.nil n0
  show Run p e below s 0 0 (Q_rm1 Z q1 h0 n0) (s₁.setTop (entryFrame m #[(.long q1)] 8))
  refine Run.go (fun _ k => castTop (ef_rm1 m q1) k) ?_
  show Run p e below s 0 0 (Q_rm1 Z q1 h0 n0) (s₁.setTop (mkF m 0 #[.val (.long q1), .second, .unset, .unset, .unset, .unset, .unset, .unset] []))
  refine Run.go (fun _ k => XS.lloadN X0.here hx rfl (hb hby d1_0) rfl  k) ?_
  show Run p e below s 0 0 (Q_rm1 Z q1 h0 n0) (s₁.setTop (mkF m 1 #[.val (.long q1), .second, .unset, .unset, .unset, .unset, .unset, .unset] [(.long q1)]))
  refine Run.go (fun _ k => XS.bipush X0.here hx rfl (hb hby d1_1) k) ?_
  show Run p e below s 0 0 (Q_rm1 Z q1 h0 n0) (s₁.setTop (mkF m 3 #[.val (.long q1), .second, .unset, .unset, .unset, .unset, .unset, .unset] [(.int (32 : Int32)), (.long q1)]))
  refine Run.go (fun _ k => XS.lushr X0.here hx rfl (hb hby d1_3) rfl k) ?_
  show Run p e below s 0 0 (Q_rm1 Z q1 h0 n0) (s₁.setTop (mkF m 4 #[.val (.long q1), .second, .unset, .unset, .unset, .unset, .unset, .unset] [(.long ((q1.toUInt64 >>> ((32 : Int32) &&& 0x3f).toInt64.toUInt64).toInt64))]))
  obtain ⟨_, _, ⟨T2, L2, k2, n2⟩, -, X2, ⟨Lc2, hQ2, l2, y2, z2⟩, st2⟩ := Jvm.LawKit.callS X0 hx (y := (⟨"com/example/outlyr/outlyr/detect/WindowSketchCauchyPinLaw", "num", "(J)J"⟩ : MethodName)) hown (mvT hZ (hw _ (List.mem_of_getElem? (i := 4) rfl))) (mvT hZ (hw _ (List.mem_of_getElem? (i := 5) rfl))) (mvT hZ (hw _ (List.mem_of_getElem? (i := 2) rfl))) (mvT hZ (hw _ (List.mem_of_getElem? (i := 6) rfl))) (by decide) (backOf (W := 0) (rm2 l Z a0 hw [] ((q1.toUInt64 >>> ((32 : Int32) &&& 0x3f).toInt64.toUInt64).toInt64) h0 n0 Z0 ) hZ (hw _ (List.mem_of_getElem? (i := 6) rfl)) (hw _ (List.mem_of_getElem? (i := 2) rfl)) (by decide) (by decide)) (g := (mkF m 4 #[.val (.long q1), .second, .unset, .unset, .unset, .unset, .unset, .unset] [(.long ((q1.toUInt64 >>> ((32 : Int32) &&& 0x3f).toInt64.toUInt64).toInt64))])) rfl (by rw [hml]; rfl) (argsL := [(.long ((q1.toUInt64 >>> ((32 : Int32) &&& 0x3f).toInt64.toUInt64).toInt64))]) (rest := []) (lenOf pd_0 rfl) rfl (by show 2 * 0 + _ ≤ _; exact Nat.le_of_eq rfl) (hb hby d1_4) (fun _ _ => ⟨rfl, e0, (by decide : 0 + 0 ≤ _), (by decide : 0 + 0 ≤ _)⟩)
  dsimp only [Pt.U, Pt.locs, Pt.cells, Pt.slots] at X2 l2 y2 z2 st2 hQ2
  subst l2 y2 z2
  obtain ⟨rfl, N2q, e2q⟩ := hQ2
  have N2 := Fr.app N0 N2q
  obtain ⟨Lg2, Xg2, Ng2⟩ := Stand_gen X2 N2
  refine Run.go st2 ?_
  show Run p e below s 0 0 (Q_rm1 Z q1 h0 n0) (T2.setTop (mkF m 7 #[.val (.long q1), .second, .unset, .unset, .unset, .unset, .unset, .unset] [(.long (F_rm2 ((q1.toUInt64 >>> ((32 : Int32) &&& 0x3f).toInt64.toUInt64).toInt64)))]))
  refine Run.go (fun _ k => XS.lstoreN Xg2.here hx rfl (hb hby d1_7) rfl (l' := #[.val (.long q1), .second, .val (.long (F_rm2 ((q1.toUInt64 >>> ((32 : Int32) &&& 0x3f).toInt64.toUInt64).toInt64))), .second, .unset, .unset, .unset, .unset]) rfl k) ?_
  show Run p e below s 0 0 (Q_rm1 Z q1 h0 n0) (T2.setTop (mkF m 8 #[.val (.long q1), .second, .val (.long (F_rm2 ((q1.toUInt64 >>> ((32 : Int32) &&& 0x3f).toInt64.toUInt64).toInt64))), .second, .unset, .unset, .unset, .unset] []))
  refine Run.go (fun _ k => XS.lloadN Xg2.here hx rfl (hb hby d1_8) rfl  k) ?_
  show Run p e below s 0 0 (Q_rm1 Z q1 h0 n0) (T2.setTop (mkF m 9 #[.val (.long q1), .second, .val (.long (F_rm2 ((q1.toUInt64 >>> ((32 : Int32) &&& 0x3f).toInt64.toUInt64).toInt64))), .second, .unset, .unset, .unset, .unset] [(.long q1)]))
  refine Run.go (fun _ k => Xg2.ldc2Long hx hown (mvT hZ (hw _ (List.mem_of_getElem? (i := 9) rfl))) (g := (mkF m 9 #[.val (.long q1), .second, .val (.long (F_rm2 ((q1.toUInt64 >>> ((32 : Int32) &&& 0x3f).toInt64.toUInt64).toInt64))), .second, .unset, .unset, .unset, .unset] [(.long q1)])) rfl (hb hby d1_9) _ k) ?_
  show Run p e below s 0 0 (Q_rm1 Z q1 h0 n0) (T2.setTop (mkF m 12 #[.val (.long q1), .second, .val (.long (F_rm2 ((q1.toUInt64 >>> ((32 : Int32) &&& 0x3f).toInt64.toUInt64).toInt64))), .second, .unset, .unset, .unset, .unset] [(.long (4294967295 : Int64)), (.long q1)]))
  refine Run.go (fun _ k => XS.land Xg2.here hx rfl (hb hby d1_12) rfl k) ?_
  show Run p e below s 0 0 (Q_rm1 Z q1 h0 n0) (T2.setTop (mkF m 13 #[.val (.long q1), .second, .val (.long (F_rm2 ((q1.toUInt64 >>> ((32 : Int32) &&& 0x3f).toInt64.toUInt64).toInt64))), .second, .unset, .unset, .unset, .unset] [(.long (q1 &&& (4294967295 : Int64)))]))
  obtain ⟨_, _, ⟨T3, L3, k3, n3⟩, -, X3, ⟨Lc3, hQ3, l3, y3, z3⟩, st3⟩ := Jvm.LawKit.callS Xg2 hx (y := (⟨"com/example/outlyr/outlyr/detect/WindowSketchCauchyPinLaw", "num", "(J)J"⟩ : MethodName)) hown (mvT hZ (hw _ (List.mem_of_getElem? (i := 4) rfl))) (mvT hZ (hw _ (List.mem_of_getElem? (i := 5) rfl))) (mvT hZ (hw _ (List.mem_of_getElem? (i := 2) rfl))) (mvT hZ (hw _ (List.mem_of_getElem? (i := 6) rfl))) (by decide) (backOf (W := 0) (rm2 l Z a0 hw [] (q1 &&& (4294967295 : Int64)) h0 n0 Z0 ) hZ (hw _ (List.mem_of_getElem? (i := 6) rfl)) (hw _ (List.mem_of_getElem? (i := 2) rfl)) (by decide) (by decide)) (g := (mkF m 13 #[.val (.long q1), .second, .val (.long (F_rm2 ((q1.toUInt64 >>> ((32 : Int32) &&& 0x3f).toInt64.toUInt64).toInt64))), .second, .unset, .unset, .unset, .unset] [(.long (q1 &&& (4294967295 : Int64)))])) rfl (by rw [hml]; rfl) (argsL := [(.long (q1 &&& (4294967295 : Int64)))]) (rest := []) (lenOf pd_0 rfl) rfl (by show 2 * 0 + _ ≤ _; exact Nat.le_of_eq rfl) (hb hby d1_13) (fun _ _ => ⟨rfl, e2q, (by decide : 0 + 0 ≤ _), (by decide : 0 + 0 ≤ _)⟩)
  dsimp only [Pt.U, Pt.locs, Pt.cells, Pt.slots] at X3 l3 y3 z3 st3 hQ3
  subst l3 y3 z3
  obtain ⟨rfl, N3q, e3q⟩ := hQ3
  have N3 := Fr.app Ng2 N3q
  obtain ⟨Lg3, Xg3, Ng3⟩ := Stand_gen X3 N3
  refine Run.go st3 ?_
  show Run p e below s 0 0 (Q_rm1 Z q1 h0 n0) (T3.setTop (mkF m 16 #[.val (.long q1), .second, .val (.long (F_rm2 ((q1.toUInt64 >>> ((32 : Int32) &&& 0x3f).toInt64.toUInt64).toInt64))), .second, .unset, .unset, .unset, .unset] [(.long (F_rm2 (q1 &&& (4294967295 : Int64))))]))
  refine Run.go (fun _ k => XS.lstore Xg3.here hx rfl (hb hby d1_16) rfl (l' := #[.val (.long q1), .second, .val (.long (F_rm2 ((q1.toUInt64 >>> ((32 : Int32) &&& 0x3f).toInt64.toUInt64).toInt64))), .second, .val (.long (F_rm2 (q1 &&& (4294967295 : Int64)))), .second, .unset, .unset]) rfl k) ?_
  show Run p e below s 0 0 (Q_rm1 Z q1 h0 n0) (T3.setTop (mkF m 18 #[.val (.long q1), .second, .val (.long (F_rm2 ((q1.toUInt64 >>> ((32 : Int32) &&& 0x3f).toInt64.toUInt64).toInt64))), .second, .val (.long (F_rm2 (q1 &&& (4294967295 : Int64)))), .second, .unset, .unset] []))
  refine Run.go (fun _ k => XS.lloadN Xg3.here hx rfl (hb hby d1_18) rfl  k) ?_
  show Run p e below s 0 0 (Q_rm1 Z q1 h0 n0) (T3.setTop (mkF m 19 #[.val (.long q1), .second, .val (.long (F_rm2 ((q1.toUInt64 >>> ((32 : Int32) &&& 0x3f).toInt64.toUInt64).toInt64))), .second, .val (.long (F_rm2 (q1 &&& (4294967295 : Int64)))), .second, .unset, .unset] [(.long (F_rm2 ((q1.toUInt64 >>> ((32 : Int32) &&& 0x3f).toInt64.toUInt64).toInt64)))]))
  refine Run.go (fun _ k => XS.lloadN Xg3.here hx rfl (hb hby d1_19) rfl  k) ?_
  show Run p e below s 0 0 (Q_rm1 Z q1 h0 n0) (T3.setTop (mkF m 20 #[.val (.long q1), .second, .val (.long (F_rm2 ((q1.toUInt64 >>> ((32 : Int32) &&& 0x3f).toInt64.toUInt64).toInt64))), .second, .val (.long (F_rm2 (q1 &&& (4294967295 : Int64)))), .second, .unset, .unset] [(.long (F_rm2 ((q1.toUInt64 >>> ((32 : Int32) &&& 0x3f).toInt64.toUInt64).toInt64))), (.long (F_rm2 ((q1.toUInt64 >>> ((32 : Int32) &&& 0x3f).toInt64.toUInt64).toInt64)))]))
  refine Run.go (fun _ k => XS.lmul Xg3.here hx rfl (hb hby d1_20) rfl k) ?_
  show Run p e below s 0 0 (Q_rm1 Z q1 h0 n0) (T3.setTop (mkF m 21 #[.val (.long q1), .second, .val (.long (F_rm2 ((q1.toUInt64 >>> ((32 : Int32) &&& 0x3f).toInt64.toUInt64).toInt64))), .second, .val (.long (F_rm2 (q1 &&& (4294967295 : Int64)))), .second, .unset, .unset] [(.long ((F_rm2 ((q1.toUInt64 >>> ((32 : Int32) &&& 0x3f).toInt64.toUInt64).toInt64)) * (F_rm2 ((q1.toUInt64 >>> ((32 : Int32) &&& 0x3f).toInt64.toUInt64).toInt64))))]))
  refine Run.go (fun _ k => XS.iconst Xg3.here hx rfl (hb hby d1_21) k) ?_
  show Run p e below s 0 0 (Q_rm1 Z q1 h0 n0) (T3.setTop (mkF m 22 #[.val (.long q1), .second, .val (.long (F_rm2 ((q1.toUInt64 >>> ((32 : Int32) &&& 0x3f).toInt64.toUInt64).toInt64))), .second, .val (.long (F_rm2 (q1 &&& (4294967295 : Int64)))), .second, .unset, .unset] [(.int (2 : Int32)), (.long ((F_rm2 ((q1.toUInt64 >>> ((32 : Int32) &&& 0x3f).toInt64.toUInt64).toInt64)) * (F_rm2 ((q1.toUInt64 >>> ((32 : Int32) &&& 0x3f).toInt64.toUInt64).toInt64))))]))
  refine Run.go (fun _ k => XS.lushr Xg3.here hx rfl (hb hby d1_22) rfl k) ?_
  show Run p e below s 0 0 (Q_rm1 Z q1 h0 n0) (T3.setTop (mkF m 23 #[.val (.long q1), .second, .val (.long (F_rm2 ((q1.toUInt64 >>> ((32 : Int32) &&& 0x3f).toInt64.toUInt64).toInt64))), .second, .val (.long (F_rm2 (q1 &&& (4294967295 : Int64)))), .second, .unset, .unset] [(.long ((((F_rm2 ((q1.toUInt64 >>> ((32 : Int32) &&& 0x3f).toInt64.toUInt64).toInt64)) * (F_rm2 ((q1.toUInt64 >>> ((32 : Int32) &&& 0x3f).toInt64.toUInt64).toInt64))).toUInt64 >>> ((2 : Int32) &&& 0x3f).toInt64.toUInt64).toInt64))]))
  refine Run.go (fun _ k => XS.lload Xg3.here hx rfl (hb hby d1_23) rfl  k) ?_
  show Run p e below s 0 0 (Q_rm1 Z q1 h0 n0) (T3.setTop (mkF m 25 #[.val (.long q1), .second, .val (.long (F_rm2 ((q1.toUInt64 >>> ((32 : Int32) &&& 0x3f).toInt64.toUInt64).toInt64))), .second, .val (.long (F_rm2 (q1 &&& (4294967295 : Int64)))), .second, .unset, .unset] [(.long (F_rm2 (q1 &&& (4294967295 : Int64)))), (.long ((((F_rm2 ((q1.toUInt64 >>> ((32 : Int32) &&& 0x3f).toInt64.toUInt64).toInt64)) * (F_rm2 ((q1.toUInt64 >>> ((32 : Int32) &&& 0x3f).toInt64.toUInt64).toInt64))).toUInt64 >>> ((2 : Int32) &&& 0x3f).toInt64.toUInt64).toInt64))]))
  refine Run.go (fun _ k => XS.lload Xg3.here hx rfl (hb hby d1_25) rfl  k) ?_
  show Run p e below s 0 0 (Q_rm1 Z q1 h0 n0) (T3.setTop (mkF m 27 #[.val (.long q1), .second, .val (.long (F_rm2 ((q1.toUInt64 >>> ((32 : Int32) &&& 0x3f).toInt64.toUInt64).toInt64))), .second, .val (.long (F_rm2 (q1 &&& (4294967295 : Int64)))), .second, .unset, .unset] [(.long (F_rm2 (q1 &&& (4294967295 : Int64)))), (.long (F_rm2 (q1 &&& (4294967295 : Int64)))), (.long ((((F_rm2 ((q1.toUInt64 >>> ((32 : Int32) &&& 0x3f).toInt64.toUInt64).toInt64)) * (F_rm2 ((q1.toUInt64 >>> ((32 : Int32) &&& 0x3f).toInt64.toUInt64).toInt64))).toUInt64 >>> ((2 : Int32) &&& 0x3f).toInt64.toUInt64).toInt64))]))
  refine Run.go (fun _ k => XS.lmul Xg3.here hx rfl (hb hby d1_27) rfl k) ?_
  show Run p e below s 0 0 (Q_rm1 Z q1 h0 n0) (T3.setTop (mkF m 28 #[.val (.long q1), .second, .val (.long (F_rm2 ((q1.toUInt64 >>> ((32 : Int32) &&& 0x3f).toInt64.toUInt64).toInt64))), .second, .val (.long (F_rm2 (q1 &&& (4294967295 : Int64)))), .second, .unset, .unset] [(.long ((F_rm2 (q1 &&& (4294967295 : Int64))) * (F_rm2 (q1 &&& (4294967295 : Int64))))), (.long ((((F_rm2 ((q1.toUInt64 >>> ((32 : Int32) &&& 0x3f).toInt64.toUInt64).toInt64)) * (F_rm2 ((q1.toUInt64 >>> ((32 : Int32) &&& 0x3f).toInt64.toUInt64).toInt64))).toUInt64 >>> ((2 : Int32) &&& 0x3f).toInt64.toUInt64).toInt64))]))
  refine Run.go (fun _ k => XS.iconst Xg3.here hx rfl (hb hby d1_28) k) ?_
  show Run p e below s 0 0 (Q_rm1 Z q1 h0 n0) (T3.setTop (mkF m 29 #[.val (.long q1), .second, .val (.long (F_rm2 ((q1.toUInt64 >>> ((32 : Int32) &&& 0x3f).toInt64.toUInt64).toInt64))), .second, .val (.long (F_rm2 (q1 &&& (4294967295 : Int64)))), .second, .unset, .unset] [(.int (2 : Int32)), (.long ((F_rm2 (q1 &&& (4294967295 : Int64))) * (F_rm2 (q1 &&& (4294967295 : Int64))))), (.long ((((F_rm2 ((q1.toUInt64 >>> ((32 : Int32) &&& 0x3f).toInt64.toUInt64).toInt64)) * (F_rm2 ((q1.toUInt64 >>> ((32 : Int32) &&& 0x3f).toInt64.toUInt64).toInt64))).toUInt64 >>> ((2 : Int32) &&& 0x3f).toInt64.toUInt64).toInt64))]))
  refine Run.go (fun _ k => XS.lushr Xg3.here hx rfl (hb hby d1_29) rfl k) ?_
  show Run p e below s 0 0 (Q_rm1 Z q1 h0 n0) (T3.setTop (mkF m 30 #[.val (.long q1), .second, .val (.long (F_rm2 ((q1.toUInt64 >>> ((32 : Int32) &&& 0x3f).toInt64.toUInt64).toInt64))), .second, .val (.long (F_rm2 (q1 &&& (4294967295 : Int64)))), .second, .unset, .unset] [(.long ((((F_rm2 (q1 &&& (4294967295 : Int64))) * (F_rm2 (q1 &&& (4294967295 : Int64)))).toUInt64 >>> ((2 : Int32) &&& 0x3f).toInt64.toUInt64).toInt64)), (.long ((((F_rm2 ((q1.toUInt64 >>> ((32 : Int32) &&& 0x3f).toInt64.toUInt64).toInt64)) * (F_rm2 ((q1.toUInt64 >>> ((32 : Int32) &&& 0x3f).toInt64.toUInt64).toInt64))).toUInt64 >>> ((2 : Int32) &&& 0x3f).toInt64.toUInt64).toInt64))]))
  refine Run.go (fun _ k => XS.ladd Xg3.here hx rfl (hb hby d1_30) rfl k) ?_
  show Run p e below s 0 0 (Q_rm1 Z q1 h0 n0) (T3.setTop (mkF m 31 #[.val (.long q1), .second, .val (.long (F_rm2 ((q1.toUInt64 >>> ((32 : Int32) &&& 0x3f).toInt64.toUInt64).toInt64))), .second, .val (.long (F_rm2 (q1 &&& (4294967295 : Int64)))), .second, .unset, .unset] [(.long (((((F_rm2 ((q1.toUInt64 >>> ((32 : Int32) &&& 0x3f).toInt64.toUInt64).toInt64)) * (F_rm2 ((q1.toUInt64 >>> ((32 : Int32) &&& 0x3f).toInt64.toUInt64).toInt64))).toUInt64 >>> ((2 : Int32) &&& 0x3f).toInt64.toUInt64).toInt64) + ((((F_rm2 (q1 &&& (4294967295 : Int64))) * (F_rm2 (q1 &&& (4294967295 : Int64)))).toUInt64 >>> ((2 : Int32) &&& 0x3f).toInt64.toUInt64).toInt64)))]))
  refine Run.go (fun _ k => XS.lstore Xg3.here hx rfl (hb hby d1_31) rfl (l' := #[.val (.long q1), .second, .val (.long (F_rm2 ((q1.toUInt64 >>> ((32 : Int32) &&& 0x3f).toInt64.toUInt64).toInt64))), .second, .val (.long (F_rm2 (q1 &&& (4294967295 : Int64)))), .second, .val (.long (((((F_rm2 ((q1.toUInt64 >>> ((32 : Int32) &&& 0x3f).toInt64.toUInt64).toInt64)) * (F_rm2 ((q1.toUInt64 >>> ((32 : Int32) &&& 0x3f).toInt64.toUInt64).toInt64))).toUInt64 >>> ((2 : Int32) &&& 0x3f).toInt64.toUInt64).toInt64) + ((((F_rm2 (q1 &&& (4294967295 : Int64))) * (F_rm2 (q1 &&& (4294967295 : Int64)))).toUInt64 >>> ((2 : Int32) &&& 0x3f).toInt64.toUInt64).toInt64))), .second]) rfl k) ?_
  show Run p e below s 0 0 (Q_rm1 Z q1 h0 n0) (T3.setTop (mkF m 33 #[.val (.long q1), .second, .val (.long (F_rm2 ((q1.toUInt64 >>> ((32 : Int32) &&& 0x3f).toInt64.toUInt64).toInt64))), .second, .val (.long (F_rm2 (q1 &&& (4294967295 : Int64)))), .second, .val (.long (((((F_rm2 ((q1.toUInt64 >>> ((32 : Int32) &&& 0x3f).toInt64.toUInt64).toInt64)) * (F_rm2 ((q1.toUInt64 >>> ((32 : Int32) &&& 0x3f).toInt64.toUInt64).toInt64))).toUInt64 >>> ((2 : Int32) &&& 0x3f).toInt64.toUInt64).toInt64) + ((((F_rm2 (q1 &&& (4294967295 : Int64))) * (F_rm2 (q1 &&& (4294967295 : Int64)))).toUInt64 >>> ((2 : Int32) &&& 0x3f).toInt64.toUInt64).toInt64))), .second] []))
  refine Run.go (fun _ k => XS.lload Xg3.here hx rfl (hb hby d1_33) rfl  k) ?_
  show Run p e below s 0 0 (Q_rm1 Z q1 h0 n0) (T3.setTop (mkF m 35 #[.val (.long q1), .second, .val (.long (F_rm2 ((q1.toUInt64 >>> ((32 : Int32) &&& 0x3f).toInt64.toUInt64).toInt64))), .second, .val (.long (F_rm2 (q1 &&& (4294967295 : Int64)))), .second, .val (.long (((((F_rm2 ((q1.toUInt64 >>> ((32 : Int32) &&& 0x3f).toInt64.toUInt64).toInt64)) * (F_rm2 ((q1.toUInt64 >>> ((32 : Int32) &&& 0x3f).toInt64.toUInt64).toInt64))).toUInt64 >>> ((2 : Int32) &&& 0x3f).toInt64.toUInt64).toInt64) + ((((F_rm2 (q1 &&& (4294967295 : Int64))) * (F_rm2 (q1 &&& (4294967295 : Int64)))).toUInt64 >>> ((2 : Int32) &&& 0x3f).toInt64.toUInt64).toInt64))), .second] [(.long (((((F_rm2 ((q1.toUInt64 >>> ((32 : Int32) &&& 0x3f).toInt64.toUInt64).toInt64)) * (F_rm2 ((q1.toUInt64 >>> ((32 : Int32) &&& 0x3f).toInt64.toUInt64).toInt64))).toUInt64 >>> ((2 : Int32) &&& 0x3f).toInt64.toUInt64).toInt64) + ((((F_rm2 (q1 &&& (4294967295 : Int64))) * (F_rm2 (q1 &&& (4294967295 : Int64)))).toUInt64 >>> ((2 : Int32) &&& 0x3f).toInt64.toUInt64).toInt64)))]))
  refine Run.go (fun _ k => Xg3.ldc2Long hx hown (mvT hZ (hw _ (List.mem_of_getElem? (i := 10) rfl))) (g := (mkF m 35 #[.val (.long q1), .second, .val (.long (F_rm2 ((q1.toUInt64 >>> ((32 : Int32) &&& 0x3f).toInt64.toUInt64).toInt64))), .second, .val (.long (F_rm2 (q1 &&& (4294967295 : Int64)))), .second, .val (.long (((((F_rm2 ((q1.toUInt64 >>> ((32 : Int32) &&& 0x3f).toInt64.toUInt64).toInt64)) * (F_rm2 ((q1.toUInt64 >>> ((32 : Int32) &&& 0x3f).toInt64.toUInt64).toInt64))).toUInt64 >>> ((2 : Int32) &&& 0x3f).toInt64.toUInt64).toInt64) + ((((F_rm2 (q1 &&& (4294967295 : Int64))) * (F_rm2 (q1 &&& (4294967295 : Int64)))).toUInt64 >>> ((2 : Int32) &&& 0x3f).toInt64.toUInt64).toInt64))), .second] [(.long (((((F_rm2 ((q1.toUInt64 >>> ((32 : Int32) &&& 0x3f).toInt64.toUInt64).toInt64)) * (F_rm2 ((q1.toUInt64 >>> ((32 : Int32) &&& 0x3f).toInt64.toUInt64).toInt64))).toUInt64 >>> ((2 : Int32) &&& 0x3f).toInt64.toUInt64).toInt64) + ((((F_rm2 (q1 &&& (4294967295 : Int64))) * (F_rm2 (q1 &&& (4294967295 : Int64)))).toUInt64 >>> ((2 : Int32) &&& 0x3f).toInt64.toUInt64).toInt64)))])) rfl (hb hby d1_35) _ k) ?_
  show Run p e below s 0 0 (Q_rm1 Z q1 h0 n0) (T3.setTop (mkF m 38 #[.val (.long q1), .second, .val (.long (F_rm2 ((q1.toUInt64 >>> ((32 : Int32) &&& 0x3f).toInt64.toUInt64).toInt64))), .second, .val (.long (F_rm2 (q1 &&& (4294967295 : Int64)))), .second, .val (.long (((((F_rm2 ((q1.toUInt64 >>> ((32 : Int32) &&& 0x3f).toInt64.toUInt64).toInt64)) * (F_rm2 ((q1.toUInt64 >>> ((32 : Int32) &&& 0x3f).toInt64.toUInt64).toInt64))).toUInt64 >>> ((2 : Int32) &&& 0x3f).toInt64.toUInt64).toInt64) + ((((F_rm2 (q1 &&& (4294967295 : Int64))) * (F_rm2 (q1 &&& (4294967295 : Int64)))).toUInt64 >>> ((2 : Int32) &&& 0x3f).toInt64.toUInt64).toInt64))), .second] [(.long (4611686018426863616 : Int64)), (.long (((((F_rm2 ((q1.toUInt64 >>> ((32 : Int32) &&& 0x3f).toInt64.toUInt64).toInt64)) * (F_rm2 ((q1.toUInt64 >>> ((32 : Int32) &&& 0x3f).toInt64.toUInt64).toInt64))).toUInt64 >>> ((2 : Int32) &&& 0x3f).toInt64.toUInt64).toInt64) + ((((F_rm2 (q1 &&& (4294967295 : Int64))) * (F_rm2 (q1 &&& (4294967295 : Int64)))).toUInt64 >>> ((2 : Int32) &&& 0x3f).toInt64.toUInt64).toInt64)))]))
  refine Run.go (fun _ k => XS.lcmp Xg3.here hx rfl (hb hby d1_38) rfl k) ?_
  show Run p e below s 0 0 (Q_rm1 Z q1 h0 n0) (T3.setTop (mkF m 39 #[.val (.long q1), .second, .val (.long (F_rm2 ((q1.toUInt64 >>> ((32 : Int32) &&& 0x3f).toInt64.toUInt64).toInt64))), .second, .val (.long (F_rm2 (q1 &&& (4294967295 : Int64)))), .second, .val (.long (((((F_rm2 ((q1.toUInt64 >>> ((32 : Int32) &&& 0x3f).toInt64.toUInt64).toInt64)) * (F_rm2 ((q1.toUInt64 >>> ((32 : Int32) &&& 0x3f).toInt64.toUInt64).toInt64))).toUInt64 >>> ((2 : Int32) &&& 0x3f).toInt64.toUInt64).toInt64) + ((((F_rm2 (q1 &&& (4294967295 : Int64))) * (F_rm2 (q1 &&& (4294967295 : Int64)))).toUInt64 >>> ((2 : Int32) &&& 0x3f).toInt64.toUInt64).toInt64))), .second] [(.int (lcmpW (((((F_rm2 ((q1.toUInt64 >>> ((32 : Int32) &&& 0x3f).toInt64.toUInt64).toInt64)) * (F_rm2 ((q1.toUInt64 >>> ((32 : Int32) &&& 0x3f).toInt64.toUInt64).toInt64))).toUInt64 >>> ((2 : Int32) &&& 0x3f).toInt64.toUInt64).toInt64) + ((((F_rm2 (q1 &&& (4294967295 : Int64))) * (F_rm2 (q1 &&& (4294967295 : Int64)))).toUInt64 >>> ((2 : Int32) &&& 0x3f).toInt64.toUInt64).toInt64)) (4611686018426863616 : Int64)))]))
  by_cases hc4 : ((4611686018426863616 : Int64) < (((((F_rm2 ((q1.toUInt64 >>> ((32 : Int32) &&& 0x3f).toInt64.toUInt64).toInt64)) * (F_rm2 ((q1.toUInt64 >>> ((32 : Int32) &&& 0x3f).toInt64.toUInt64).toInt64))).toUInt64 >>> ((2 : Int32) &&& 0x3f).toInt64.toUInt64).toInt64) + ((((F_rm2 (q1 &&& (4294967295 : Int64))) * (F_rm2 (q1 &&& (4294967295 : Int64)))).toUInt64 >>> ((2 : Int32) &&& 0x3f).toInt64.toUInt64).toInt64)))
  · refine Run.go (fun _ k => XS.ifYes Xg3.here hx rfl (pc0 := 39) (pc' := 44) rfl (hb hby d1_39) rfl ((if0 _ _).trans (tlt ((lw_gt (((((F_rm2 ((q1.toUInt64 >>> ((32 : Int32) &&& 0x3f).toInt64.toUInt64).toInt64)) * (F_rm2 ((q1.toUInt64 >>> ((32 : Int32) &&& 0x3f).toInt64.toUInt64).toInt64))).toUInt64 >>> ((2 : Int32) &&& 0x3f).toInt64.toUInt64).toInt64) + ((((F_rm2 (q1 &&& (4294967295 : Int64))) * (F_rm2 (q1 &&& (4294967295 : Int64)))).toUInt64 >>> ((2 : Int32) &&& 0x3f).toInt64.toUInt64).toInt64)) (4611686018426863616 : Int64)).mpr hc4)).2.2.1) (by decide) (by decide) k) ?_
    show Run p e below s 0 0 (Q_rm1 Z q1 h0 n0) (T3.setTop (mkF m 44 #[.val (.long q1), .second, .val (.long (F_rm2 ((q1.toUInt64 >>> ((32 : Int32) &&& 0x3f).toInt64.toUInt64).toInt64))), .second, .val (.long (F_rm2 (q1 &&& (4294967295 : Int64)))), .second, .val (.long (((((F_rm2 ((q1.toUInt64 >>> ((32 : Int32) &&& 0x3f).toInt64.toUInt64).toInt64)) * (F_rm2 ((q1.toUInt64 >>> ((32 : Int32) &&& 0x3f).toInt64.toUInt64).toInt64))).toUInt64 >>> ((2 : Int32) &&& 0x3f).toInt64.toUInt64).toInt64) + ((((F_rm2 (q1 &&& (4294967295 : Int64))) * (F_rm2 (q1 &&& (4294967295 : Int64)))).toUInt64 >>> ((2 : Int32) &&& 0x3f).toInt64.toUInt64).toInt64))), .second] []))
    refine Run.go (fun _ k => XS.lload Xg3.here hx rfl (hb hby d1_44) rfl  k) ?_
    show Run p e below s 0 0 (Q_rm1 Z q1 h0 n0) (T3.setTop (mkF m 46 #[.val (.long q1), .second, .val (.long (F_rm2 ((q1.toUInt64 >>> ((32 : Int32) &&& 0x3f).toInt64.toUInt64).toInt64))), .second, .val (.long (F_rm2 (q1 &&& (4294967295 : Int64)))), .second, .val (.long (((((F_rm2 ((q1.toUInt64 >>> ((32 : Int32) &&& 0x3f).toInt64.toUInt64).toInt64)) * (F_rm2 ((q1.toUInt64 >>> ((32 : Int32) &&& 0x3f).toInt64.toUInt64).toInt64))).toUInt64 >>> ((2 : Int32) &&& 0x3f).toInt64.toUInt64).toInt64) + ((((F_rm2 (q1 &&& (4294967295 : Int64))) * (F_rm2 (q1 &&& (4294967295 : Int64)))).toUInt64 >>> ((2 : Int32) &&& 0x3f).toInt64.toUInt64).toInt64))), .second] [(.long (((((F_rm2 ((q1.toUInt64 >>> ((32 : Int32) &&& 0x3f).toInt64.toUInt64).toInt64)) * (F_rm2 ((q1.toUInt64 >>> ((32 : Int32) &&& 0x3f).toInt64.toUInt64).toInt64))).toUInt64 >>> ((2 : Int32) &&& 0x3f).toInt64.toUInt64).toInt64) + ((((F_rm2 (q1 &&& (4294967295 : Int64))) * (F_rm2 (q1 &&& (4294967295 : Int64)))).toUInt64 >>> ((2 : Int32) &&& 0x3f).toInt64.toUInt64).toInt64)))]))
    refine Run.go (fun _ k => Xg3.ldc2Long hx hown (mvT hZ (hw _ (List.mem_of_getElem? (i := 11) rfl))) (g := (mkF m 46 #[.val (.long q1), .second, .val (.long (F_rm2 ((q1.toUInt64 >>> ((32 : Int32) &&& 0x3f).toInt64.toUInt64).toInt64))), .second, .val (.long (F_rm2 (q1 &&& (4294967295 : Int64)))), .second, .val (.long (((((F_rm2 ((q1.toUInt64 >>> ((32 : Int32) &&& 0x3f).toInt64.toUInt64).toInt64)) * (F_rm2 ((q1.toUInt64 >>> ((32 : Int32) &&& 0x3f).toInt64.toUInt64).toInt64))).toUInt64 >>> ((2 : Int32) &&& 0x3f).toInt64.toUInt64).toInt64) + ((((F_rm2 (q1 &&& (4294967295 : Int64))) * (F_rm2 (q1 &&& (4294967295 : Int64)))).toUInt64 >>> ((2 : Int32) &&& 0x3f).toInt64.toUInt64).toInt64))), .second] [(.long (((((F_rm2 ((q1.toUInt64 >>> ((32 : Int32) &&& 0x3f).toInt64.toUInt64).toInt64)) * (F_rm2 ((q1.toUInt64 >>> ((32 : Int32) &&& 0x3f).toInt64.toUInt64).toInt64))).toUInt64 >>> ((2 : Int32) &&& 0x3f).toInt64.toUInt64).toInt64) + ((((F_rm2 (q1 &&& (4294967295 : Int64))) * (F_rm2 (q1 &&& (4294967295 : Int64)))).toUInt64 >>> ((2 : Int32) &&& 0x3f).toInt64.toUInt64).toInt64)))])) rfl (hb hby d1_46) _ k) ?_
    show Run p e below s 0 0 (Q_rm1 Z q1 h0 n0) (T3.setTop (mkF m 49 #[.val (.long q1), .second, .val (.long (F_rm2 ((q1.toUInt64 >>> ((32 : Int32) &&& 0x3f).toInt64.toUInt64).toInt64))), .second, .val (.long (F_rm2 (q1 &&& (4294967295 : Int64)))), .second, .val (.long (((((F_rm2 ((q1.toUInt64 >>> ((32 : Int32) &&& 0x3f).toInt64.toUInt64).toInt64)) * (F_rm2 ((q1.toUInt64 >>> ((32 : Int32) &&& 0x3f).toInt64.toUInt64).toInt64))).toUInt64 >>> ((2 : Int32) &&& 0x3f).toInt64.toUInt64).toInt64) + ((((F_rm2 (q1 &&& (4294967295 : Int64))) * (F_rm2 (q1 &&& (4294967295 : Int64)))).toUInt64 >>> ((2 : Int32) &&& 0x3f).toInt64.toUInt64).toInt64))), .second] [(.long (4611686018427912192 : Int64)), (.long (((((F_rm2 ((q1.toUInt64 >>> ((32 : Int32) &&& 0x3f).toInt64.toUInt64).toInt64)) * (F_rm2 ((q1.toUInt64 >>> ((32 : Int32) &&& 0x3f).toInt64.toUInt64).toInt64))).toUInt64 >>> ((2 : Int32) &&& 0x3f).toInt64.toUInt64).toInt64) + ((((F_rm2 (q1 &&& (4294967295 : Int64))) * (F_rm2 (q1 &&& (4294967295 : Int64)))).toUInt64 >>> ((2 : Int32) &&& 0x3f).toInt64.toUInt64).toInt64)))]))
    refine Run.go (fun _ k => XS.lcmp Xg3.here hx rfl (hb hby d1_49) rfl k) ?_
    show Run p e below s 0 0 (Q_rm1 Z q1 h0 n0) (T3.setTop (mkF m 50 #[.val (.long q1), .second, .val (.long (F_rm2 ((q1.toUInt64 >>> ((32 : Int32) &&& 0x3f).toInt64.toUInt64).toInt64))), .second, .val (.long (F_rm2 (q1 &&& (4294967295 : Int64)))), .second, .val (.long (((((F_rm2 ((q1.toUInt64 >>> ((32 : Int32) &&& 0x3f).toInt64.toUInt64).toInt64)) * (F_rm2 ((q1.toUInt64 >>> ((32 : Int32) &&& 0x3f).toInt64.toUInt64).toInt64))).toUInt64 >>> ((2 : Int32) &&& 0x3f).toInt64.toUInt64).toInt64) + ((((F_rm2 (q1 &&& (4294967295 : Int64))) * (F_rm2 (q1 &&& (4294967295 : Int64)))).toUInt64 >>> ((2 : Int32) &&& 0x3f).toInt64.toUInt64).toInt64))), .second] [(.int (lcmpW (((((F_rm2 ((q1.toUInt64 >>> ((32 : Int32) &&& 0x3f).toInt64.toUInt64).toInt64)) * (F_rm2 ((q1.toUInt64 >>> ((32 : Int32) &&& 0x3f).toInt64.toUInt64).toInt64))).toUInt64 >>> ((2 : Int32) &&& 0x3f).toInt64.toUInt64).toInt64) + ((((F_rm2 (q1 &&& (4294967295 : Int64))) * (F_rm2 (q1 &&& (4294967295 : Int64)))).toUInt64 >>> ((2 : Int32) &&& 0x3f).toInt64.toUInt64).toInt64)) (4611686018427912192 : Int64)))]))
    by_cases hc5 : ((((((F_rm2 ((q1.toUInt64 >>> ((32 : Int32) &&& 0x3f).toInt64.toUInt64).toInt64)) * (F_rm2 ((q1.toUInt64 >>> ((32 : Int32) &&& 0x3f).toInt64.toUInt64).toInt64))).toUInt64 >>> ((2 : Int32) &&& 0x3f).toInt64.toUInt64).toInt64) + ((((F_rm2 (q1 &&& (4294967295 : Int64))) * (F_rm2 (q1 &&& (4294967295 : Int64)))).toUInt64 >>> ((2 : Int32) &&& 0x3f).toInt64.toUInt64).toInt64)) < (4611686018427912192 : Int64))
    · refine Run.go (fun _ k => XS.ifYes Xg3.here hx rfl (pc0 := 50) (pc' := 55) rfl (hb hby d1_50) rfl ((if0 _ _).trans (tlt ((lw_lt (((((F_rm2 ((q1.toUInt64 >>> ((32 : Int32) &&& 0x3f).toInt64.toUInt64).toInt64)) * (F_rm2 ((q1.toUInt64 >>> ((32 : Int32) &&& 0x3f).toInt64.toUInt64).toInt64))).toUInt64 >>> ((2 : Int32) &&& 0x3f).toInt64.toUInt64).toInt64) + ((((F_rm2 (q1 &&& (4294967295 : Int64))) * (F_rm2 (q1 &&& (4294967295 : Int64)))).toUInt64 >>> ((2 : Int32) &&& 0x3f).toInt64.toUInt64).toInt64)) (4611686018427912192 : Int64)).mpr hc5)).1) (by decide) (by decide) k) ?_
      show Run p e below s 0 0 (Q_rm1 Z q1 h0 n0) (T3.setTop (mkF m 55 #[.val (.long q1), .second, .val (.long (F_rm2 ((q1.toUInt64 >>> ((32 : Int32) &&& 0x3f).toInt64.toUInt64).toInt64))), .second, .val (.long (F_rm2 (q1 &&& (4294967295 : Int64)))), .second, .val (.long (((((F_rm2 ((q1.toUInt64 >>> ((32 : Int32) &&& 0x3f).toInt64.toUInt64).toInt64)) * (F_rm2 ((q1.toUInt64 >>> ((32 : Int32) &&& 0x3f).toInt64.toUInt64).toInt64))).toUInt64 >>> ((2 : Int32) &&& 0x3f).toInt64.toUInt64).toInt64) + ((((F_rm2 (q1 &&& (4294967295 : Int64))) * (F_rm2 (q1 &&& (4294967295 : Int64)))).toUInt64 >>> ((2 : Int32) &&& 0x3f).toInt64.toUInt64).toInt64))), .second] []))
      refine Run.go (fun _ k => XS.iconst Xg3.here hx rfl (hb hby d1_55) k) ?_
      show Run p e below s 0 0 (Q_rm1 Z q1 h0 n0) (T3.setTop (mkF m 56 #[.val (.long q1), .second, .val (.long (F_rm2 ((q1.toUInt64 >>> ((32 : Int32) &&& 0x3f).toInt64.toUInt64).toInt64))), .second, .val (.long (F_rm2 (q1 &&& (4294967295 : Int64)))), .second, .val (.long (((((F_rm2 ((q1.toUInt64 >>> ((32 : Int32) &&& 0x3f).toInt64.toUInt64).toInt64)) * (F_rm2 ((q1.toUInt64 >>> ((32 : Int32) &&& 0x3f).toInt64.toUInt64).toInt64))).toUInt64 >>> ((2 : Int32) &&& 0x3f).toInt64.toUInt64).toInt64) + ((((F_rm2 (q1 &&& (4294967295 : Int64))) * (F_rm2 (q1 &&& (4294967295 : Int64)))).toUInt64 >>> ((2 : Int32) &&& 0x3f).toInt64.toUInt64).toInt64))), .second] [(.int (0 : Int32))]))
      refine Run.retI Xg3 hx Bd.returns Bd.notSynchronized (hb hby d1_56) (by decide) (by decide) ?_
      show Q_rm1 Z q1 h0 n0 _ T3.heap _
      exact ⟨congrArg some (congrArg Value.int (show (0 : Int32) = (F_rm1 q1) from (by unfold F_rm1; rw [if_pos hc4, if_pos hc5]))), Ng3, e3q⟩
    · refine Run.go (fun _ k => XS.ifNo Xg3.here hx rfl (hb hby d1_50) rfl ((if0 _ _).trans (flt (mt (lw_lt (((((F_rm2 ((q1.toUInt64 >>> ((32 : Int32) &&& 0x3f).toInt64.toUInt64).toInt64)) * (F_rm2 ((q1.toUInt64 >>> ((32 : Int32) &&& 0x3f).toInt64.toUInt64).toInt64))).toUInt64 >>> ((2 : Int32) &&& 0x3f).toInt64.toUInt64).toInt64) + ((((F_rm2 (q1 &&& (4294967295 : Int64))) * (F_rm2 (q1 &&& (4294967295 : Int64)))).toUInt64 >>> ((2 : Int32) &&& 0x3f).toInt64.toUInt64).toInt64)) (4611686018427912192 : Int64)).mp hc5)).1) k) ?_
      show Run p e below s 0 0 (Q_rm1 Z q1 h0 n0) (T3.setTop (mkF m 53 #[.val (.long q1), .second, .val (.long (F_rm2 ((q1.toUInt64 >>> ((32 : Int32) &&& 0x3f).toInt64.toUInt64).toInt64))), .second, .val (.long (F_rm2 (q1 &&& (4294967295 : Int64)))), .second, .val (.long (((((F_rm2 ((q1.toUInt64 >>> ((32 : Int32) &&& 0x3f).toInt64.toUInt64).toInt64)) * (F_rm2 ((q1.toUInt64 >>> ((32 : Int32) &&& 0x3f).toInt64.toUInt64).toInt64))).toUInt64 >>> ((2 : Int32) &&& 0x3f).toInt64.toUInt64).toInt64) + ((((F_rm2 (q1 &&& (4294967295 : Int64))) * (F_rm2 (q1 &&& (4294967295 : Int64)))).toUInt64 >>> ((2 : Int32) &&& 0x3f).toInt64.toUInt64).toInt64))), .second] []))
      refine Run.go (fun _ k => XS.iconst Xg3.here hx rfl (hb hby d1_53) k) ?_
      show Run p e below s 0 0 (Q_rm1 Z q1 h0 n0) (T3.setTop (mkF m 54 #[.val (.long q1), .second, .val (.long (F_rm2 ((q1.toUInt64 >>> ((32 : Int32) &&& 0x3f).toInt64.toUInt64).toInt64))), .second, .val (.long (F_rm2 (q1 &&& (4294967295 : Int64)))), .second, .val (.long (((((F_rm2 ((q1.toUInt64 >>> ((32 : Int32) &&& 0x3f).toInt64.toUInt64).toInt64)) * (F_rm2 ((q1.toUInt64 >>> ((32 : Int32) &&& 0x3f).toInt64.toUInt64).toInt64))).toUInt64 >>> ((2 : Int32) &&& 0x3f).toInt64.toUInt64).toInt64) + ((((F_rm2 (q1 &&& (4294967295 : Int64))) * (F_rm2 (q1 &&& (4294967295 : Int64)))).toUInt64 >>> ((2 : Int32) &&& 0x3f).toInt64.toUInt64).toInt64))), .second] [(.int (-1 : Int32))]))
      refine Run.retI Xg3 hx Bd.returns Bd.notSynchronized (hb hby d1_54) (by decide) (by decide) ?_
      show Q_rm1 Z q1 h0 n0 _ T3.heap _
      exact ⟨congrArg some (congrArg Value.int (show (-1 : Int32) = (F_rm1 q1) from (by unfold F_rm1; rw [if_pos hc4, if_neg hc5]))), Ng3, e3q⟩
  · refine Run.go (fun _ k => XS.ifNo Xg3.here hx rfl (hb hby d1_39) rfl ((if0 _ _).trans (flt (mt (lw_gt (((((F_rm2 ((q1.toUInt64 >>> ((32 : Int32) &&& 0x3f).toInt64.toUInt64).toInt64)) * (F_rm2 ((q1.toUInt64 >>> ((32 : Int32) &&& 0x3f).toInt64.toUInt64).toInt64))).toUInt64 >>> ((2 : Int32) &&& 0x3f).toInt64.toUInt64).toInt64) + ((((F_rm2 (q1 &&& (4294967295 : Int64))) * (F_rm2 (q1 &&& (4294967295 : Int64)))).toUInt64 >>> ((2 : Int32) &&& 0x3f).toInt64.toUInt64).toInt64)) (4611686018426863616 : Int64)).mp hc4)).2.2.1) k) ?_
    show Run p e below s 0 0 (Q_rm1 Z q1 h0 n0) (T3.setTop (mkF m 42 #[.val (.long q1), .second, .val (.long (F_rm2 ((q1.toUInt64 >>> ((32 : Int32) &&& 0x3f).toInt64.toUInt64).toInt64))), .second, .val (.long (F_rm2 (q1 &&& (4294967295 : Int64)))), .second, .val (.long (((((F_rm2 ((q1.toUInt64 >>> ((32 : Int32) &&& 0x3f).toInt64.toUInt64).toInt64)) * (F_rm2 ((q1.toUInt64 >>> ((32 : Int32) &&& 0x3f).toInt64.toUInt64).toInt64))).toUInt64 >>> ((2 : Int32) &&& 0x3f).toInt64.toUInt64).toInt64) + ((((F_rm2 (q1 &&& (4294967295 : Int64))) * (F_rm2 (q1 &&& (4294967295 : Int64)))).toUInt64 >>> ((2 : Int32) &&& 0x3f).toInt64.toUInt64).toInt64))), .second] []))
    refine Run.go (fun _ k => XS.iconst Xg3.here hx rfl (hb hby d1_42) k) ?_
    show Run p e below s 0 0 (Q_rm1 Z q1 h0 n0) (T3.setTop (mkF m 43 #[.val (.long q1), .second, .val (.long (F_rm2 ((q1.toUInt64 >>> ((32 : Int32) &&& 0x3f).toInt64.toUInt64).toInt64))), .second, .val (.long (F_rm2 (q1 &&& (4294967295 : Int64)))), .second, .val (.long (((((F_rm2 ((q1.toUInt64 >>> ((32 : Int32) &&& 0x3f).toInt64.toUInt64).toInt64)) * (F_rm2 ((q1.toUInt64 >>> ((32 : Int32) &&& 0x3f).toInt64.toUInt64).toInt64))).toUInt64 >>> ((2 : Int32) &&& 0x3f).toInt64.toUInt64).toInt64) + ((((F_rm2 (q1 &&& (4294967295 : Int64))) * (F_rm2 (q1 &&& (4294967295 : Int64)))).toUInt64 >>> ((2 : Int32) &&& 0x3f).toInt64.toUInt64).toInt64))), .second] [(.int (1 : Int32))]))
    refine Run.retI Xg3 hx Bd.returns Bd.notSynchronized (hb hby d1_43) (by decide) (by decide) ?_
    show Q_rm1 Z q1 h0 n0 _ T3.heap _
    exact ⟨congrArg some (congrArg Value.int (show (1 : Int32) = (F_rm1 q1) from (by unfold F_rm1; rw [if_neg hc4]))), Ng3, e3q⟩
theorem own_h1 (q : Int64) : 0 ≤ ((q.toUInt64 >>> ((32 : Int32) &&& 0x3f).toInt64.toUInt64).toInt64).toInt ∧ ((q.toUInt64 >>> ((32 : Int32) &&& 0x3f).toInt64.toUInt64).toInt64).toInt < 4294967296 := by
  have h := c_lushr q 32 32 rfl (by decide)
  omega
theorem own_h2 (q : Int64) : 0 ≤ (q &&& (4294967295 : Int64)).toInt ∧ (q &&& (4294967295 : Int64)).toInt < 4294967296 := by
  have h := c_maskL q 4294967295 32 (by decide) (by decide)
  omega
theorem own_num {h : Int64} (k : 0 ≤ h.toInt ∧ h.toInt < 4294967296) : (F_rm2 h).toInt = 2 * h.toInt + 1 - 4294967296 := by
  unfold F_rm2
  have a := c_lmul 2 h
  have b := c_ladd (2 * h) 1
  have c := c_lsub (2 * h + 1) 4294967296
  have r := rng64 (2 * h + 1 - 4294967296)
  have e1 : (2 : Int64).toInt = 2 := rfl
  have e2 : (1 : Int64).toInt = 1 := rfl
  have e3 : (4294967296 : Int64).toInt = 4294967296 := rfl
  rw [e1] at a
  omega
theorem own_sqr {a : Int} (h1 : -4294967296 < a) (h2 : a < 4294967296) : 0 ≤ a * a ∧ a * a < 18446744073709551616 := by
  have e : ((a.natAbs * a.natAbs : Nat) : Int) = a * a := Int.natAbs_mul_self
  have g : a.natAbs * a.natAbs ≤ 4294967295 * 4294967295 := Nat.mul_le_mul (by omega) (by omega)
  omega
theorem own_qt {v : Int64} (h1 : -4294967296 < v.toInt) (h2 : v.toInt < 4294967296) : (((v * v).toUInt64 >>> ((2 : Int32) &&& 0x3f).toInt64.toUInt64).toInt64).toInt = v.toInt * v.toInt / 4 := by
  have h := c_lushr (v * v) 2 2 rfl (by decide)
  have m := c_lmul v v
  have s := own_sqr h1 h2
  omega
/-- the squares' sum, in quarters -/
theorem own_T {v w : Int64} (h1 : -4294967296 < v.toInt) (h2 : v.toInt < 4294967296) (k1 : -4294967296 < w.toInt) (k2 : w.toInt < 4294967296) : ((((v * v).toUInt64 >>> ((2 : Int32) &&& 0x3f).toInt64.toUInt64).toInt64) + (((w * w).toUInt64 >>> ((2 : Int32) &&& 0x3f).toInt64.toUInt64).toInt64)).toInt = v.toInt * v.toInt / 4 + w.toInt * w.toInt / 4 := by
  have a := own_qt h1 h2
  have b := own_qt k1 k2
  have c := c_ladd (((v * v).toUInt64 >>> ((2 : Int32) &&& 0x3f).toInt64.toUInt64).toInt64) (((w * w).toUInt64 >>> ((2 : Int32) &&& 0x3f).toInt64.toUInt64).toInt64)
  have r := rng64 ((((v * v).toUInt64 >>> ((2 : Int32) &&& 0x3f).toInt64.toUInt64).toInt64) + (((w * w).toUInt64 >>> ((2 : Int32) &&& 0x3f).toInt64.toUInt64).toInt64))
  have s := own_sqr h1 h2
  have t := own_sqr k1 k2
  omega
theorem own_b1 (q : Int64) : -4294967296 < (F_rm2 ((q.toUInt64 >>> ((32 : Int32) &&& 0x3f).toInt64.toUInt64).toInt64)).toInt ∧ (F_rm2 ((q.toUInt64 >>> ((32 : Int32) &&& 0x3f).toInt64.toUInt64).toInt64)).toInt < 4294967296 ∧ (F_rm2 ((q.toUInt64 >>> ((32 : Int32) &&& 0x3f).toInt64.toUInt64).toInt64)).toInt ≠ 0 := by
  have := own_h1 q
  rw [own_num (own_h1 q)]; omega
theorem own_b2 (q : Int64) : -4294967296 < (F_rm2 (q &&& (4294967295 : Int64))).toInt ∧ (F_rm2 (q &&& (4294967295 : Int64))).toInt < 4294967296 ∧ (F_rm2 (q &&& (4294967295 : Int64))).toInt ≠ 0 := by
  have := own_h2 q
  rw [own_num (own_h2 q)]; omega
theorem own_w1 (q : Int64) (h : (F_rm1 q) = (1 : Int32)) : (F_rm2 ((q.toUInt64 >>> ((32 : Int32) &&& 0x3f).toInt64.toUInt64).toInt64)).toInt * (F_rm2 ((q.toUInt64 >>> ((32 : Int32) &&& 0x3f).toInt64.toUInt64).toInt64)).toInt / 4 + (F_rm2 (q &&& (4294967295 : Int64))).toInt * (F_rm2 (q &&& (4294967295 : Int64))).toInt / 4 ≤ 4611686018426863616 := by
  rw [← own_T (own_b1 q).1 (own_b1 q).2.1 (own_b2 q).1 (own_b2 q).2.1]
  refine Int.not_lt.mp fun k => ?_
  have k' := Int64.lt_iff_toInt_lt.mpr (show (4611686018426863616 : Int64).toInt < _ from k)
  unfold F_rm1 at h
  rw [if_pos k'] at h
  split at h <;> exact absurd h (by decide)
theorem own_w2 (q : Int64) (h : (F_rm1 q) = (-1 : Int32)) : 4611686018427912192 ≤ (F_rm2 ((q.toUInt64 >>> ((32 : Int32) &&& 0x3f).toInt64.toUInt64).toInt64)).toInt * (F_rm2 ((q.toUInt64 >>> ((32 : Int32) &&& 0x3f).toInt64.toUInt64).toInt64)).toInt / 4 + (F_rm2 (q &&& (4294967295 : Int64))).toInt * (F_rm2 (q &&& (4294967295 : Int64))).toInt / 4 := by
  rw [← own_T (own_b1 q).1 (own_b1 q).2.1 (own_b2 q).1 (own_b2 q).2.1]
  refine Int.not_lt.mp fun k => ?_
  have k' := Int64.lt_iff_toInt_lt.mpr (show _ < (4611686018427912192 : Int64).toInt from k)
  unfold F_rm1 at h
  rw [if_pos k'] at h
  split at h <;> exact absurd h (by decide)
section OwnCb
open Jvm.FP.Core Jvm.Free.Fl
theorem own_fd {a : UInt64} (h : DFin a) : NoNaN64 a := (fin64_core.mpr h).noNaN
theorem own_o {h : Int64} (k : 0 ≤ h.toInt ∧ h.toInt < 4294967296) : OB (own_x h) (F_rm2 h).toInt (F_rm2 h).toInt 1042 := by rw [own_num k]; exact (own_ox k.1 k.2).2
theorem own_fx {h : Int64} (k : 0 ≤ h.toInt ∧ h.toInt < 4294967296) : DFin (own_x h) := (own_ox k.1 k.2).1.2.2
theorem own_s {h : Int64} (k : 0 ≤ h.toInt ∧ h.toInt < 4294967296) : OB (dmul (own_x h) (own_x h)) ((F_rm2 h).toInt * (F_rm2 h).toInt / 2048) ((F_rm2 h).toInt * (F_rm2 h).toInt / 2048 + 1) 1021 ∧ DFin (dmul (own_x h) (own_x h)) := by
  have e := own_num k
  have g : 0 ≤ (F_rm2 h).toInt * (F_rm2 h).toInt ∧ (F_rm2 h).toInt * (F_rm2 h).toInt ≤ 18446744065119617025 := by
    have s : (((F_rm2 h).toInt.natAbs * (F_rm2 h).toInt.natAbs : Nat) : Int) = (F_rm2 h).toInt * (F_rm2 h).toInt := Int.natAbs_mul_self
    have t : (F_rm2 h).toInt.natAbs * (F_rm2 h).toInt.natAbs ≤ 4294967295 * 4294967295 := Nat.mul_le_mul (by omega) (by omega)
    omega
  have S := own_sq (own_o k) (own_fx k) (by omega) (by omega)
  exact ⟨S, S.fin (by omega) (by omega) (by decide)⟩
theorem own_na {h : Int64} (k : 0 ≤ h.toInt ∧ h.toInt < 4294967296) : NoNaN64 (FP.dadd (FP.l2d h) (4602678819172646912 : UInt64)) := own_fd (own_ox k.1 k.2).1.1
theorem own_nb {h : Int64} (k : 0 ≤ h.toInt ∧ h.toInt < 4294967296) : NoNaN64 (FP.dmul (FP.dadd (FP.l2d h) (4602678819172646912 : UInt64)) (4467570830351532032 : UInt64)) := own_fd (own_ox k.1 k.2).1.2.1
theorem own_xd (h : Int64) : FP.dsub (FP.dmul (FP.dadd (FP.l2d h) (4602678819172646912 : UInt64)) (4467570830351532032 : UInt64)) FP.dconst1 = own_x h := rfl
theorem own_nc {h : Int64} (k : 0 ≤ h.toInt ∧ h.toInt < 4294967296) : NoNaN64 (FP.dsub (FP.dmul (FP.dadd (FP.l2d h) (4602678819172646912 : UInt64)) (4467570830351532032 : UInt64)) FP.dconst1) := own_fd (own_fx k)
theorem own_nd {h : Int64} (k : 0 ≤ h.toInt ∧ h.toInt < 4294967296) : NoNaN64 (FP.dmul (own_x h) (own_x h)) := own_fd (own_s k).2
theorem own_ne {h g : Int64} (k : 0 ≤ h.toInt ∧ h.toInt < 4294967296) (k' : 0 ≤ g.toInt ∧ g.toInt < 4294967296) : NoNaN64 (FP.dadd (FP.dmul (own_x h) (own_x h)) (FP.dmul (own_x g) (own_x g))) := noNaN64_no.mpr ((notNaN_iff _).mpr (own_nn_add (own_s k).2 (own_s k').2))
theorem own_inq (q : Int64) (h : (F_rm1 q) = (1 : Int32)) : ¬ ((0 : Int32) < cmpValue (FP.dcmp (FP.dadd (FP.dmul (own_x ((q.toUInt64 >>> ((32 : Int32) &&& 0x3f).toInt64.toUInt64).toInt64)) (own_x ((q.toUInt64 >>> ((32 : Int32) &&& 0x3f).toInt64.toUInt64).toInt64))) (FP.dmul (own_x (q &&& (4294967295 : Int64))) (own_x (q &&& (4294967295 : Int64))))) FP.dconst1) .g) := by
  have w := own_w1 q h
  have g := own_in (own_s (own_h1 q)).1 (own_s (own_h2 q)).1 (own_s (own_h1 q)).2 (own_s (own_h2 q)).2 (by omega)
  show ¬ ((0 : Int32) < cmpValue (dcmp (dadd (dmul (own_x ((q.toUInt64 >>> ((32 : Int32) &&& 0x3f).toInt64.toUInt64).toInt64)) (own_x ((q.toUInt64 >>> ((32 : Int32) &&& 0x3f).toInt64.toUInt64).toInt64))) (dmul (own_x (q &&& (4294967295 : Int64))) (own_x (q &&& (4294967295 : Int64))))) dconst1) .g)
  rcases g with g | g <;> rw [g] <;> decide
theorem own_outq (q : Int64) (h : (F_rm1 q) = (-1 : Int32)) : (0 : Int32) < cmpValue (FP.dcmp (FP.dadd (FP.dmul (own_x ((q.toUInt64 >>> ((32 : Int32) &&& 0x3f).toInt64.toUInt64).toInt64)) (own_x ((q.toUInt64 >>> ((32 : Int32) &&& 0x3f).toInt64.toUInt64).toInt64))) (FP.dmul (own_x (q &&& (4294967295 : Int64))) (own_x (q &&& (4294967295 : Int64))))) FP.dconst1) .g := by
  have w := own_w2 q h
  have g := own_out (own_s (own_h1 q)).1 (own_s (own_h2 q)).1 (own_s (own_h1 q)).2 (own_s (own_h2 q)).2 (by omega)
  show (0 : Int32) < cmpValue (dcmp (dadd (dmul (own_x ((q.toUInt64 >>> ((32 : Int32) &&& 0x3f).toInt64.toUInt64).toInt64)) (own_x ((q.toUInt64 >>> ((32 : Int32) &&& 0x3f).toInt64.toUInt64).toInt64))) (dmul (own_x (q &&& (4294967295 : Int64))) (own_x (q &&& (4294967295 : Int64))))) dconst1) .g
  rw [g]; decide
theorem own_nr (q : Int64) : NoNaN64 (FP.ddiv (FP.l2d (F_rm2 ((q.toUInt64 >>> ((32 : Int32) &&& 0x3f).toInt64.toUInt64).toInt64))) (FP.l2d (F_rm2 (q &&& (4294967295 : Int64))))) := Jvm.Free.Fl.ddiv_out (Jvm.Free.Fl.l2d_fin _).noNaN (Jvm.Free.Fl.l2d_fin _) (Jvm.Free.Fl.l2d_nz fun e => (own_b2 q).2.2 (by rw [e]; rfl))
theorem own_rq (q : Int64) : FP.ddiv (own_x ((q.toUInt64 >>> ((32 : Int32) &&& 0x3f).toInt64.toUInt64).toInt64)) (own_x (q &&& (4294967295 : Int64))) = FP.ddiv (FP.l2d (F_rm2 ((q.toUInt64 >>> ((32 : Int32) &&& 0x3f).toInt64.toUInt64).toInt64))) (FP.l2d (F_rm2 (q &&& (4294967295 : Int64)))) := by
  have a := own_b1 q
  have b := own_b2 q
  exact own_quot ⟨by omega, by omega⟩ a.2.2 (own_o (own_h1 q)) ⟨by omega, by omega⟩ b.2.2 (own_o (own_h2 q))
end OwnCb
theorem d5_0 : decode method_4_code 0 = .ok (.lload_n 0, 1) := by decide +kernel
theorem d5_1 : decode method_4_code 1 = .ok (.bipush 32, 2) := by decide +kernel
theorem d5_3 : decode method_4_code 3 = .ok (.lushr, 1) := by decide +kernel
theorem d5_4 : decode method_4_code 4 = .ok (.invokestatic 11, 3) := by decide +kernel
theorem d5_7 : decode method_4_code 7 = .ok (.lstore_n 2, 1) := by decide +kernel
theorem d5_8 : decode method_4_code 8 = .ok (.lload_n 0, 1) := by decide +kernel
theorem d5_9 : decode method_4_code 9 = .ok (.ldc2_w 17, 3) := by decide +kernel
theorem d5_12 : decode method_4_code 12 = .ok (.land, 1) := by decide +kernel
theorem d5_13 : decode method_4_code 13 = .ok (.invokestatic 11, 3) := by decide +kernel
theorem d5_16 : decode method_4_code 16 = .ok (.lstore 4, 2) := by decide +kernel
theorem d5_18 : decode method_4_code 18 = .ok (.lload_n 2, 1) := by decide +kernel
theorem d5_19 : decode method_4_code 19 = .ok (.l2d, 1) := by decide +kernel
theorem d5_20 : decode method_4_code 20 = .ok (.lload 4, 2) := by decide +kernel
theorem d5_22 : decode method_4_code 22 = .ok (.l2d, 1) := by decide +kernel
theorem d5_23 : decode method_4_code 23 = .ok (.ddiv, 1) := by decide +kernel
theorem d5_24 : decode method_4_code 24 = .ok (.dreturn, 1) := by decide +kernel
def F_rm5 (q1 : Int64) : UInt64 := (FP.ddiv (FP.l2d (F_rm2 ((q1.toUInt64 >>> ((32 : Int32) &&& 0x3f).toInt64.toUInt64).toInt64))) (FP.l2d (F_rm2 (q1 &&& (4294967295 : Int64)))))
def Q_rm5 (Z : State) (q1 : Int64) (h0 : Heap) (n0 : Nat) (v : Option Value) (h : Heap) (L : List Loc) : Prop := v = some (.double (F_rm5 q1)) ∧ Fr n0 L ∧ h = h0
theorem ef_rm5 (m : MethodId) (x0 : Int64) : entryFrame m #[(.long x0)] 6 = mkF m 0 #[.val (.long x0), .second, .unset, .unset, .unset, .unset] [] := by first | (simp [entryFrame, mkF, argsToLocals, Value.category]; done) | rfl
set_option maxRecDepth 65536 in
set_option maxHeartbeats 40000000 in
theorem rm5 (l : Launch) (Z : State) (a0 : Array Value) (hw : ∀ d ∈ tables_1, d.before a0 Z = true) (ws : List Jvm.Cond) (q1 : Int64) (h0 : Heap) (n0 : Nat) (Z0 : n0 ≤ h0.size)  :
    MetFree l (⟨"com/example/outlyr/outlyr/detect/WindowSketchCauchyPinLaw", "ratio", "(J)D"⟩ : MethodName) (head1 (Jvm.Cond.code (⟨"com/example/outlyr/outlyr/detect/WindowSketchCauchyPinLaw", "ratio", "(J)D"⟩ : MethodName) method_4_code 6 (some .double) :: ws) ({ frames := 1, cells := 0, slots := 0, locals := 13 } : Room)) (fun a U => a = #[(.long q1)] ∧ Z.Warmed39 U.vm ∧ U.heap = h0) (fun _ _ _ _ _ => True) (fun _ U o U' => ∃ v L, o = .returned v ∧ Q_rm5 Z q1 h0 n0 v U'.heap L ∧ FrameEnd U o U' L ({ frames := 1, cells := 0, slots := 0, locals := 13 } : Room).cells ({ frames := 1, cells := 0, slots := 0, locals := 13 } : Room).slots) := by
  refine MetFree.of_bodySF (plainFor_of_name pn_0) hisR ?_
  intro p e s m args below meth c s₁ Bd hml0 hP hK
  obtain ⟨rfl, hZ, hh⟩ := hP
  have hx := Bd.exec
  have hby := Bd.bytes
  have hml : c.maxLocals = 6 := hml0
  have hown : s.vm.findClass "com/example/outlyr/outlyr/detect/WindowSketchCauchyPinLaw" = some m.cls := findClass_of_methodNamed Bd.named
  have hnm := (name_of_methodNamed Bd.named Bd.method).1
  have X0 : Stand p l e ({ frames := 1, cells := 0, slots := 0, locals := 13 } : Room) s m #[(.long q1)] below meth c s₁ [] 0 0 := Stand.of_body Bd
  have e0 : s₁.heap = h0 := by rw [← hh, Bd.state]; rfl
  have N0 := Fr.nil n0
  show Run p e below s 0 0 (Q_rm5 Z q1 h0 n0) (s₁.setTop (entryFrame m #[(.long q1)] 6))
  refine Run.go (fun _ k => castTop (ef_rm5 m q1) k) ?_
  show Run p e below s 0 0 (Q_rm5 Z q1 h0 n0) (s₁.setTop (mkF m 0 #[.val (.long q1), .second, .unset, .unset, .unset, .unset] []))
  refine Run.go (fun _ k => XS.lloadN X0.here hx rfl (hb hby d5_0) rfl  k) ?_
  show Run p e below s 0 0 (Q_rm5 Z q1 h0 n0) (s₁.setTop (mkF m 1 #[.val (.long q1), .second, .unset, .unset, .unset, .unset] [(.long q1)]))
  refine Run.go (fun _ k => XS.bipush X0.here hx rfl (hb hby d5_1) k) ?_
  show Run p e below s 0 0 (Q_rm5 Z q1 h0 n0) (s₁.setTop (mkF m 3 #[.val (.long q1), .second, .unset, .unset, .unset, .unset] [(.int (32 : Int32)), (.long q1)]))
  refine Run.go (fun _ k => XS.lushr X0.here hx rfl (hb hby d5_3) rfl k) ?_
  show Run p e below s 0 0 (Q_rm5 Z q1 h0 n0) (s₁.setTop (mkF m 4 #[.val (.long q1), .second, .unset, .unset, .unset, .unset] [(.long ((q1.toUInt64 >>> ((32 : Int32) &&& 0x3f).toInt64.toUInt64).toInt64))]))
  obtain ⟨_, _, ⟨T2, L2, k2, n2⟩, -, X2, ⟨Lc2, hQ2, l2, y2, z2⟩, st2⟩ := Jvm.LawKit.callS X0 hx (y := (⟨"com/example/outlyr/outlyr/detect/WindowSketchCauchyPinLaw", "num", "(J)J"⟩ : MethodName)) hown (mvT hZ (hw _ (List.mem_of_getElem? (i := 4) rfl))) (mvT hZ (hw _ (List.mem_of_getElem? (i := 5) rfl))) (mvT hZ (hw _ (List.mem_of_getElem? (i := 2) rfl))) (mvT hZ (hw _ (List.mem_of_getElem? (i := 6) rfl))) (by decide) (backOf (W := 0) (rm2 l Z a0 hw [] ((q1.toUInt64 >>> ((32 : Int32) &&& 0x3f).toInt64.toUInt64).toInt64) h0 n0 Z0 ) hZ (hw _ (List.mem_of_getElem? (i := 6) rfl)) (hw _ (List.mem_of_getElem? (i := 2) rfl)) (by decide) (by decide)) (g := (mkF m 4 #[.val (.long q1), .second, .unset, .unset, .unset, .unset] [(.long ((q1.toUInt64 >>> ((32 : Int32) &&& 0x3f).toInt64.toUInt64).toInt64))])) rfl (by rw [hml]; rfl) (argsL := [(.long ((q1.toUInt64 >>> ((32 : Int32) &&& 0x3f).toInt64.toUInt64).toInt64))]) (rest := []) (lenOf pd_0 rfl) rfl (by show 2 * 0 + _ ≤ _; exact Nat.le_of_eq rfl) (hb hby d5_4) (fun _ _ => ⟨rfl, e0, (by decide : 0 + 0 ≤ _), (by decide : 0 + 0 ≤ _)⟩)
  dsimp only [Pt.U, Pt.locs, Pt.cells, Pt.slots] at X2 l2 y2 z2 st2 hQ2
  subst l2 y2 z2
  obtain ⟨rfl, N2q, e2q⟩ := hQ2
  have N2 := Fr.app N0 N2q
  obtain ⟨Lg2, Xg2, Ng2⟩ := Stand_gen X2 N2
  refine Run.go st2 ?_
  show Run p e below s 0 0 (Q_rm5 Z q1 h0 n0) (T2.setTop (mkF m 7 #[.val (.long q1), .second, .unset, .unset, .unset, .unset] [(.long (F_rm2 ((q1.toUInt64 >>> ((32 : Int32) &&& 0x3f).toInt64.toUInt64).toInt64)))]))
  refine Run.go (fun _ k => XS.lstoreN Xg2.here hx rfl (hb hby d5_7) rfl (l' := #[.val (.long q1), .second, .val (.long (F_rm2 ((q1.toUInt64 >>> ((32 : Int32) &&& 0x3f).toInt64.toUInt64).toInt64))), .second, .unset, .unset]) rfl k) ?_
  show Run p e below s 0 0 (Q_rm5 Z q1 h0 n0) (T2.setTop (mkF m 8 #[.val (.long q1), .second, .val (.long (F_rm2 ((q1.toUInt64 >>> ((32 : Int32) &&& 0x3f).toInt64.toUInt64).toInt64))), .second, .unset, .unset] []))
  refine Run.go (fun _ k => XS.lloadN Xg2.here hx rfl (hb hby d5_8) rfl  k) ?_
  show Run p e below s 0 0 (Q_rm5 Z q1 h0 n0) (T2.setTop (mkF m 9 #[.val (.long q1), .second, .val (.long (F_rm2 ((q1.toUInt64 >>> ((32 : Int32) &&& 0x3f).toInt64.toUInt64).toInt64))), .second, .unset, .unset] [(.long q1)]))
  refine Run.go (fun _ k => Xg2.ldc2Long hx hown (mvT hZ (hw _ (List.mem_of_getElem? (i := 9) rfl))) (g := (mkF m 9 #[.val (.long q1), .second, .val (.long (F_rm2 ((q1.toUInt64 >>> ((32 : Int32) &&& 0x3f).toInt64.toUInt64).toInt64))), .second, .unset, .unset] [(.long q1)])) rfl (hb hby d5_9) _ k) ?_
  show Run p e below s 0 0 (Q_rm5 Z q1 h0 n0) (T2.setTop (mkF m 12 #[.val (.long q1), .second, .val (.long (F_rm2 ((q1.toUInt64 >>> ((32 : Int32) &&& 0x3f).toInt64.toUInt64).toInt64))), .second, .unset, .unset] [(.long (4294967295 : Int64)), (.long q1)]))
  refine Run.go (fun _ k => XS.land Xg2.here hx rfl (hb hby d5_12) rfl k) ?_
  show Run p e below s 0 0 (Q_rm5 Z q1 h0 n0) (T2.setTop (mkF m 13 #[.val (.long q1), .second, .val (.long (F_rm2 ((q1.toUInt64 >>> ((32 : Int32) &&& 0x3f).toInt64.toUInt64).toInt64))), .second, .unset, .unset] [(.long (q1 &&& (4294967295 : Int64)))]))
  obtain ⟨_, _, ⟨T3, L3, k3, n3⟩, -, X3, ⟨Lc3, hQ3, l3, y3, z3⟩, st3⟩ := Jvm.LawKit.callS Xg2 hx (y := (⟨"com/example/outlyr/outlyr/detect/WindowSketchCauchyPinLaw", "num", "(J)J"⟩ : MethodName)) hown (mvT hZ (hw _ (List.mem_of_getElem? (i := 4) rfl))) (mvT hZ (hw _ (List.mem_of_getElem? (i := 5) rfl))) (mvT hZ (hw _ (List.mem_of_getElem? (i := 2) rfl))) (mvT hZ (hw _ (List.mem_of_getElem? (i := 6) rfl))) (by decide) (backOf (W := 0) (rm2 l Z a0 hw [] (q1 &&& (4294967295 : Int64)) h0 n0 Z0 ) hZ (hw _ (List.mem_of_getElem? (i := 6) rfl)) (hw _ (List.mem_of_getElem? (i := 2) rfl)) (by decide) (by decide)) (g := (mkF m 13 #[.val (.long q1), .second, .val (.long (F_rm2 ((q1.toUInt64 >>> ((32 : Int32) &&& 0x3f).toInt64.toUInt64).toInt64))), .second, .unset, .unset] [(.long (q1 &&& (4294967295 : Int64)))])) rfl (by rw [hml]; rfl) (argsL := [(.long (q1 &&& (4294967295 : Int64)))]) (rest := []) (lenOf pd_0 rfl) rfl (by show 2 * 0 + _ ≤ _; exact Nat.le_of_eq rfl) (hb hby d5_13) (fun _ _ => ⟨rfl, e2q, (by decide : 0 + 0 ≤ _), (by decide : 0 + 0 ≤ _)⟩)
  dsimp only [Pt.U, Pt.locs, Pt.cells, Pt.slots] at X3 l3 y3 z3 st3 hQ3
  subst l3 y3 z3
  obtain ⟨rfl, N3q, e3q⟩ := hQ3
  have N3 := Fr.app Ng2 N3q
  obtain ⟨Lg3, Xg3, Ng3⟩ := Stand_gen X3 N3
  refine Run.go st3 ?_
  show Run p e below s 0 0 (Q_rm5 Z q1 h0 n0) (T3.setTop (mkF m 16 #[.val (.long q1), .second, .val (.long (F_rm2 ((q1.toUInt64 >>> ((32 : Int32) &&& 0x3f).toInt64.toUInt64).toInt64))), .second, .unset, .unset] [(.long (F_rm2 (q1 &&& (4294967295 : Int64))))]))
  refine Run.go (fun _ k => XS.lstore Xg3.here hx rfl (hb hby d5_16) rfl (l' := #[.val (.long q1), .second, .val (.long (F_rm2 ((q1.toUInt64 >>> ((32 : Int32) &&& 0x3f).toInt64.toUInt64).toInt64))), .second, .val (.long (F_rm2 (q1 &&& (4294967295 : Int64)))), .second]) rfl k) ?_
  show Run p e below s 0 0 (Q_rm5 Z q1 h0 n0) (T3.setTop (mkF m 18 #[.val (.long q1), .second, .val (.long (F_rm2 ((q1.toUInt64 >>> ((32 : Int32) &&& 0x3f).toInt64.toUInt64).toInt64))), .second, .val (.long (F_rm2 (q1 &&& (4294967295 : Int64)))), .second] []))
  refine Run.go (fun _ k => XS.lloadN Xg3.here hx rfl (hb hby d5_18) rfl  k) ?_
  show Run p e below s 0 0 (Q_rm5 Z q1 h0 n0) (T3.setTop (mkF m 19 #[.val (.long q1), .second, .val (.long (F_rm2 ((q1.toUInt64 >>> ((32 : Int32) &&& 0x3f).toInt64.toUInt64).toInt64))), .second, .val (.long (F_rm2 (q1 &&& (4294967295 : Int64)))), .second] [(.long (F_rm2 ((q1.toUInt64 >>> ((32 : Int32) &&& 0x3f).toInt64.toUInt64).toInt64)))]))
  refine Run.go (fun _ k => XS.l2dS Xg3.here hx rfl (hb hby d5_19) rfl rfl k) ?_
  show Run p e below s 0 0 (Q_rm5 Z q1 h0 n0) (T3.setTop (mkF m 20 #[.val (.long q1), .second, .val (.long (F_rm2 ((q1.toUInt64 >>> ((32 : Int32) &&& 0x3f).toInt64.toUInt64).toInt64))), .second, .val (.long (F_rm2 (q1 &&& (4294967295 : Int64)))), .second] [(.double (FP.l2d (F_rm2 ((q1.toUInt64 >>> ((32 : Int32) &&& 0x3f).toInt64.toUInt64).toInt64))))]))
  refine Run.go (fun _ k => XS.lload Xg3.here hx rfl (hb hby d5_20) rfl  k) ?_
  show Run p e below s 0 0 (Q_rm5 Z q1 h0 n0) (T3.setTop (mkF m 22 #[.val (.long q1), .second, .val (.long (F_rm2 ((q1.toUInt64 >>> ((32 : Int32) &&& 0x3f).toInt64.toUInt64).toInt64))), .second, .val (.long (F_rm2 (q1 &&& (4294967295 : Int64)))), .second] [(.long (F_rm2 (q1 &&& (4294967295 : Int64)))), (.double (FP.l2d (F_rm2 ((q1.toUInt64 >>> ((32 : Int32) &&& 0x3f).toInt64.toUInt64).toInt64))))]))
  refine Run.go (fun _ k => XS.l2dS Xg3.here hx rfl (hb hby d5_22) rfl rfl k) ?_
  show Run p e below s 0 0 (Q_rm5 Z q1 h0 n0) (T3.setTop (mkF m 23 #[.val (.long q1), .second, .val (.long (F_rm2 ((q1.toUInt64 >>> ((32 : Int32) &&& 0x3f).toInt64.toUInt64).toInt64))), .second, .val (.long (F_rm2 (q1 &&& (4294967295 : Int64)))), .second] [(.double (FP.l2d (F_rm2 (q1 &&& (4294967295 : Int64))))), (.double (FP.l2d (F_rm2 ((q1.toUInt64 >>> ((32 : Int32) &&& 0x3f).toInt64.toUInt64).toInt64))))]))
  refine Run.go (fun _ k => XS.ddivS Xg3.here hx rfl (hb hby d5_23) rfl (own_nr _) rfl k) ?_
  show Run p e below s 0 0 (Q_rm5 Z q1 h0 n0) (T3.setTop (mkF m 24 #[.val (.long q1), .second, .val (.long (F_rm2 ((q1.toUInt64 >>> ((32 : Int32) &&& 0x3f).toInt64.toUInt64).toInt64))), .second, .val (.long (F_rm2 (q1 &&& (4294967295 : Int64)))), .second] [(.double (FP.ddiv (FP.l2d (F_rm2 ((q1.toUInt64 >>> ((32 : Int32) &&& 0x3f).toInt64.toUInt64).toInt64))) (FP.l2d (F_rm2 (q1 &&& (4294967295 : Int64))))))]))
  refine Run.retD Xg3 hx Bd.returns Bd.notSynchronized (hb hby d5_24) (by decide) (by decide) ?_
  show Q_rm5 Z q1 h0 n0 _ T3.heap _
  exact ⟨congrArg some (congrArg Value.double (show (FP.ddiv (FP.l2d (F_rm2 ((q1.toUInt64 >>> ((32 : Int32) &&& 0x3f).toInt64.toUInt64).toInt64))) (FP.l2d (F_rm2 (q1 &&& (4294967295 : Int64))))) = (F_rm5 q1) from (by unfold F_rm5; rfl))), Ng3, e3q⟩
theorem own_rat (q : Int64) : FP.ddiv (own_x ((q.toUInt64 >>> ((32 : Int32) &&& 0x3f).toInt64.toUInt64).toInt64)) (own_x (q &&& (4294967295 : Int64))) = F_rm5 q := own_rq q
theorem own_nrf (q : Int64) : Jvm.Free.Fl.NoNaN64 (F_rm5 q) := own_nr q
theorem own_nq (q : Int64) : Jvm.Free.Fl.NoNaN64 (FP.ddiv (own_x ((q.toUInt64 >>> ((32 : Int32) &&& 0x3f).toInt64.toUInt64).toInt64)) (own_x (q &&& (4294967295 : Int64)))) := by rw [own_rat]; exact own_nrf q
theorem d4_0 : decode prog_12_method_7_code 0 = .ok (.lload_n 0, 1) := by decide +kernel
theorem d4_1 : decode prog_12_method_7_code 1 = .ok (.lstore_n 2, 1) := by decide +kernel
theorem d4_2 : decode prog_12_method_7_code 2 = .ok (.lload_n 2, 1) := by decide +kernel
theorem d4_3 : decode prog_12_method_7_code 3 = .ok (.bipush 32, 2) := by decide +kernel
theorem d4_5 : decode prog_12_method_7_code 5 = .ok (.lushr, 1) := by decide +kernel
theorem d4_6 : decode prog_12_method_7_code 6 = .ok (.l2d, 1) := by decide +kernel
theorem d4_7 : decode prog_12_method_7_code 7 = .ok (.ldc2_w 137, 3) := by decide +kernel
theorem d4_10 : decode prog_12_method_7_code 10 = .ok (.dadd, 1) := by decide +kernel
theorem d4_11 : decode prog_12_method_7_code 11 = .ok (.ldc2_w 139, 3) := by decide +kernel
theorem d4_14 : decode prog_12_method_7_code 14 = .ok (.dmul, 1) := by decide +kernel
theorem d4_15 : decode prog_12_method_7_code 15 = .ok (.dconst 1, 1) := by decide +kernel
theorem d4_16 : decode prog_12_method_7_code 16 = .ok (.dsub, 1) := by decide +kernel
theorem d4_17 : decode prog_12_method_7_code 17 = .ok (.dstore 4, 2) := by decide +kernel
theorem d4_19 : decode prog_12_method_7_code 19 = .ok (.lload_n 2, 1) := by decide +kernel
theorem d4_20 : decode prog_12_method_7_code 20 = .ok (.ldc2_w 141, 3) := by decide +kernel
theorem d4_23 : decode prog_12_method_7_code 23 = .ok (.land, 1) := by decide +kernel
theorem d4_24 : decode prog_12_method_7_code 24 = .ok (.l2d, 1) := by decide +kernel
theorem d4_25 : decode prog_12_method_7_code 25 = .ok (.ldc2_w 137, 3) := by decide +kernel
theorem d4_28 : decode prog_12_method_7_code 28 = .ok (.dadd, 1) := by decide +kernel
theorem d4_29 : decode prog_12_method_7_code 29 = .ok (.ldc2_w 139, 3) := by decide +kernel
theorem d4_32 : decode prog_12_method_7_code 32 = .ok (.dmul, 1) := by decide +kernel
theorem d4_33 : decode prog_12_method_7_code 33 = .ok (.dconst 1, 1) := by decide +kernel
theorem d4_34 : decode prog_12_method_7_code 34 = .ok (.dsub, 1) := by decide +kernel
theorem d4_35 : decode prog_12_method_7_code 35 = .ok (.dstore 6, 2) := by decide +kernel
theorem d4_37 : decode prog_12_method_7_code 37 = .ok (.dload 4, 2) := by decide +kernel
theorem d4_39 : decode prog_12_method_7_code 39 = .ok (.dload 4, 2) := by decide +kernel
theorem d4_41 : decode prog_12_method_7_code 41 = .ok (.dmul, 1) := by decide +kernel
theorem d4_42 : decode prog_12_method_7_code 42 = .ok (.dload 6, 2) := by decide +kernel
theorem d4_44 : decode prog_12_method_7_code 44 = .ok (.dload 6, 2) := by decide +kernel
theorem d4_46 : decode prog_12_method_7_code 46 = .ok (.dmul, 1) := by decide +kernel
theorem d4_47 : decode prog_12_method_7_code 47 = .ok (.dadd, 1) := by decide +kernel
theorem d4_48 : decode prog_12_method_7_code 48 = .ok (.dconst 1, 1) := by decide +kernel
theorem d4_49 : decode prog_12_method_7_code 49 = .ok (.dcmp .g, 1) := by decide +kernel
theorem d4_50 : decode prog_12_method_7_code 50 = .ok (.ifCond .gt 9, 3) := by decide +kernel
theorem d4_53 : decode prog_12_method_7_code 53 = .ok (.dload 4, 2) := by decide +kernel
theorem d4_55 : decode prog_12_method_7_code 55 = .ok (.dload 6, 2) := by decide +kernel
theorem d4_57 : decode prog_12_method_7_code 57 = .ok (.ddiv, 1) := by decide +kernel
theorem d4_58 : decode prog_12_method_7_code 58 = .ok (.dreturn, 1) := by decide +kernel
def Q_rm4a (Z : State) (q1 : Int64) (h0 : Heap) (n0 : Nat) (v : Option Value) (h : Heap) (L : List Loc) : Prop := v = some (.double (F_rm5 q1)) ∧ Fr n0 L ∧ h = h0
theorem ef_rm4a (m : MethodId) (x0 : Int64) : entryFrame m #[(.long x0)] 8 = mkF m 0 #[.val (.long x0), .second, .unset, .unset, .unset, .unset, .unset, .unset] [] := by first | (simp [entryFrame, mkF, argsToLocals, Value.category]; done) | rfl
theorem pn_2 : plainName "com/example/outlyr/outlyr/detect/WindowSketch" = true := by first | (simp [plainName, overriddenIn]; done) | decide +kernel
set_option maxRecDepth 65536 in
set_option maxHeartbeats 40000000 in
theorem rm4a (l : Launch) (Z : State) (a0 : Array Value) (hw : ∀ d ∈ tables_1, d.before a0 Z = true) (ws : List Jvm.Cond) (q1 : Int64) (h0 : Heap) (n0 : Nat) (Z0 : n0 ≤ h0.size) (hA : (F_rm1 q1) = (1 : Int32)) :
    MetFree l (⟨"com/example/outlyr/outlyr/detect/WindowSketch", "cauchy", "(J)D"⟩ : MethodName) (head1 (Jvm.Cond.code (⟨"com/example/outlyr/outlyr/detect/WindowSketch", "cauchy", "(J)D"⟩ : MethodName) prog_12_method_7_code 8 (some .double) :: ws) ({ frames := 0, cells := 0, slots := 0, locals := 0 } : Room)) (fun a U => a = #[(.long q1)] ∧ Z.Warmed39 U.vm ∧ U.heap = h0) (fun _ _ _ _ _ => True) (fun _ U o U' => ∃ v L, o = .returned v ∧ Q_rm4a Z q1 h0 n0 v U'.heap L ∧ FrameEnd U o U' L ({ frames := 0, cells := 0, slots := 0, locals := 0 } : Room).cells ({ frames := 0, cells := 0, slots := 0, locals := 0 } : Room).slots) := by
  refine MetFree.of_bodySF (plainFor_of_name pn_2) hisR ?_
  intro p e s m args below meth c s₁ Bd hml0 hP hK
  obtain ⟨rfl, hZ, hh⟩ := hP
  have hx := Bd.exec
  have hby := Bd.bytes
  have hml : c.maxLocals = 8 := hml0
  have hown : s.vm.findClass "com/example/outlyr/outlyr/detect/WindowSketch" = some m.cls := findClass_of_methodNamed Bd.named
  have hnm := (name_of_methodNamed Bd.named Bd.method).1
  have X0 : Stand p l e ({ frames := 0, cells := 0, slots := 0, locals := 0 } : Room) s m #[(.long q1)] below meth c s₁ [] 0 0 := Stand.of_body Bd
  have e0 : s₁.heap = h0 := by rw [← hh, Bd.state]; rfl
  have N0 := Fr.nil n0
  show Run p e below s 0 0 (Q_rm4a Z q1 h0 n0) (s₁.setTop (entryFrame m #[(.long q1)] 8))
  refine Run.go (fun _ k => castTop (ef_rm4a m q1) k) ?_
  show Run p e below s 0 0 (Q_rm4a Z q1 h0 n0) (s₁.setTop (mkF m 0 #[.val (.long q1), .second, .unset, .unset, .unset, .unset, .unset, .unset] []))
  refine Run.go (fun _ k => XS.lloadN X0.here hx rfl (hb hby d4_0) rfl  k) ?_
  show Run p e below s 0 0 (Q_rm4a Z q1 h0 n0) (s₁.setTop (mkF m 1 #[.val (.long q1), .second, .unset, .unset, .unset, .unset, .unset, .unset] [(.long q1)]))
  refine Run.go (fun _ k => XS.lstoreN X0.here hx rfl (hb hby d4_1) rfl (l' := #[.val (.long q1), .second, .val (.long q1), .second, .unset, .unset, .unset, .unset]) rfl k) ?_
  show Run p e below s 0 0 (Q_rm4a Z q1 h0 n0) (s₁.setTop (mkF m 2 #[.val (.long q1), .second, .val (.long q1), .second, .unset, .unset, .unset, .unset] []))
  refine Run.go (fun _ k => XS.lloadN X0.here hx rfl (hb hby d4_2) rfl  k) ?_
  show Run p e below s 0 0 (Q_rm4a Z q1 h0 n0) (s₁.setTop (mkF m 3 #[.val (.long q1), .second, .val (.long q1), .second, .unset, .unset, .unset, .unset] [(.long q1)]))
  refine Run.go (fun _ k => XS.bipush X0.here hx rfl (hb hby d4_3) k) ?_
  show Run p e below s 0 0 (Q_rm4a Z q1 h0 n0) (s₁.setTop (mkF m 5 #[.val (.long q1), .second, .val (.long q1), .second, .unset, .unset, .unset, .unset] [(.int (32 : Int32)), (.long q1)]))
  refine Run.go (fun _ k => XS.lushr X0.here hx rfl (hb hby d4_5) rfl k) ?_
  show Run p e below s 0 0 (Q_rm4a Z q1 h0 n0) (s₁.setTop (mkF m 6 #[.val (.long q1), .second, .val (.long q1), .second, .unset, .unset, .unset, .unset] [(.long ((q1.toUInt64 >>> ((32 : Int32) &&& 0x3f).toInt64.toUInt64).toInt64))]))
  refine Run.go (fun _ k => XS.l2dS X0.here hx rfl (hb hby d4_6) rfl rfl k) ?_
  show Run p e below s 0 0 (Q_rm4a Z q1 h0 n0) (s₁.setTop (mkF m 7 #[.val (.long q1), .second, .val (.long q1), .second, .unset, .unset, .unset, .unset] [(.double (FP.l2d ((q1.toUInt64 >>> ((32 : Int32) &&& 0x3f).toInt64.toUInt64).toInt64)))]))
  refine Run.go (fun _ k => X0.ldc2DoubleC hx hown (mvT hZ (hw _ (List.mem_of_getElem? (i := 23) rfl))) (g := (mkF m 7 #[.val (.long q1), .second, .val (.long q1), .second, .unset, .unset, .unset, .unset] [(.double (FP.l2d ((q1.toUInt64 >>> ((32 : Int32) &&& 0x3f).toInt64.toUInt64).toInt64)))])) rfl (hb hby d4_7) _ k) ?_
  show Run p e below s 0 0 (Q_rm4a Z q1 h0 n0) (s₁.setTop (mkF m 10 #[.val (.long q1), .second, .val (.long q1), .second, .unset, .unset, .unset, .unset] [(.double (4602678819172646912 : UInt64)), (.double (FP.l2d ((q1.toUInt64 >>> ((32 : Int32) &&& 0x3f).toInt64.toUInt64).toInt64)))]))
  refine Run.go (fun _ k => XS.daddS X0.here hx rfl (hb hby d4_10) rfl (own_na (own_h1 _)) rfl k) ?_
  show Run p e below s 0 0 (Q_rm4a Z q1 h0 n0) (s₁.setTop (mkF m 11 #[.val (.long q1), .second, .val (.long q1), .second, .unset, .unset, .unset, .unset] [(.double (FP.dadd (FP.l2d ((q1.toUInt64 >>> ((32 : Int32) &&& 0x3f).toInt64.toUInt64).toInt64)) (4602678819172646912 : UInt64)))]))
  refine Run.go (fun _ k => X0.ldc2DoubleC hx hown (mvT hZ (hw _ (List.mem_of_getElem? (i := 24) rfl))) (g := (mkF m 11 #[.val (.long q1), .second, .val (.long q1), .second, .unset, .unset, .unset, .unset] [(.double (FP.dadd (FP.l2d ((q1.toUInt64 >>> ((32 : Int32) &&& 0x3f).toInt64.toUInt64).toInt64)) (4602678819172646912 : UInt64)))])) rfl (hb hby d4_11) _ k) ?_
  show Run p e below s 0 0 (Q_rm4a Z q1 h0 n0) (s₁.setTop (mkF m 14 #[.val (.long q1), .second, .val (.long q1), .second, .unset, .unset, .unset, .unset] [(.double (4467570830351532032 : UInt64)), (.double (FP.dadd (FP.l2d ((q1.toUInt64 >>> ((32 : Int32) &&& 0x3f).toInt64.toUInt64).toInt64)) (4602678819172646912 : UInt64)))]))
  refine Run.go (fun _ k => XS.dmulS X0.here hx rfl (hb hby d4_14) rfl (own_nb (own_h1 _)) rfl k) ?_
  show Run p e below s 0 0 (Q_rm4a Z q1 h0 n0) (s₁.setTop (mkF m 15 #[.val (.long q1), .second, .val (.long q1), .second, .unset, .unset, .unset, .unset] [(.double (FP.dmul (FP.dadd (FP.l2d ((q1.toUInt64 >>> ((32 : Int32) &&& 0x3f).toInt64.toUInt64).toInt64)) (4602678819172646912 : UInt64)) (4467570830351532032 : UInt64)))]))
  refine Run.go (fun _ k => XS.dconst1 X0.here hx rfl (hb hby d4_15) rfl k) ?_
  show Run p e below s 0 0 (Q_rm4a Z q1 h0 n0) (s₁.setTop (mkF m 16 #[.val (.long q1), .second, .val (.long q1), .second, .unset, .unset, .unset, .unset] [(.double FP.dconst1), (.double (FP.dmul (FP.dadd (FP.l2d ((q1.toUInt64 >>> ((32 : Int32) &&& 0x3f).toInt64.toUInt64).toInt64)) (4602678819172646912 : UInt64)) (4467570830351532032 : UInt64)))]))
  refine Run.go (fun _ k => XS.dsubS X0.here hx rfl (hb hby d4_16) rfl (own_nc (own_h1 _)) (own_xd _) k) ?_
  show Run p e below s 0 0 (Q_rm4a Z q1 h0 n0) (s₁.setTop (mkF m 17 #[.val (.long q1), .second, .val (.long q1), .second, .unset, .unset, .unset, .unset] [(.double (own_x ((q1.toUInt64 >>> ((32 : Int32) &&& 0x3f).toInt64.toUInt64).toInt64)))]))
  refine Run.go (fun _ k => XS.dstore X0.here hx rfl (hb hby d4_17) rfl (l' := #[.val (.long q1), .second, .val (.long q1), .second, .val (.double (own_x ((q1.toUInt64 >>> ((32 : Int32) &&& 0x3f).toInt64.toUInt64).toInt64))), .second, .unset, .unset]) rfl k) ?_
  show Run p e below s 0 0 (Q_rm4a Z q1 h0 n0) (s₁.setTop (mkF m 19 #[.val (.long q1), .second, .val (.long q1), .second, .val (.double (own_x ((q1.toUInt64 >>> ((32 : Int32) &&& 0x3f).toInt64.toUInt64).toInt64))), .second, .unset, .unset] []))
  refine Run.go (fun _ k => XS.lloadN X0.here hx rfl (hb hby d4_19) rfl  k) ?_
  show Run p e below s 0 0 (Q_rm4a Z q1 h0 n0) (s₁.setTop (mkF m 20 #[.val (.long q1), .second, .val (.long q1), .second, .val (.double (own_x ((q1.toUInt64 >>> ((32 : Int32) &&& 0x3f).toInt64.toUInt64).toInt64))), .second, .unset, .unset] [(.long q1)]))
  refine Run.go (fun _ k => X0.ldc2Long hx hown (mvT hZ (hw _ (List.mem_of_getElem? (i := 25) rfl))) (g := (mkF m 20 #[.val (.long q1), .second, .val (.long q1), .second, .val (.double (own_x ((q1.toUInt64 >>> ((32 : Int32) &&& 0x3f).toInt64.toUInt64).toInt64))), .second, .unset, .unset] [(.long q1)])) rfl (hb hby d4_20) _ k) ?_
  show Run p e below s 0 0 (Q_rm4a Z q1 h0 n0) (s₁.setTop (mkF m 23 #[.val (.long q1), .second, .val (.long q1), .second, .val (.double (own_x ((q1.toUInt64 >>> ((32 : Int32) &&& 0x3f).toInt64.toUInt64).toInt64))), .second, .unset, .unset] [(.long (4294967295 : Int64)), (.long q1)]))
  refine Run.go (fun _ k => XS.land X0.here hx rfl (hb hby d4_23) rfl k) ?_
  show Run p e below s 0 0 (Q_rm4a Z q1 h0 n0) (s₁.setTop (mkF m 24 #[.val (.long q1), .second, .val (.long q1), .second, .val (.double (own_x ((q1.toUInt64 >>> ((32 : Int32) &&& 0x3f).toInt64.toUInt64).toInt64))), .second, .unset, .unset] [(.long (q1 &&& (4294967295 : Int64)))]))
  refine Run.go (fun _ k => XS.l2dS X0.here hx rfl (hb hby d4_24) rfl rfl k) ?_
  show Run p e below s 0 0 (Q_rm4a Z q1 h0 n0) (s₁.setTop (mkF m 25 #[.val (.long q1), .second, .val (.long q1), .second, .val (.double (own_x ((q1.toUInt64 >>> ((32 : Int32) &&& 0x3f).toInt64.toUInt64).toInt64))), .second, .unset, .unset] [(.double (FP.l2d (q1 &&& (4294967295 : Int64))))]))
  refine Run.go (fun _ k => X0.ldc2DoubleC hx hown (mvT hZ (hw _ (List.mem_of_getElem? (i := 23) rfl))) (g := (mkF m 25 #[.val (.long q1), .second, .val (.long q1), .second, .val (.double (own_x ((q1.toUInt64 >>> ((32 : Int32) &&& 0x3f).toInt64.toUInt64).toInt64))), .second, .unset, .unset] [(.double (FP.l2d (q1 &&& (4294967295 : Int64))))])) rfl (hb hby d4_25) _ k) ?_
  show Run p e below s 0 0 (Q_rm4a Z q1 h0 n0) (s₁.setTop (mkF m 28 #[.val (.long q1), .second, .val (.long q1), .second, .val (.double (own_x ((q1.toUInt64 >>> ((32 : Int32) &&& 0x3f).toInt64.toUInt64).toInt64))), .second, .unset, .unset] [(.double (4602678819172646912 : UInt64)), (.double (FP.l2d (q1 &&& (4294967295 : Int64))))]))
  refine Run.go (fun _ k => XS.daddS X0.here hx rfl (hb hby d4_28) rfl (own_na (own_h2 _)) rfl k) ?_
  show Run p e below s 0 0 (Q_rm4a Z q1 h0 n0) (s₁.setTop (mkF m 29 #[.val (.long q1), .second, .val (.long q1), .second, .val (.double (own_x ((q1.toUInt64 >>> ((32 : Int32) &&& 0x3f).toInt64.toUInt64).toInt64))), .second, .unset, .unset] [(.double (FP.dadd (FP.l2d (q1 &&& (4294967295 : Int64))) (4602678819172646912 : UInt64)))]))
  refine Run.go (fun _ k => X0.ldc2DoubleC hx hown (mvT hZ (hw _ (List.mem_of_getElem? (i := 24) rfl))) (g := (mkF m 29 #[.val (.long q1), .second, .val (.long q1), .second, .val (.double (own_x ((q1.toUInt64 >>> ((32 : Int32) &&& 0x3f).toInt64.toUInt64).toInt64))), .second, .unset, .unset] [(.double (FP.dadd (FP.l2d (q1 &&& (4294967295 : Int64))) (4602678819172646912 : UInt64)))])) rfl (hb hby d4_29) _ k) ?_
  show Run p e below s 0 0 (Q_rm4a Z q1 h0 n0) (s₁.setTop (mkF m 32 #[.val (.long q1), .second, .val (.long q1), .second, .val (.double (own_x ((q1.toUInt64 >>> ((32 : Int32) &&& 0x3f).toInt64.toUInt64).toInt64))), .second, .unset, .unset] [(.double (4467570830351532032 : UInt64)), (.double (FP.dadd (FP.l2d (q1 &&& (4294967295 : Int64))) (4602678819172646912 : UInt64)))]))
  refine Run.go (fun _ k => XS.dmulS X0.here hx rfl (hb hby d4_32) rfl (own_nb (own_h2 _)) rfl k) ?_
  show Run p e below s 0 0 (Q_rm4a Z q1 h0 n0) (s₁.setTop (mkF m 33 #[.val (.long q1), .second, .val (.long q1), .second, .val (.double (own_x ((q1.toUInt64 >>> ((32 : Int32) &&& 0x3f).toInt64.toUInt64).toInt64))), .second, .unset, .unset] [(.double (FP.dmul (FP.dadd (FP.l2d (q1 &&& (4294967295 : Int64))) (4602678819172646912 : UInt64)) (4467570830351532032 : UInt64)))]))
  refine Run.go (fun _ k => XS.dconst1 X0.here hx rfl (hb hby d4_33) rfl k) ?_
  show Run p e below s 0 0 (Q_rm4a Z q1 h0 n0) (s₁.setTop (mkF m 34 #[.val (.long q1), .second, .val (.long q1), .second, .val (.double (own_x ((q1.toUInt64 >>> ((32 : Int32) &&& 0x3f).toInt64.toUInt64).toInt64))), .second, .unset, .unset] [(.double FP.dconst1), (.double (FP.dmul (FP.dadd (FP.l2d (q1 &&& (4294967295 : Int64))) (4602678819172646912 : UInt64)) (4467570830351532032 : UInt64)))]))
  refine Run.go (fun _ k => XS.dsubS X0.here hx rfl (hb hby d4_34) rfl (own_nc (own_h2 _)) (own_xd _) k) ?_
  show Run p e below s 0 0 (Q_rm4a Z q1 h0 n0) (s₁.setTop (mkF m 35 #[.val (.long q1), .second, .val (.long q1), .second, .val (.double (own_x ((q1.toUInt64 >>> ((32 : Int32) &&& 0x3f).toInt64.toUInt64).toInt64))), .second, .unset, .unset] [(.double (own_x (q1 &&& (4294967295 : Int64))))]))
  refine Run.go (fun _ k => XS.dstore X0.here hx rfl (hb hby d4_35) rfl (l' := #[.val (.long q1), .second, .val (.long q1), .second, .val (.double (own_x ((q1.toUInt64 >>> ((32 : Int32) &&& 0x3f).toInt64.toUInt64).toInt64))), .second, .val (.double (own_x (q1 &&& (4294967295 : Int64)))), .second]) rfl k) ?_
  show Run p e below s 0 0 (Q_rm4a Z q1 h0 n0) (s₁.setTop (mkF m 37 #[.val (.long q1), .second, .val (.long q1), .second, .val (.double (own_x ((q1.toUInt64 >>> ((32 : Int32) &&& 0x3f).toInt64.toUInt64).toInt64))), .second, .val (.double (own_x (q1 &&& (4294967295 : Int64)))), .second] []))
  refine Run.go (fun _ k => XS.dload X0.here hx rfl (hb hby d4_37) rfl  k) ?_
  show Run p e below s 0 0 (Q_rm4a Z q1 h0 n0) (s₁.setTop (mkF m 39 #[.val (.long q1), .second, .val (.long q1), .second, .val (.double (own_x ((q1.toUInt64 >>> ((32 : Int32) &&& 0x3f).toInt64.toUInt64).toInt64))), .second, .val (.double (own_x (q1 &&& (4294967295 : Int64)))), .second] [(.double (own_x ((q1.toUInt64 >>> ((32 : Int32) &&& 0x3f).toInt64.toUInt64).toInt64)))]))
  refine Run.go (fun _ k => XS.dload X0.here hx rfl (hb hby d4_39) rfl  k) ?_
  show Run p e below s 0 0 (Q_rm4a Z q1 h0 n0) (s₁.setTop (mkF m 41 #[.val (.long q1), .second, .val (.long q1), .second, .val (.double (own_x ((q1.toUInt64 >>> ((32 : Int32) &&& 0x3f).toInt64.toUInt64).toInt64))), .second, .val (.double (own_x (q1 &&& (4294967295 : Int64)))), .second] [(.double (own_x ((q1.toUInt64 >>> ((32 : Int32) &&& 0x3f).toInt64.toUInt64).toInt64))), (.double (own_x ((q1.toUInt64 >>> ((32 : Int32) &&& 0x3f).toInt64.toUInt64).toInt64)))]))
  refine Run.go (fun _ k => XS.dmulS X0.here hx rfl (hb hby d4_41) rfl (own_nd (own_h1 _)) rfl k) ?_
  show Run p e below s 0 0 (Q_rm4a Z q1 h0 n0) (s₁.setTop (mkF m 42 #[.val (.long q1), .second, .val (.long q1), .second, .val (.double (own_x ((q1.toUInt64 >>> ((32 : Int32) &&& 0x3f).toInt64.toUInt64).toInt64))), .second, .val (.double (own_x (q1 &&& (4294967295 : Int64)))), .second] [(.double (FP.dmul (own_x ((q1.toUInt64 >>> ((32 : Int32) &&& 0x3f).toInt64.toUInt64).toInt64)) (own_x ((q1.toUInt64 >>> ((32 : Int32) &&& 0x3f).toInt64.toUInt64).toInt64))))]))
  refine Run.go (fun _ k => XS.dload X0.here hx rfl (hb hby d4_42) rfl  k) ?_
  show Run p e below s 0 0 (Q_rm4a Z q1 h0 n0) (s₁.setTop (mkF m 44 #[.val (.long q1), .second, .val (.long q1), .second, .val (.double (own_x ((q1.toUInt64 >>> ((32 : Int32) &&& 0x3f).toInt64.toUInt64).toInt64))), .second, .val (.double (own_x (q1 &&& (4294967295 : Int64)))), .second] [(.double (own_x (q1 &&& (4294967295 : Int64)))), (.double (FP.dmul (own_x ((q1.toUInt64 >>> ((32 : Int32) &&& 0x3f).toInt64.toUInt64).toInt64)) (own_x ((q1.toUInt64 >>> ((32 : Int32) &&& 0x3f).toInt64.toUInt64).toInt64))))]))
  refine Run.go (fun _ k => XS.dload X0.here hx rfl (hb hby d4_44) rfl  k) ?_
  show Run p e below s 0 0 (Q_rm4a Z q1 h0 n0) (s₁.setTop (mkF m 46 #[.val (.long q1), .second, .val (.long q1), .second, .val (.double (own_x ((q1.toUInt64 >>> ((32 : Int32) &&& 0x3f).toInt64.toUInt64).toInt64))), .second, .val (.double (own_x (q1 &&& (4294967295 : Int64)))), .second] [(.double (own_x (q1 &&& (4294967295 : Int64)))), (.double (own_x (q1 &&& (4294967295 : Int64)))), (.double (FP.dmul (own_x ((q1.toUInt64 >>> ((32 : Int32) &&& 0x3f).toInt64.toUInt64).toInt64)) (own_x ((q1.toUInt64 >>> ((32 : Int32) &&& 0x3f).toInt64.toUInt64).toInt64))))]))
  refine Run.go (fun _ k => XS.dmulS X0.here hx rfl (hb hby d4_46) rfl (own_nd (own_h2 _)) rfl k) ?_
  show Run p e below s 0 0 (Q_rm4a Z q1 h0 n0) (s₁.setTop (mkF m 47 #[.val (.long q1), .second, .val (.long q1), .second, .val (.double (own_x ((q1.toUInt64 >>> ((32 : Int32) &&& 0x3f).toInt64.toUInt64).toInt64))), .second, .val (.double (own_x (q1 &&& (4294967295 : Int64)))), .second] [(.double (FP.dmul (own_x (q1 &&& (4294967295 : Int64))) (own_x (q1 &&& (4294967295 : Int64))))), (.double (FP.dmul (own_x ((q1.toUInt64 >>> ((32 : Int32) &&& 0x3f).toInt64.toUInt64).toInt64)) (own_x ((q1.toUInt64 >>> ((32 : Int32) &&& 0x3f).toInt64.toUInt64).toInt64))))]))
  refine Run.go (fun _ k => XS.daddS X0.here hx rfl (hb hby d4_47) rfl (own_ne (own_h1 _) (own_h2 _)) rfl k) ?_
  show Run p e below s 0 0 (Q_rm4a Z q1 h0 n0) (s₁.setTop (mkF m 48 #[.val (.long q1), .second, .val (.long q1), .second, .val (.double (own_x ((q1.toUInt64 >>> ((32 : Int32) &&& 0x3f).toInt64.toUInt64).toInt64))), .second, .val (.double (own_x (q1 &&& (4294967295 : Int64)))), .second] [(.double (FP.dadd (FP.dmul (own_x ((q1.toUInt64 >>> ((32 : Int32) &&& 0x3f).toInt64.toUInt64).toInt64)) (own_x ((q1.toUInt64 >>> ((32 : Int32) &&& 0x3f).toInt64.toUInt64).toInt64))) (FP.dmul (own_x (q1 &&& (4294967295 : Int64))) (own_x (q1 &&& (4294967295 : Int64))))))]))
  refine Run.go (fun _ k => XS.dconst1 X0.here hx rfl (hb hby d4_48) rfl k) ?_
  show Run p e below s 0 0 (Q_rm4a Z q1 h0 n0) (s₁.setTop (mkF m 49 #[.val (.long q1), .second, .val (.long q1), .second, .val (.double (own_x ((q1.toUInt64 >>> ((32 : Int32) &&& 0x3f).toInt64.toUInt64).toInt64))), .second, .val (.double (own_x (q1 &&& (4294967295 : Int64)))), .second] [(.double FP.dconst1), (.double (FP.dadd (FP.dmul (own_x ((q1.toUInt64 >>> ((32 : Int32) &&& 0x3f).toInt64.toUInt64).toInt64)) (own_x ((q1.toUInt64 >>> ((32 : Int32) &&& 0x3f).toInt64.toUInt64).toInt64))) (FP.dmul (own_x (q1 &&& (4294967295 : Int64))) (own_x (q1 &&& (4294967295 : Int64))))))]))
  refine Run.go (fun _ k => XS.dcmpS X0.here hx rfl (hb hby d4_49) rfl rfl k) ?_
  show Run p e below s 0 0 (Q_rm4a Z q1 h0 n0) (s₁.setTop (mkF m 50 #[.val (.long q1), .second, .val (.long q1), .second, .val (.double (own_x ((q1.toUInt64 >>> ((32 : Int32) &&& 0x3f).toInt64.toUInt64).toInt64))), .second, .val (.double (own_x (q1 &&& (4294967295 : Int64)))), .second] [(.int (cmpValue (FP.dcmp (FP.dadd (FP.dmul (own_x ((q1.toUInt64 >>> ((32 : Int32) &&& 0x3f).toInt64.toUInt64).toInt64)) (own_x ((q1.toUInt64 >>> ((32 : Int32) &&& 0x3f).toInt64.toUInt64).toInt64))) (FP.dmul (own_x (q1 &&& (4294967295 : Int64))) (own_x (q1 &&& (4294967295 : Int64))))) FP.dconst1) .g))]))
  refine Run.go (fun _ k => XS.ifNo X0.here hx rfl (hb hby d4_50) rfl ((if0 _ _).trans (flt (own_inq _ hA)).2.2.1) k) ?_
  show Run p e below s 0 0 (Q_rm4a Z q1 h0 n0) (s₁.setTop (mkF m 53 #[.val (.long q1), .second, .val (.long q1), .second, .val (.double (own_x ((q1.toUInt64 >>> ((32 : Int32) &&& 0x3f).toInt64.toUInt64).toInt64))), .second, .val (.double (own_x (q1 &&& (4294967295 : Int64)))), .second] []))
  refine Run.go (fun _ k => XS.dload X0.here hx rfl (hb hby d4_53) rfl  k) ?_
  show Run p e below s 0 0 (Q_rm4a Z q1 h0 n0) (s₁.setTop (mkF m 55 #[.val (.long q1), .second, .val (.long q1), .second, .val (.double (own_x ((q1.toUInt64 >>> ((32 : Int32) &&& 0x3f).toInt64.toUInt64).toInt64))), .second, .val (.double (own_x (q1 &&& (4294967295 : Int64)))), .second] [(.double (own_x ((q1.toUInt64 >>> ((32 : Int32) &&& 0x3f).toInt64.toUInt64).toInt64)))]))
  refine Run.go (fun _ k => XS.dload X0.here hx rfl (hb hby d4_55) rfl  k) ?_
  show Run p e below s 0 0 (Q_rm4a Z q1 h0 n0) (s₁.setTop (mkF m 57 #[.val (.long q1), .second, .val (.long q1), .second, .val (.double (own_x ((q1.toUInt64 >>> ((32 : Int32) &&& 0x3f).toInt64.toUInt64).toInt64))), .second, .val (.double (own_x (q1 &&& (4294967295 : Int64)))), .second] [(.double (own_x (q1 &&& (4294967295 : Int64)))), (.double (own_x ((q1.toUInt64 >>> ((32 : Int32) &&& 0x3f).toInt64.toUInt64).toInt64)))]))
  refine Run.go (fun _ k => XS.ddivS X0.here hx rfl (hb hby d4_57) rfl (own_nq _) (own_rat _) k) ?_
  show Run p e below s 0 0 (Q_rm4a Z q1 h0 n0) (s₁.setTop (mkF m 58 #[.val (.long q1), .second, .val (.long q1), .second, .val (.double (own_x ((q1.toUInt64 >>> ((32 : Int32) &&& 0x3f).toInt64.toUInt64).toInt64))), .second, .val (.double (own_x (q1 &&& (4294967295 : Int64)))), .second] [(.double (F_rm5 q1))]))
  refine Run.retD X0 hx Bd.returns Bd.notSynchronized (hb hby d4_58) (by decide) (by decide) ?_
  show Q_rm4a Z q1 h0 n0 _ s₁.heap _
  exact ⟨rfl, N0, e0⟩
theorem d4_59 : decode prog_12_method_7_code 59 = .ok (.lload_n 2, 1) := by decide +kernel
theorem d4_60 : decode prog_12_method_7_code 60 = .ok (.ldc2_w 143, 3) := by decide +kernel
theorem d4_63 : decode prog_12_method_7_code 63 = .ok (.ladd, 1) := by decide +kernel
theorem d4_64 : decode prog_12_method_7_code 64 = .ok (.invokestatic 117, 3) := by decide +kernel
theorem d4_67 : decode prog_12_method_7_code 67 = .ok (.lstore_n 2, 1) := by decide +kernel
theorem d4_68 : decode prog_12_method_7_code 68 = .ok (.goto (-66), 3) := by decide +kernel
def Q_rm4b (Z : State) (q1 : Int64) (h0 : Heap) (n0 : Nat) (v : Option Value) (h : Heap) (L : List Loc) : Prop := v = some (.double (F_rm5 (F_rm3 (q1 + (-7046029254386353131 : Int64))))) ∧ Fr n0 L ∧ h = h0
theorem ef_rm4b (m : MethodId) (x0 : Int64) : entryFrame m #[(.long x0)] 8 = mkF m 0 #[.val (.long x0), .second, .unset, .unset, .unset, .unset, .unset, .unset] [] := by first | (simp [entryFrame, mkF, argsToLocals, Value.category]; done) | rfl
set_option maxRecDepth 65536 in
set_option maxHeartbeats 40000000 in
theorem rm4b (l : Launch) (Z : State) (a0 : Array Value) (hw : ∀ d ∈ tables_1, d.before a0 Z = true) (ws : List Jvm.Cond) (q1 : Int64) (h0 : Heap) (n0 : Nat) (Z0 : n0 ≤ h0.size) (hA : (F_rm1 q1) = (-1 : Int32)) (hB : (F_rm1 (F_rm3 (q1 + (-7046029254386353131 : Int64)))) = (1 : Int32)) :
    MetFree l (⟨"com/example/outlyr/outlyr/detect/WindowSketch", "cauchy", "(J)D"⟩ : MethodName) (head1 (Jvm.Cond.code (⟨"com/example/outlyr/outlyr/detect/WindowSketch", "cauchy", "(J)D"⟩ : MethodName) prog_12_method_7_code 8 (some .double) :: ws) ({ frames := 1, cells := 0, slots := 0, locals := 15 } : Room)) (fun a U => a = #[(.long q1)] ∧ Z.Warmed39 U.vm ∧ U.heap = h0) (fun _ _ _ _ _ => True) (fun _ U o U' => ∃ v L, o = .returned v ∧ Q_rm4b Z q1 h0 n0 v U'.heap L ∧ FrameEnd U o U' L ({ frames := 1, cells := 0, slots := 0, locals := 15 } : Room).cells ({ frames := 1, cells := 0, slots := 0, locals := 15 } : Room).slots) := by
  refine MetFree.of_bodySF (plainFor_of_name pn_2) hisR ?_
  intro p e s m args below meth c s₁ Bd hml0 hP hK
  obtain ⟨rfl, hZ, hh⟩ := hP
  have hx := Bd.exec
  have hby := Bd.bytes
  have hml : c.maxLocals = 8 := hml0
  have hown : s.vm.findClass "com/example/outlyr/outlyr/detect/WindowSketch" = some m.cls := findClass_of_methodNamed Bd.named
  have hnm := (name_of_methodNamed Bd.named Bd.method).1
  have X0 : Stand p l e ({ frames := 1, cells := 0, slots := 0, locals := 15 } : Room) s m #[(.long q1)] below meth c s₁ [] 0 0 := Stand.of_body Bd
  have e0 : s₁.heap = h0 := by rw [← hh, Bd.state]; rfl
  have N0 := Fr.nil n0
  show Run p e below s 0 0 (Q_rm4b Z q1 h0 n0) (s₁.setTop (entryFrame m #[(.long q1)] 8))
  refine Run.go (fun _ k => castTop (ef_rm4b m q1) k) ?_
  show Run p e below s 0 0 (Q_rm4b Z q1 h0 n0) (s₁.setTop (mkF m 0 #[.val (.long q1), .second, .unset, .unset, .unset, .unset, .unset, .unset] []))
  refine Run.go (fun _ k => XS.lloadN X0.here hx rfl (hb hby d4_0) rfl  k) ?_
  show Run p e below s 0 0 (Q_rm4b Z q1 h0 n0) (s₁.setTop (mkF m 1 #[.val (.long q1), .second, .unset, .unset, .unset, .unset, .unset, .unset] [(.long q1)]))
  refine Run.go (fun _ k => XS.lstoreN X0.here hx rfl (hb hby d4_1) rfl (l' := #[.val (.long q1), .second, .val (.long q1), .second, .unset, .unset, .unset, .unset]) rfl k) ?_
  show Run p e below s 0 0 (Q_rm4b Z q1 h0 n0) (s₁.setTop (mkF m 2 #[.val (.long q1), .second, .val (.long q1), .second, .unset, .unset, .unset, .unset] []))
  refine Run.go (fun _ k => XS.lloadN X0.here hx rfl (hb hby d4_2) rfl  k) ?_
  show Run p e below s 0 0 (Q_rm4b Z q1 h0 n0) (s₁.setTop (mkF m 3 #[.val (.long q1), .second, .val (.long q1), .second, .unset, .unset, .unset, .unset] [(.long q1)]))
  refine Run.go (fun _ k => XS.bipush X0.here hx rfl (hb hby d4_3) k) ?_
  show Run p e below s 0 0 (Q_rm4b Z q1 h0 n0) (s₁.setTop (mkF m 5 #[.val (.long q1), .second, .val (.long q1), .second, .unset, .unset, .unset, .unset] [(.int (32 : Int32)), (.long q1)]))
  refine Run.go (fun _ k => XS.lushr X0.here hx rfl (hb hby d4_5) rfl k) ?_
  show Run p e below s 0 0 (Q_rm4b Z q1 h0 n0) (s₁.setTop (mkF m 6 #[.val (.long q1), .second, .val (.long q1), .second, .unset, .unset, .unset, .unset] [(.long ((q1.toUInt64 >>> ((32 : Int32) &&& 0x3f).toInt64.toUInt64).toInt64))]))
  refine Run.go (fun _ k => XS.l2dS X0.here hx rfl (hb hby d4_6) rfl rfl k) ?_
  show Run p e below s 0 0 (Q_rm4b Z q1 h0 n0) (s₁.setTop (mkF m 7 #[.val (.long q1), .second, .val (.long q1), .second, .unset, .unset, .unset, .unset] [(.double (FP.l2d ((q1.toUInt64 >>> ((32 : Int32) &&& 0x3f).toInt64.toUInt64).toInt64)))]))
  refine Run.go (fun _ k => X0.ldc2DoubleC hx hown (mvT hZ (hw _ (List.mem_of_getElem? (i := 23) rfl))) (g := (mkF m 7 #[.val (.long q1), .second, .val (.long q1), .second, .unset, .unset, .unset, .unset] [(.double (FP.l2d ((q1.toUInt64 >>> ((32 : Int32) &&& 0x3f).toInt64.toUInt64).toInt64)))])) rfl (hb hby d4_7) _ k) ?_
  show Run p e below s 0 0 (Q_rm4b Z q1 h0 n0) (s₁.setTop (mkF m 10 #[.val (.long q1), .second, .val (.long q1), .second, .unset, .unset, .unset, .unset] [(.double (4602678819172646912 : UInt64)), (.double (FP.l2d ((q1.toUInt64 >>> ((32 : Int32) &&& 0x3f).toInt64.toUInt64).toInt64)))]))
  refine Run.go (fun _ k => XS.daddS X0.here hx rfl (hb hby d4_10) rfl (own_na (own_h1 _)) rfl k) ?_
  show Run p e below s 0 0 (Q_rm4b Z q1 h0 n0) (s₁.setTop (mkF m 11 #[.val (.long q1), .second, .val (.long q1), .second, .unset, .unset, .unset, .unset] [(.double (FP.dadd (FP.l2d ((q1.toUInt64 >>> ((32 : Int32) &&& 0x3f).toInt64.toUInt64).toInt64)) (4602678819172646912 : UInt64)))]))
  refine Run.go (fun _ k => X0.ldc2DoubleC hx hown (mvT hZ (hw _ (List.mem_of_getElem? (i := 24) rfl))) (g := (mkF m 11 #[.val (.long q1), .second, .val (.long q1), .second, .unset, .unset, .unset, .unset] [(.double (FP.dadd (FP.l2d ((q1.toUInt64 >>> ((32 : Int32) &&& 0x3f).toInt64.toUInt64).toInt64)) (4602678819172646912 : UInt64)))])) rfl (hb hby d4_11) _ k) ?_
  show Run p e below s 0 0 (Q_rm4b Z q1 h0 n0) (s₁.setTop (mkF m 14 #[.val (.long q1), .second, .val (.long q1), .second, .unset, .unset, .unset, .unset] [(.double (4467570830351532032 : UInt64)), (.double (FP.dadd (FP.l2d ((q1.toUInt64 >>> ((32 : Int32) &&& 0x3f).toInt64.toUInt64).toInt64)) (4602678819172646912 : UInt64)))]))
  refine Run.go (fun _ k => XS.dmulS X0.here hx rfl (hb hby d4_14) rfl (own_nb (own_h1 _)) rfl k) ?_
  show Run p e below s 0 0 (Q_rm4b Z q1 h0 n0) (s₁.setTop (mkF m 15 #[.val (.long q1), .second, .val (.long q1), .second, .unset, .unset, .unset, .unset] [(.double (FP.dmul (FP.dadd (FP.l2d ((q1.toUInt64 >>> ((32 : Int32) &&& 0x3f).toInt64.toUInt64).toInt64)) (4602678819172646912 : UInt64)) (4467570830351532032 : UInt64)))]))
  refine Run.go (fun _ k => XS.dconst1 X0.here hx rfl (hb hby d4_15) rfl k) ?_
  show Run p e below s 0 0 (Q_rm4b Z q1 h0 n0) (s₁.setTop (mkF m 16 #[.val (.long q1), .second, .val (.long q1), .second, .unset, .unset, .unset, .unset] [(.double FP.dconst1), (.double (FP.dmul (FP.dadd (FP.l2d ((q1.toUInt64 >>> ((32 : Int32) &&& 0x3f).toInt64.toUInt64).toInt64)) (4602678819172646912 : UInt64)) (4467570830351532032 : UInt64)))]))
  refine Run.go (fun _ k => XS.dsubS X0.here hx rfl (hb hby d4_16) rfl (own_nc (own_h1 _)) (own_xd _) k) ?_
  show Run p e below s 0 0 (Q_rm4b Z q1 h0 n0) (s₁.setTop (mkF m 17 #[.val (.long q1), .second, .val (.long q1), .second, .unset, .unset, .unset, .unset] [(.double (own_x ((q1.toUInt64 >>> ((32 : Int32) &&& 0x3f).toInt64.toUInt64).toInt64)))]))
  refine Run.go (fun _ k => XS.dstore X0.here hx rfl (hb hby d4_17) rfl (l' := #[.val (.long q1), .second, .val (.long q1), .second, .val (.double (own_x ((q1.toUInt64 >>> ((32 : Int32) &&& 0x3f).toInt64.toUInt64).toInt64))), .second, .unset, .unset]) rfl k) ?_
  show Run p e below s 0 0 (Q_rm4b Z q1 h0 n0) (s₁.setTop (mkF m 19 #[.val (.long q1), .second, .val (.long q1), .second, .val (.double (own_x ((q1.toUInt64 >>> ((32 : Int32) &&& 0x3f).toInt64.toUInt64).toInt64))), .second, .unset, .unset] []))
  refine Run.go (fun _ k => XS.lloadN X0.here hx rfl (hb hby d4_19) rfl  k) ?_
  show Run p e below s 0 0 (Q_rm4b Z q1 h0 n0) (s₁.setTop (mkF m 20 #[.val (.long q1), .second, .val (.long q1), .second, .val (.double (own_x ((q1.toUInt64 >>> ((32 : Int32) &&& 0x3f).toInt64.toUInt64).toInt64))), .second, .unset, .unset] [(.long q1)]))
  refine Run.go (fun _ k => X0.ldc2Long hx hown (mvT hZ (hw _ (List.mem_of_getElem? (i := 25) rfl))) (g := (mkF m 20 #[.val (.long q1), .second, .val (.long q1), .second, .val (.double (own_x ((q1.toUInt64 >>> ((32 : Int32) &&& 0x3f).toInt64.toUInt64).toInt64))), .second, .unset, .unset] [(.long q1)])) rfl (hb hby d4_20) _ k) ?_
  show Run p e below s 0 0 (Q_rm4b Z q1 h0 n0) (s₁.setTop (mkF m 23 #[.val (.long q1), .second, .val (.long q1), .second, .val (.double (own_x ((q1.toUInt64 >>> ((32 : Int32) &&& 0x3f).toInt64.toUInt64).toInt64))), .second, .unset, .unset] [(.long (4294967295 : Int64)), (.long q1)]))
  refine Run.go (fun _ k => XS.land X0.here hx rfl (hb hby d4_23) rfl k) ?_
  show Run p e below s 0 0 (Q_rm4b Z q1 h0 n0) (s₁.setTop (mkF m 24 #[.val (.long q1), .second, .val (.long q1), .second, .val (.double (own_x ((q1.toUInt64 >>> ((32 : Int32) &&& 0x3f).toInt64.toUInt64).toInt64))), .second, .unset, .unset] [(.long (q1 &&& (4294967295 : Int64)))]))
  refine Run.go (fun _ k => XS.l2dS X0.here hx rfl (hb hby d4_24) rfl rfl k) ?_
  show Run p e below s 0 0 (Q_rm4b Z q1 h0 n0) (s₁.setTop (mkF m 25 #[.val (.long q1), .second, .val (.long q1), .second, .val (.double (own_x ((q1.toUInt64 >>> ((32 : Int32) &&& 0x3f).toInt64.toUInt64).toInt64))), .second, .unset, .unset] [(.double (FP.l2d (q1 &&& (4294967295 : Int64))))]))
  refine Run.go (fun _ k => X0.ldc2DoubleC hx hown (mvT hZ (hw _ (List.mem_of_getElem? (i := 23) rfl))) (g := (mkF m 25 #[.val (.long q1), .second, .val (.long q1), .second, .val (.double (own_x ((q1.toUInt64 >>> ((32 : Int32) &&& 0x3f).toInt64.toUInt64).toInt64))), .second, .unset, .unset] [(.double (FP.l2d (q1 &&& (4294967295 : Int64))))])) rfl (hb hby d4_25) _ k) ?_
  show Run p e below s 0 0 (Q_rm4b Z q1 h0 n0) (s₁.setTop (mkF m 28 #[.val (.long q1), .second, .val (.long q1), .second, .val (.double (own_x ((q1.toUInt64 >>> ((32 : Int32) &&& 0x3f).toInt64.toUInt64).toInt64))), .second, .unset, .unset] [(.double (4602678819172646912 : UInt64)), (.double (FP.l2d (q1 &&& (4294967295 : Int64))))]))
  refine Run.go (fun _ k => XS.daddS X0.here hx rfl (hb hby d4_28) rfl (own_na (own_h2 _)) rfl k) ?_
  show Run p e below s 0 0 (Q_rm4b Z q1 h0 n0) (s₁.setTop (mkF m 29 #[.val (.long q1), .second, .val (.long q1), .second, .val (.double (own_x ((q1.toUInt64 >>> ((32 : Int32) &&& 0x3f).toInt64.toUInt64).toInt64))), .second, .unset, .unset] [(.double (FP.dadd (FP.l2d (q1 &&& (4294967295 : Int64))) (4602678819172646912 : UInt64)))]))
  refine Run.go (fun _ k => X0.ldc2DoubleC hx hown (mvT hZ (hw _ (List.mem_of_getElem? (i := 24) rfl))) (g := (mkF m 29 #[.val (.long q1), .second, .val (.long q1), .second, .val (.double (own_x ((q1.toUInt64 >>> ((32 : Int32) &&& 0x3f).toInt64.toUInt64).toInt64))), .second, .unset, .unset] [(.double (FP.dadd (FP.l2d (q1 &&& (4294967295 : Int64))) (4602678819172646912 : UInt64)))])) rfl (hb hby d4_29) _ k) ?_
  show Run p e below s 0 0 (Q_rm4b Z q1 h0 n0) (s₁.setTop (mkF m 32 #[.val (.long q1), .second, .val (.long q1), .second, .val (.double (own_x ((q1.toUInt64 >>> ((32 : Int32) &&& 0x3f).toInt64.toUInt64).toInt64))), .second, .unset, .unset] [(.double (4467570830351532032 : UInt64)), (.double (FP.dadd (FP.l2d (q1 &&& (4294967295 : Int64))) (4602678819172646912 : UInt64)))]))
  refine Run.go (fun _ k => XS.dmulS X0.here hx rfl (hb hby d4_32) rfl (own_nb (own_h2 _)) rfl k) ?_
  show Run p e below s 0 0 (Q_rm4b Z q1 h0 n0) (s₁.setTop (mkF m 33 #[.val (.long q1), .second, .val (.long q1), .second, .val (.double (own_x ((q1.toUInt64 >>> ((32 : Int32) &&& 0x3f).toInt64.toUInt64).toInt64))), .second, .unset, .unset] [(.double (FP.dmul (FP.dadd (FP.l2d (q1 &&& (4294967295 : Int64))) (4602678819172646912 : UInt64)) (4467570830351532032 : UInt64)))]))
  refine Run.go (fun _ k => XS.dconst1 X0.here hx rfl (hb hby d4_33) rfl k) ?_
  show Run p e below s 0 0 (Q_rm4b Z q1 h0 n0) (s₁.setTop (mkF m 34 #[.val (.long q1), .second, .val (.long q1), .second, .val (.double (own_x ((q1.toUInt64 >>> ((32 : Int32) &&& 0x3f).toInt64.toUInt64).toInt64))), .second, .unset, .unset] [(.double FP.dconst1), (.double (FP.dmul (FP.dadd (FP.l2d (q1 &&& (4294967295 : Int64))) (4602678819172646912 : UInt64)) (4467570830351532032 : UInt64)))]))
  refine Run.go (fun _ k => XS.dsubS X0.here hx rfl (hb hby d4_34) rfl (own_nc (own_h2 _)) (own_xd _) k) ?_
  show Run p e below s 0 0 (Q_rm4b Z q1 h0 n0) (s₁.setTop (mkF m 35 #[.val (.long q1), .second, .val (.long q1), .second, .val (.double (own_x ((q1.toUInt64 >>> ((32 : Int32) &&& 0x3f).toInt64.toUInt64).toInt64))), .second, .unset, .unset] [(.double (own_x (q1 &&& (4294967295 : Int64))))]))
  refine Run.go (fun _ k => XS.dstore X0.here hx rfl (hb hby d4_35) rfl (l' := #[.val (.long q1), .second, .val (.long q1), .second, .val (.double (own_x ((q1.toUInt64 >>> ((32 : Int32) &&& 0x3f).toInt64.toUInt64).toInt64))), .second, .val (.double (own_x (q1 &&& (4294967295 : Int64)))), .second]) rfl k) ?_
  show Run p e below s 0 0 (Q_rm4b Z q1 h0 n0) (s₁.setTop (mkF m 37 #[.val (.long q1), .second, .val (.long q1), .second, .val (.double (own_x ((q1.toUInt64 >>> ((32 : Int32) &&& 0x3f).toInt64.toUInt64).toInt64))), .second, .val (.double (own_x (q1 &&& (4294967295 : Int64)))), .second] []))
  refine Run.go (fun _ k => XS.dload X0.here hx rfl (hb hby d4_37) rfl  k) ?_
  show Run p e below s 0 0 (Q_rm4b Z q1 h0 n0) (s₁.setTop (mkF m 39 #[.val (.long q1), .second, .val (.long q1), .second, .val (.double (own_x ((q1.toUInt64 >>> ((32 : Int32) &&& 0x3f).toInt64.toUInt64).toInt64))), .second, .val (.double (own_x (q1 &&& (4294967295 : Int64)))), .second] [(.double (own_x ((q1.toUInt64 >>> ((32 : Int32) &&& 0x3f).toInt64.toUInt64).toInt64)))]))
  refine Run.go (fun _ k => XS.dload X0.here hx rfl (hb hby d4_39) rfl  k) ?_
  show Run p e below s 0 0 (Q_rm4b Z q1 h0 n0) (s₁.setTop (mkF m 41 #[.val (.long q1), .second, .val (.long q1), .second, .val (.double (own_x ((q1.toUInt64 >>> ((32 : Int32) &&& 0x3f).toInt64.toUInt64).toInt64))), .second, .val (.double (own_x (q1 &&& (4294967295 : Int64)))), .second] [(.double (own_x ((q1.toUInt64 >>> ((32 : Int32) &&& 0x3f).toInt64.toUInt64).toInt64))), (.double (own_x ((q1.toUInt64 >>> ((32 : Int32) &&& 0x3f).toInt64.toUInt64).toInt64)))]))
  refine Run.go (fun _ k => XS.dmulS X0.here hx rfl (hb hby d4_41) rfl (own_nd (own_h1 _)) rfl k) ?_
  show Run p e below s 0 0 (Q_rm4b Z q1 h0 n0) (s₁.setTop (mkF m 42 #[.val (.long q1), .second, .val (.long q1), .second, .val (.double (own_x ((q1.toUInt64 >>> ((32 : Int32) &&& 0x3f).toInt64.toUInt64).toInt64))), .second, .val (.double (own_x (q1 &&& (4294967295 : Int64)))), .second] [(.double (FP.dmul (own_x ((q1.toUInt64 >>> ((32 : Int32) &&& 0x3f).toInt64.toUInt64).toInt64)) (own_x ((q1.toUInt64 >>> ((32 : Int32) &&& 0x3f).toInt64.toUInt64).toInt64))))]))
  refine Run.go (fun _ k => XS.dload X0.here hx rfl (hb hby d4_42) rfl  k) ?_
  show Run p e below s 0 0 (Q_rm4b Z q1 h0 n0) (s₁.setTop (mkF m 44 #[.val (.long q1), .second, .val (.long q1), .second, .val (.double (own_x ((q1.toUInt64 >>> ((32 : Int32) &&& 0x3f).toInt64.toUInt64).toInt64))), .second, .val (.double (own_x (q1 &&& (4294967295 : Int64)))), .second] [(.double (own_x (q1 &&& (4294967295 : Int64)))), (.double (FP.dmul (own_x ((q1.toUInt64 >>> ((32 : Int32) &&& 0x3f).toInt64.toUInt64).toInt64)) (own_x ((q1.toUInt64 >>> ((32 : Int32) &&& 0x3f).toInt64.toUInt64).toInt64))))]))
  refine Run.go (fun _ k => XS.dload X0.here hx rfl (hb hby d4_44) rfl  k) ?_
  show Run p e below s 0 0 (Q_rm4b Z q1 h0 n0) (s₁.setTop (mkF m 46 #[.val (.long q1), .second, .val (.long q1), .second, .val (.double (own_x ((q1.toUInt64 >>> ((32 : Int32) &&& 0x3f).toInt64.toUInt64).toInt64))), .second, .val (.double (own_x (q1 &&& (4294967295 : Int64)))), .second] [(.double (own_x (q1 &&& (4294967295 : Int64)))), (.double (own_x (q1 &&& (4294967295 : Int64)))), (.double (FP.dmul (own_x ((q1.toUInt64 >>> ((32 : Int32) &&& 0x3f).toInt64.toUInt64).toInt64)) (own_x ((q1.toUInt64 >>> ((32 : Int32) &&& 0x3f).toInt64.toUInt64).toInt64))))]))
  refine Run.go (fun _ k => XS.dmulS X0.here hx rfl (hb hby d4_46) rfl (own_nd (own_h2 _)) rfl k) ?_
  show Run p e below s 0 0 (Q_rm4b Z q1 h0 n0) (s₁.setTop (mkF m 47 #[.val (.long q1), .second, .val (.long q1), .second, .val (.double (own_x ((q1.toUInt64 >>> ((32 : Int32) &&& 0x3f).toInt64.toUInt64).toInt64))), .second, .val (.double (own_x (q1 &&& (4294967295 : Int64)))), .second] [(.double (FP.dmul (own_x (q1 &&& (4294967295 : Int64))) (own_x (q1 &&& (4294967295 : Int64))))), (.double (FP.dmul (own_x ((q1.toUInt64 >>> ((32 : Int32) &&& 0x3f).toInt64.toUInt64).toInt64)) (own_x ((q1.toUInt64 >>> ((32 : Int32) &&& 0x3f).toInt64.toUInt64).toInt64))))]))
  refine Run.go (fun _ k => XS.daddS X0.here hx rfl (hb hby d4_47) rfl (own_ne (own_h1 _) (own_h2 _)) rfl k) ?_
  show Run p e below s 0 0 (Q_rm4b Z q1 h0 n0) (s₁.setTop (mkF m 48 #[.val (.long q1), .second, .val (.long q1), .second, .val (.double (own_x ((q1.toUInt64 >>> ((32 : Int32) &&& 0x3f).toInt64.toUInt64).toInt64))), .second, .val (.double (own_x (q1 &&& (4294967295 : Int64)))), .second] [(.double (FP.dadd (FP.dmul (own_x ((q1.toUInt64 >>> ((32 : Int32) &&& 0x3f).toInt64.toUInt64).toInt64)) (own_x ((q1.toUInt64 >>> ((32 : Int32) &&& 0x3f).toInt64.toUInt64).toInt64))) (FP.dmul (own_x (q1 &&& (4294967295 : Int64))) (own_x (q1 &&& (4294967295 : Int64))))))]))
  refine Run.go (fun _ k => XS.dconst1 X0.here hx rfl (hb hby d4_48) rfl k) ?_
  show Run p e below s 0 0 (Q_rm4b Z q1 h0 n0) (s₁.setTop (mkF m 49 #[.val (.long q1), .second, .val (.long q1), .second, .val (.double (own_x ((q1.toUInt64 >>> ((32 : Int32) &&& 0x3f).toInt64.toUInt64).toInt64))), .second, .val (.double (own_x (q1 &&& (4294967295 : Int64)))), .second] [(.double FP.dconst1), (.double (FP.dadd (FP.dmul (own_x ((q1.toUInt64 >>> ((32 : Int32) &&& 0x3f).toInt64.toUInt64).toInt64)) (own_x ((q1.toUInt64 >>> ((32 : Int32) &&& 0x3f).toInt64.toUInt64).toInt64))) (FP.dmul (own_x (q1 &&& (4294967295 : Int64))) (own_x (q1 &&& (4294967295 : Int64))))))]))
  refine Run.go (fun _ k => XS.dcmpS X0.here hx rfl (hb hby d4_49) rfl rfl k) ?_
  show Run p e below s 0 0 (Q_rm4b Z q1 h0 n0) (s₁.setTop (mkF m 50 #[.val (.long q1), .second, .val (.long q1), .second, .val (.double (own_x ((q1.toUInt64 >>> ((32 : Int32) &&& 0x3f).toInt64.toUInt64).toInt64))), .second, .val (.double (own_x (q1 &&& (4294967295 : Int64)))), .second] [(.int (cmpValue (FP.dcmp (FP.dadd (FP.dmul (own_x ((q1.toUInt64 >>> ((32 : Int32) &&& 0x3f).toInt64.toUInt64).toInt64)) (own_x ((q1.toUInt64 >>> ((32 : Int32) &&& 0x3f).toInt64.toUInt64).toInt64))) (FP.dmul (own_x (q1 &&& (4294967295 : Int64))) (own_x (q1 &&& (4294967295 : Int64))))) FP.dconst1) .g))]))
  refine Run.go (fun _ k => XS.ifYes X0.here hx rfl (pc0 := 50) (pc' := 59) rfl (hb hby d4_50) rfl ((if0 _ _).trans (tlt (own_outq _ hA)).2.2.1) (by decide) (by decide) k) ?_
  show Run p e below s 0 0 (Q_rm4b Z q1 h0 n0) (s₁.setTop (mkF m 59 #[.val (.long q1), .second, .val (.long q1), .second, .val (.double (own_x ((q1.toUInt64 >>> ((32 : Int32) &&& 0x3f).toInt64.toUInt64).toInt64))), .second, .val (.double (own_x (q1 &&& (4294967295 : Int64)))), .second] []))
  refine Run.go (fun _ k => XS.lloadN X0.here hx rfl (hb hby d4_59) rfl  k) ?_
  show Run p e below s 0 0 (Q_rm4b Z q1 h0 n0) (s₁.setTop (mkF m 60 #[.val (.long q1), .second, .val (.long q1), .second, .val (.double (own_x ((q1.toUInt64 >>> ((32 : Int32) &&& 0x3f).toInt64.toUInt64).toInt64))), .second, .val (.double (own_x (q1 &&& (4294967295 : Int64)))), .second] [(.long q1)]))
  refine Run.go (fun _ k => X0.ldc2Long hx hown (mvT hZ (hw _ (List.mem_of_getElem? (i := 26) rfl))) (g := (mkF m 60 #[.val (.long q1), .second, .val (.long q1), .second, .val (.double (own_x ((q1.toUInt64 >>> ((32 : Int32) &&& 0x3f).toInt64.toUInt64).toInt64))), .second, .val (.double (own_x (q1 &&& (4294967295 : Int64)))), .second] [(.long q1)])) rfl (hb hby d4_60) _ k) ?_
  show Run p e below s 0 0 (Q_rm4b Z q1 h0 n0) (s₁.setTop (mkF m 63 #[.val (.long q1), .second, .val (.long q1), .second, .val (.double (own_x ((q1.toUInt64 >>> ((32 : Int32) &&& 0x3f).toInt64.toUInt64).toInt64))), .second, .val (.double (own_x (q1 &&& (4294967295 : Int64)))), .second] [(.long (-7046029254386353131 : Int64)), (.long q1)]))
  refine Run.go (fun _ k => XS.ladd X0.here hx rfl (hb hby d4_63) rfl k) ?_
  show Run p e below s 0 0 (Q_rm4b Z q1 h0 n0) (s₁.setTop (mkF m 64 #[.val (.long q1), .second, .val (.long q1), .second, .val (.double (own_x ((q1.toUInt64 >>> ((32 : Int32) &&& 0x3f).toInt64.toUInt64).toInt64))), .second, .val (.double (own_x (q1 &&& (4294967295 : Int64)))), .second] [(.long (q1 + (-7046029254386353131 : Int64)))]))
  obtain ⟨_, _, ⟨T2, L2, k2, n2⟩, -, X2, ⟨Lc2, hQ2, l2, y2, z2⟩, st2⟩ := Jvm.LawKit.callS X0 hx (y := (⟨"com/example/outlyr/outlyr/detect/SplitMix", "mix", "(J)J"⟩ : MethodName)) hown (mvT hZ (hw _ (List.mem_of_getElem? (i := 27) rfl))) (mvT hZ (hw _ (List.mem_of_getElem? (i := 14) rfl))) (mvT hZ (hw _ (List.mem_of_getElem? (i := 15) rfl))) (mvT hZ (hw _ (List.mem_of_getElem? (i := 16) rfl))) (by decide) (backOf (W := 0) (rm3 l Z a0 hw [] (q1 + (-7046029254386353131 : Int64)) h0 n0 Z0 ) hZ (hw _ (List.mem_of_getElem? (i := 16) rfl)) (hw _ (List.mem_of_getElem? (i := 15) rfl)) (by decide) (by decide)) (g := (mkF m 64 #[.val (.long q1), .second, .val (.long q1), .second, .val (.double (own_x ((q1.toUInt64 >>> ((32 : Int32) &&& 0x3f).toInt64.toUInt64).toInt64))), .second, .val (.double (own_x (q1 &&& (4294967295 : Int64)))), .second] [(.long (q1 + (-7046029254386353131 : Int64)))])) rfl (by rw [hml]; rfl) (argsL := [(.long (q1 + (-7046029254386353131 : Int64)))]) (rest := []) (lenOf pd_0 rfl) rfl (by show 2 * 0 + _ ≤ _; exact Nat.le_of_eq rfl) (hb hby d4_64) (fun _ _ => ⟨rfl, e0, (by decide : 0 + 0 ≤ _), (by decide : 0 + 0 ≤ _)⟩)
  dsimp only [Pt.U, Pt.locs, Pt.cells, Pt.slots] at X2 l2 y2 z2 st2 hQ2
  subst l2 y2 z2
  obtain ⟨rfl, N2q, e2q⟩ := hQ2
  have N2 := Fr.app N0 N2q
  obtain ⟨Lg2, Xg2, Ng2⟩ := Stand_gen X2 N2
  refine Run.go st2 ?_
  show Run p e below s 0 0 (Q_rm4b Z q1 h0 n0) (T2.setTop (mkF m 67 #[.val (.long q1), .second, .val (.long q1), .second, .val (.double (own_x ((q1.toUInt64 >>> ((32 : Int32) &&& 0x3f).toInt64.toUInt64).toInt64))), .second, .val (.double (own_x (q1 &&& (4294967295 : Int64)))), .second] [(.long (F_rm3 (q1 + (-7046029254386353131 : Int64))))]))
  refine Run.go (fun _ k => XS.lstoreN Xg2.here hx rfl (hb hby d4_67) rfl (l' := #[.val (.long q1), .second, .val (.long (F_rm3 (q1 + (-7046029254386353131 : Int64)))), .second, .val (.double (own_x ((q1.toUInt64 >>> ((32 : Int32) &&& 0x3f).toInt64.toUInt64).toInt64))), .second, .val (.double (own_x (q1 &&& (4294967295 : Int64)))), .second]) rfl k) ?_
  show Run p e below s 0 0 (Q_rm4b Z q1 h0 n0) (T2.setTop (mkF m 68 #[.val (.long q1), .second, .val (.long (F_rm3 (q1 + (-7046029254386353131 : Int64)))), .second, .val (.double (own_x ((q1.toUInt64 >>> ((32 : Int32) &&& 0x3f).toInt64.toUInt64).toInt64))), .second, .val (.double (own_x (q1 &&& (4294967295 : Int64)))), .second] []))
  refine Run.go (fun _ k => XS.goto Xg2.here hx rfl (pc0 := 68) (pc' := 2) rfl (hb hby d4_68) (by decide) (by decide) k) ?_
  show Run p e below s 0 0 (Q_rm4b Z q1 h0 n0) (T2.setTop (mkF m 2 #[.val (.long q1), .second, .val (.long (F_rm3 (q1 + (-7046029254386353131 : Int64)))), .second, .val (.double (own_x ((q1.toUInt64 >>> ((32 : Int32) &&& 0x3f).toInt64.toUInt64).toInt64))), .second, .val (.double (own_x (q1 &&& (4294967295 : Int64)))), .second] []))
  refine Run.go (fun _ k => XS.lloadN Xg2.here hx rfl (hb hby d4_2) rfl  k) ?_
  show Run p e below s 0 0 (Q_rm4b Z q1 h0 n0) (T2.setTop (mkF m 3 #[.val (.long q1), .second, .val (.long (F_rm3 (q1 + (-7046029254386353131 : Int64)))), .second, .val (.double (own_x ((q1.toUInt64 >>> ((32 : Int32) &&& 0x3f).toInt64.toUInt64).toInt64))), .second, .val (.double (own_x (q1 &&& (4294967295 : Int64)))), .second] [(.long (F_rm3 (q1 + (-7046029254386353131 : Int64))))]))
  refine Run.go (fun _ k => XS.bipush Xg2.here hx rfl (hb hby d4_3) k) ?_
  show Run p e below s 0 0 (Q_rm4b Z q1 h0 n0) (T2.setTop (mkF m 5 #[.val (.long q1), .second, .val (.long (F_rm3 (q1 + (-7046029254386353131 : Int64)))), .second, .val (.double (own_x ((q1.toUInt64 >>> ((32 : Int32) &&& 0x3f).toInt64.toUInt64).toInt64))), .second, .val (.double (own_x (q1 &&& (4294967295 : Int64)))), .second] [(.int (32 : Int32)), (.long (F_rm3 (q1 + (-7046029254386353131 : Int64))))]))
  refine Run.go (fun _ k => XS.lushr Xg2.here hx rfl (hb hby d4_5) rfl k) ?_
  show Run p e below s 0 0 (Q_rm4b Z q1 h0 n0) (T2.setTop (mkF m 6 #[.val (.long q1), .second, .val (.long (F_rm3 (q1 + (-7046029254386353131 : Int64)))), .second, .val (.double (own_x ((q1.toUInt64 >>> ((32 : Int32) &&& 0x3f).toInt64.toUInt64).toInt64))), .second, .val (.double (own_x (q1 &&& (4294967295 : Int64)))), .second] [(.long (((F_rm3 (q1 + (-7046029254386353131 : Int64))).toUInt64 >>> ((32 : Int32) &&& 0x3f).toInt64.toUInt64).toInt64))]))
  refine Run.go (fun _ k => XS.l2dS Xg2.here hx rfl (hb hby d4_6) rfl rfl k) ?_
  show Run p e below s 0 0 (Q_rm4b Z q1 h0 n0) (T2.setTop (mkF m 7 #[.val (.long q1), .second, .val (.long (F_rm3 (q1 + (-7046029254386353131 : Int64)))), .second, .val (.double (own_x ((q1.toUInt64 >>> ((32 : Int32) &&& 0x3f).toInt64.toUInt64).toInt64))), .second, .val (.double (own_x (q1 &&& (4294967295 : Int64)))), .second] [(.double (FP.l2d (((F_rm3 (q1 + (-7046029254386353131 : Int64))).toUInt64 >>> ((32 : Int32) &&& 0x3f).toInt64.toUInt64).toInt64)))]))
  refine Run.go (fun _ k => Xg2.ldc2DoubleC hx hown (mvT hZ (hw _ (List.mem_of_getElem? (i := 23) rfl))) (g := (mkF m 7 #[.val (.long q1), .second, .val (.long (F_rm3 (q1 + (-7046029254386353131 : Int64)))), .second, .val (.double (own_x ((q1.toUInt64 >>> ((32 : Int32) &&& 0x3f).toInt64.toUInt64).toInt64))), .second, .val (.double (own_x (q1 &&& (4294967295 : Int64)))), .second] [(.double (FP.l2d (((F_rm3 (q1 + (-7046029254386353131 : Int64))).toUInt64 >>> ((32 : Int32) &&& 0x3f).toInt64.toUInt64).toInt64)))])) rfl (hb hby d4_7) _ k) ?_
  show Run p e below s 0 0 (Q_rm4b Z q1 h0 n0) (T2.setTop (mkF m 10 #[.val (.long q1), .second, .val (.long (F_rm3 (q1 + (-7046029254386353131 : Int64)))), .second, .val (.double (own_x ((q1.toUInt64 >>> ((32 : Int32) &&& 0x3f).toInt64.toUInt64).toInt64))), .second, .val (.double (own_x (q1 &&& (4294967295 : Int64)))), .second] [(.double (4602678819172646912 : UInt64)), (.double (FP.l2d (((F_rm3 (q1 + (-7046029254386353131 : Int64))).toUInt64 >>> ((32 : Int32) &&& 0x3f).toInt64.toUInt64).toInt64)))]))
  refine Run.go (fun _ k => XS.daddS Xg2.here hx rfl (hb hby d4_10) rfl (own_na (own_h1 _)) rfl k) ?_
  show Run p e below s 0 0 (Q_rm4b Z q1 h0 n0) (T2.setTop (mkF m 11 #[.val (.long q1), .second, .val (.long (F_rm3 (q1 + (-7046029254386353131 : Int64)))), .second, .val (.double (own_x ((q1.toUInt64 >>> ((32 : Int32) &&& 0x3f).toInt64.toUInt64).toInt64))), .second, .val (.double (own_x (q1 &&& (4294967295 : Int64)))), .second] [(.double (FP.dadd (FP.l2d (((F_rm3 (q1 + (-7046029254386353131 : Int64))).toUInt64 >>> ((32 : Int32) &&& 0x3f).toInt64.toUInt64).toInt64)) (4602678819172646912 : UInt64)))]))
  refine Run.go (fun _ k => Xg2.ldc2DoubleC hx hown (mvT hZ (hw _ (List.mem_of_getElem? (i := 24) rfl))) (g := (mkF m 11 #[.val (.long q1), .second, .val (.long (F_rm3 (q1 + (-7046029254386353131 : Int64)))), .second, .val (.double (own_x ((q1.toUInt64 >>> ((32 : Int32) &&& 0x3f).toInt64.toUInt64).toInt64))), .second, .val (.double (own_x (q1 &&& (4294967295 : Int64)))), .second] [(.double (FP.dadd (FP.l2d (((F_rm3 (q1 + (-7046029254386353131 : Int64))).toUInt64 >>> ((32 : Int32) &&& 0x3f).toInt64.toUInt64).toInt64)) (4602678819172646912 : UInt64)))])) rfl (hb hby d4_11) _ k) ?_
  show Run p e below s 0 0 (Q_rm4b Z q1 h0 n0) (T2.setTop (mkF m 14 #[.val (.long q1), .second, .val (.long (F_rm3 (q1 + (-7046029254386353131 : Int64)))), .second, .val (.double (own_x ((q1.toUInt64 >>> ((32 : Int32) &&& 0x3f).toInt64.toUInt64).toInt64))), .second, .val (.double (own_x (q1 &&& (4294967295 : Int64)))), .second] [(.double (4467570830351532032 : UInt64)), (.double (FP.dadd (FP.l2d (((F_rm3 (q1 + (-7046029254386353131 : Int64))).toUInt64 >>> ((32 : Int32) &&& 0x3f).toInt64.toUInt64).toInt64)) (4602678819172646912 : UInt64)))]))
  refine Run.go (fun _ k => XS.dmulS Xg2.here hx rfl (hb hby d4_14) rfl (own_nb (own_h1 _)) rfl k) ?_
  show Run p e below s 0 0 (Q_rm4b Z q1 h0 n0) (T2.setTop (mkF m 15 #[.val (.long q1), .second, .val (.long (F_rm3 (q1 + (-7046029254386353131 : Int64)))), .second, .val (.double (own_x ((q1.toUInt64 >>> ((32 : Int32) &&& 0x3f).toInt64.toUInt64).toInt64))), .second, .val (.double (own_x (q1 &&& (4294967295 : Int64)))), .second] [(.double (FP.dmul (FP.dadd (FP.l2d (((F_rm3 (q1 + (-7046029254386353131 : Int64))).toUInt64 >>> ((32 : Int32) &&& 0x3f).toInt64.toUInt64).toInt64)) (4602678819172646912 : UInt64)) (4467570830351532032 : UInt64)))]))
  refine Run.go (fun _ k => XS.dconst1 Xg2.here hx rfl (hb hby d4_15) rfl k) ?_
  show Run p e below s 0 0 (Q_rm4b Z q1 h0 n0) (T2.setTop (mkF m 16 #[.val (.long q1), .second, .val (.long (F_rm3 (q1 + (-7046029254386353131 : Int64)))), .second, .val (.double (own_x ((q1.toUInt64 >>> ((32 : Int32) &&& 0x3f).toInt64.toUInt64).toInt64))), .second, .val (.double (own_x (q1 &&& (4294967295 : Int64)))), .second] [(.double FP.dconst1), (.double (FP.dmul (FP.dadd (FP.l2d (((F_rm3 (q1 + (-7046029254386353131 : Int64))).toUInt64 >>> ((32 : Int32) &&& 0x3f).toInt64.toUInt64).toInt64)) (4602678819172646912 : UInt64)) (4467570830351532032 : UInt64)))]))
  refine Run.go (fun _ k => XS.dsubS Xg2.here hx rfl (hb hby d4_16) rfl (own_nc (own_h1 _)) (own_xd _) k) ?_
  show Run p e below s 0 0 (Q_rm4b Z q1 h0 n0) (T2.setTop (mkF m 17 #[.val (.long q1), .second, .val (.long (F_rm3 (q1 + (-7046029254386353131 : Int64)))), .second, .val (.double (own_x ((q1.toUInt64 >>> ((32 : Int32) &&& 0x3f).toInt64.toUInt64).toInt64))), .second, .val (.double (own_x (q1 &&& (4294967295 : Int64)))), .second] [(.double (own_x (((F_rm3 (q1 + (-7046029254386353131 : Int64))).toUInt64 >>> ((32 : Int32) &&& 0x3f).toInt64.toUInt64).toInt64)))]))
  refine Run.go (fun _ k => XS.dstore Xg2.here hx rfl (hb hby d4_17) rfl (l' := #[.val (.long q1), .second, .val (.long (F_rm3 (q1 + (-7046029254386353131 : Int64)))), .second, .val (.double (own_x (((F_rm3 (q1 + (-7046029254386353131 : Int64))).toUInt64 >>> ((32 : Int32) &&& 0x3f).toInt64.toUInt64).toInt64))), .second, .val (.double (own_x (q1 &&& (4294967295 : Int64)))), .second]) rfl k) ?_
  show Run p e below s 0 0 (Q_rm4b Z q1 h0 n0) (T2.setTop (mkF m 19 #[.val (.long q1), .second, .val (.long (F_rm3 (q1 + (-7046029254386353131 : Int64)))), .second, .val (.double (own_x (((F_rm3 (q1 + (-7046029254386353131 : Int64))).toUInt64 >>> ((32 : Int32) &&& 0x3f).toInt64.toUInt64).toInt64))), .second, .val (.double (own_x (q1 &&& (4294967295 : Int64)))), .second] []))
  refine Run.go (fun _ k => XS.lloadN Xg2.here hx rfl (hb hby d4_19) rfl  k) ?_
  show Run p e below s 0 0 (Q_rm4b Z q1 h0 n0) (T2.setTop (mkF m 20 #[.val (.long q1), .second, .val (.long (F_rm3 (q1 + (-7046029254386353131 : Int64)))), .second, .val (.double (own_x (((F_rm3 (q1 + (-7046029254386353131 : Int64))).toUInt64 >>> ((32 : Int32) &&& 0x3f).toInt64.toUInt64).toInt64))), .second, .val (.double (own_x (q1 &&& (4294967295 : Int64)))), .second] [(.long (F_rm3 (q1 + (-7046029254386353131 : Int64))))]))
  refine Run.go (fun _ k => Xg2.ldc2Long hx hown (mvT hZ (hw _ (List.mem_of_getElem? (i := 25) rfl))) (g := (mkF m 20 #[.val (.long q1), .second, .val (.long (F_rm3 (q1 + (-7046029254386353131 : Int64)))), .second, .val (.double (own_x (((F_rm3 (q1 + (-7046029254386353131 : Int64))).toUInt64 >>> ((32 : Int32) &&& 0x3f).toInt64.toUInt64).toInt64))), .second, .val (.double (own_x (q1 &&& (4294967295 : Int64)))), .second] [(.long (F_rm3 (q1 + (-7046029254386353131 : Int64))))])) rfl (hb hby d4_20) _ k) ?_
  show Run p e below s 0 0 (Q_rm4b Z q1 h0 n0) (T2.setTop (mkF m 23 #[.val (.long q1), .second, .val (.long (F_rm3 (q1 + (-7046029254386353131 : Int64)))), .second, .val (.double (own_x (((F_rm3 (q1 + (-7046029254386353131 : Int64))).toUInt64 >>> ((32 : Int32) &&& 0x3f).toInt64.toUInt64).toInt64))), .second, .val (.double (own_x (q1 &&& (4294967295 : Int64)))), .second] [(.long (4294967295 : Int64)), (.long (F_rm3 (q1 + (-7046029254386353131 : Int64))))]))
  refine Run.go (fun _ k => XS.land Xg2.here hx rfl (hb hby d4_23) rfl k) ?_
  show Run p e below s 0 0 (Q_rm4b Z q1 h0 n0) (T2.setTop (mkF m 24 #[.val (.long q1), .second, .val (.long (F_rm3 (q1 + (-7046029254386353131 : Int64)))), .second, .val (.double (own_x (((F_rm3 (q1 + (-7046029254386353131 : Int64))).toUInt64 >>> ((32 : Int32) &&& 0x3f).toInt64.toUInt64).toInt64))), .second, .val (.double (own_x (q1 &&& (4294967295 : Int64)))), .second] [(.long ((F_rm3 (q1 + (-7046029254386353131 : Int64))) &&& (4294967295 : Int64)))]))
  refine Run.go (fun _ k => XS.l2dS Xg2.here hx rfl (hb hby d4_24) rfl rfl k) ?_
  show Run p e below s 0 0 (Q_rm4b Z q1 h0 n0) (T2.setTop (mkF m 25 #[.val (.long q1), .second, .val (.long (F_rm3 (q1 + (-7046029254386353131 : Int64)))), .second, .val (.double (own_x (((F_rm3 (q1 + (-7046029254386353131 : Int64))).toUInt64 >>> ((32 : Int32) &&& 0x3f).toInt64.toUInt64).toInt64))), .second, .val (.double (own_x (q1 &&& (4294967295 : Int64)))), .second] [(.double (FP.l2d ((F_rm3 (q1 + (-7046029254386353131 : Int64))) &&& (4294967295 : Int64))))]))
  refine Run.go (fun _ k => Xg2.ldc2DoubleC hx hown (mvT hZ (hw _ (List.mem_of_getElem? (i := 23) rfl))) (g := (mkF m 25 #[.val (.long q1), .second, .val (.long (F_rm3 (q1 + (-7046029254386353131 : Int64)))), .second, .val (.double (own_x (((F_rm3 (q1 + (-7046029254386353131 : Int64))).toUInt64 >>> ((32 : Int32) &&& 0x3f).toInt64.toUInt64).toInt64))), .second, .val (.double (own_x (q1 &&& (4294967295 : Int64)))), .second] [(.double (FP.l2d ((F_rm3 (q1 + (-7046029254386353131 : Int64))) &&& (4294967295 : Int64))))])) rfl (hb hby d4_25) _ k) ?_
  show Run p e below s 0 0 (Q_rm4b Z q1 h0 n0) (T2.setTop (mkF m 28 #[.val (.long q1), .second, .val (.long (F_rm3 (q1 + (-7046029254386353131 : Int64)))), .second, .val (.double (own_x (((F_rm3 (q1 + (-7046029254386353131 : Int64))).toUInt64 >>> ((32 : Int32) &&& 0x3f).toInt64.toUInt64).toInt64))), .second, .val (.double (own_x (q1 &&& (4294967295 : Int64)))), .second] [(.double (4602678819172646912 : UInt64)), (.double (FP.l2d ((F_rm3 (q1 + (-7046029254386353131 : Int64))) &&& (4294967295 : Int64))))]))
  refine Run.go (fun _ k => XS.daddS Xg2.here hx rfl (hb hby d4_28) rfl (own_na (own_h2 _)) rfl k) ?_
  show Run p e below s 0 0 (Q_rm4b Z q1 h0 n0) (T2.setTop (mkF m 29 #[.val (.long q1), .second, .val (.long (F_rm3 (q1 + (-7046029254386353131 : Int64)))), .second, .val (.double (own_x (((F_rm3 (q1 + (-7046029254386353131 : Int64))).toUInt64 >>> ((32 : Int32) &&& 0x3f).toInt64.toUInt64).toInt64))), .second, .val (.double (own_x (q1 &&& (4294967295 : Int64)))), .second] [(.double (FP.dadd (FP.l2d ((F_rm3 (q1 + (-7046029254386353131 : Int64))) &&& (4294967295 : Int64))) (4602678819172646912 : UInt64)))]))
  refine Run.go (fun _ k => Xg2.ldc2DoubleC hx hown (mvT hZ (hw _ (List.mem_of_getElem? (i := 24) rfl))) (g := (mkF m 29 #[.val (.long q1), .second, .val (.long (F_rm3 (q1 + (-7046029254386353131 : Int64)))), .second, .val (.double (own_x (((F_rm3 (q1 + (-7046029254386353131 : Int64))).toUInt64 >>> ((32 : Int32) &&& 0x3f).toInt64.toUInt64).toInt64))), .second, .val (.double (own_x (q1 &&& (4294967295 : Int64)))), .second] [(.double (FP.dadd (FP.l2d ((F_rm3 (q1 + (-7046029254386353131 : Int64))) &&& (4294967295 : Int64))) (4602678819172646912 : UInt64)))])) rfl (hb hby d4_29) _ k) ?_
  show Run p e below s 0 0 (Q_rm4b Z q1 h0 n0) (T2.setTop (mkF m 32 #[.val (.long q1), .second, .val (.long (F_rm3 (q1 + (-7046029254386353131 : Int64)))), .second, .val (.double (own_x (((F_rm3 (q1 + (-7046029254386353131 : Int64))).toUInt64 >>> ((32 : Int32) &&& 0x3f).toInt64.toUInt64).toInt64))), .second, .val (.double (own_x (q1 &&& (4294967295 : Int64)))), .second] [(.double (4467570830351532032 : UInt64)), (.double (FP.dadd (FP.l2d ((F_rm3 (q1 + (-7046029254386353131 : Int64))) &&& (4294967295 : Int64))) (4602678819172646912 : UInt64)))]))
  refine Run.go (fun _ k => XS.dmulS Xg2.here hx rfl (hb hby d4_32) rfl (own_nb (own_h2 _)) rfl k) ?_
  show Run p e below s 0 0 (Q_rm4b Z q1 h0 n0) (T2.setTop (mkF m 33 #[.val (.long q1), .second, .val (.long (F_rm3 (q1 + (-7046029254386353131 : Int64)))), .second, .val (.double (own_x (((F_rm3 (q1 + (-7046029254386353131 : Int64))).toUInt64 >>> ((32 : Int32) &&& 0x3f).toInt64.toUInt64).toInt64))), .second, .val (.double (own_x (q1 &&& (4294967295 : Int64)))), .second] [(.double (FP.dmul (FP.dadd (FP.l2d ((F_rm3 (q1 + (-7046029254386353131 : Int64))) &&& (4294967295 : Int64))) (4602678819172646912 : UInt64)) (4467570830351532032 : UInt64)))]))
  refine Run.go (fun _ k => XS.dconst1 Xg2.here hx rfl (hb hby d4_33) rfl k) ?_
  show Run p e below s 0 0 (Q_rm4b Z q1 h0 n0) (T2.setTop (mkF m 34 #[.val (.long q1), .second, .val (.long (F_rm3 (q1 + (-7046029254386353131 : Int64)))), .second, .val (.double (own_x (((F_rm3 (q1 + (-7046029254386353131 : Int64))).toUInt64 >>> ((32 : Int32) &&& 0x3f).toInt64.toUInt64).toInt64))), .second, .val (.double (own_x (q1 &&& (4294967295 : Int64)))), .second] [(.double FP.dconst1), (.double (FP.dmul (FP.dadd (FP.l2d ((F_rm3 (q1 + (-7046029254386353131 : Int64))) &&& (4294967295 : Int64))) (4602678819172646912 : UInt64)) (4467570830351532032 : UInt64)))]))
  refine Run.go (fun _ k => XS.dsubS Xg2.here hx rfl (hb hby d4_34) rfl (own_nc (own_h2 _)) (own_xd _) k) ?_
  show Run p e below s 0 0 (Q_rm4b Z q1 h0 n0) (T2.setTop (mkF m 35 #[.val (.long q1), .second, .val (.long (F_rm3 (q1 + (-7046029254386353131 : Int64)))), .second, .val (.double (own_x (((F_rm3 (q1 + (-7046029254386353131 : Int64))).toUInt64 >>> ((32 : Int32) &&& 0x3f).toInt64.toUInt64).toInt64))), .second, .val (.double (own_x (q1 &&& (4294967295 : Int64)))), .second] [(.double (own_x ((F_rm3 (q1 + (-7046029254386353131 : Int64))) &&& (4294967295 : Int64))))]))
  refine Run.go (fun _ k => XS.dstore Xg2.here hx rfl (hb hby d4_35) rfl (l' := #[.val (.long q1), .second, .val (.long (F_rm3 (q1 + (-7046029254386353131 : Int64)))), .second, .val (.double (own_x (((F_rm3 (q1 + (-7046029254386353131 : Int64))).toUInt64 >>> ((32 : Int32) &&& 0x3f).toInt64.toUInt64).toInt64))), .second, .val (.double (own_x ((F_rm3 (q1 + (-7046029254386353131 : Int64))) &&& (4294967295 : Int64)))), .second]) rfl k) ?_
  show Run p e below s 0 0 (Q_rm4b Z q1 h0 n0) (T2.setTop (mkF m 37 #[.val (.long q1), .second, .val (.long (F_rm3 (q1 + (-7046029254386353131 : Int64)))), .second, .val (.double (own_x (((F_rm3 (q1 + (-7046029254386353131 : Int64))).toUInt64 >>> ((32 : Int32) &&& 0x3f).toInt64.toUInt64).toInt64))), .second, .val (.double (own_x ((F_rm3 (q1 + (-7046029254386353131 : Int64))) &&& (4294967295 : Int64)))), .second] []))
  refine Run.go (fun _ k => XS.dload Xg2.here hx rfl (hb hby d4_37) rfl  k) ?_
  show Run p e below s 0 0 (Q_rm4b Z q1 h0 n0) (T2.setTop (mkF m 39 #[.val (.long q1), .second, .val (.long (F_rm3 (q1 + (-7046029254386353131 : Int64)))), .second, .val (.double (own_x (((F_rm3 (q1 + (-7046029254386353131 : Int64))).toUInt64 >>> ((32 : Int32) &&& 0x3f).toInt64.toUInt64).toInt64))), .second, .val (.double (own_x ((F_rm3 (q1 + (-7046029254386353131 : Int64))) &&& (4294967295 : Int64)))), .second] [(.double (own_x (((F_rm3 (q1 + (-7046029254386353131 : Int64))).toUInt64 >>> ((32 : Int32) &&& 0x3f).toInt64.toUInt64).toInt64)))]))
  refine Run.go (fun _ k => XS.dload Xg2.here hx rfl (hb hby d4_39) rfl  k) ?_
  show Run p e below s 0 0 (Q_rm4b Z q1 h0 n0) (T2.setTop (mkF m 41 #[.val (.long q1), .second, .val (.long (F_rm3 (q1 + (-7046029254386353131 : Int64)))), .second, .val (.double (own_x (((F_rm3 (q1 + (-7046029254386353131 : Int64))).toUInt64 >>> ((32 : Int32) &&& 0x3f).toInt64.toUInt64).toInt64))), .second, .val (.double (own_x ((F_rm3 (q1 + (-7046029254386353131 : Int64))) &&& (4294967295 : Int64)))), .second] [(.double (own_x (((F_rm3 (q1 + (-7046029254386353131 : Int64))).toUInt64 >>> ((32 : Int32) &&& 0x3f).toInt64.toUInt64).toInt64))), (.double (own_x (((F_rm3 (q1 + (-7046029254386353131 : Int64))).toUInt64 >>> ((32 : Int32) &&& 0x3f).toInt64.toUInt64).toInt64)))]))
  refine Run.go (fun _ k => XS.dmulS Xg2.here hx rfl (hb hby d4_41) rfl (own_nd (own_h1 _)) rfl k) ?_
  show Run p e below s 0 0 (Q_rm4b Z q1 h0 n0) (T2.setTop (mkF m 42 #[.val (.long q1), .second, .val (.long (F_rm3 (q1 + (-7046029254386353131 : Int64)))), .second, .val (.double (own_x (((F_rm3 (q1 + (-7046029254386353131 : Int64))).toUInt64 >>> ((32 : Int32) &&& 0x3f).toInt64.toUInt64).toInt64))), .second, .val (.double (own_x ((F_rm3 (q1 + (-7046029254386353131 : Int64))) &&& (4294967295 : Int64)))), .second] [(.double (FP.dmul (own_x (((F_rm3 (q1 + (-7046029254386353131 : Int64))).toUInt64 >>> ((32 : Int32) &&& 0x3f).toInt64.toUInt64).toInt64)) (own_x (((F_rm3 (q1 + (-7046029254386353131 : Int64))).toUInt64 >>> ((32 : Int32) &&& 0x3f).toInt64.toUInt64).toInt64))))]))
  refine Run.go (fun _ k => XS.dload Xg2.here hx rfl (hb hby d4_42) rfl  k) ?_
  show Run p e below s 0 0 (Q_rm4b Z q1 h0 n0) (T2.setTop (mkF m 44 #[.val (.long q1), .second, .val (.long (F_rm3 (q1 + (-7046029254386353131 : Int64)))), .second, .val (.double (own_x (((F_rm3 (q1 + (-7046029254386353131 : Int64))).toUInt64 >>> ((32 : Int32) &&& 0x3f).toInt64.toUInt64).toInt64))), .second, .val (.double (own_x ((F_rm3 (q1 + (-7046029254386353131 : Int64))) &&& (4294967295 : Int64)))), .second] [(.double (own_x ((F_rm3 (q1 + (-7046029254386353131 : Int64))) &&& (4294967295 : Int64)))), (.double (FP.dmul (own_x (((F_rm3 (q1 + (-7046029254386353131 : Int64))).toUInt64 >>> ((32 : Int32) &&& 0x3f).toInt64.toUInt64).toInt64)) (own_x (((F_rm3 (q1 + (-7046029254386353131 : Int64))).toUInt64 >>> ((32 : Int32) &&& 0x3f).toInt64.toUInt64).toInt64))))]))
  refine Run.go (fun _ k => XS.dload Xg2.here hx rfl (hb hby d4_44) rfl  k) ?_
  show Run p e below s 0 0 (Q_rm4b Z q1 h0 n0) (T2.setTop (mkF m 46 #[.val (.long q1), .second, .val (.long (F_rm3 (q1 + (-7046029254386353131 : Int64)))), .second, .val (.double (own_x (((F_rm3 (q1 + (-7046029254386353131 : Int64))).toUInt64 >>> ((32 : Int32) &&& 0x3f).toInt64.toUInt64).toInt64))), .second, .val (.double (own_x ((F_rm3 (q1 + (-7046029254386353131 : Int64))) &&& (4294967295 : Int64)))), .second] [(.double (own_x ((F_rm3 (q1 + (-7046029254386353131 : Int64))) &&& (4294967295 : Int64)))), (.double (own_x ((F_rm3 (q1 + (-7046029254386353131 : Int64))) &&& (4294967295 : Int64)))), (.double (FP.dmul (own_x (((F_rm3 (q1 + (-7046029254386353131 : Int64))).toUInt64 >>> ((32 : Int32) &&& 0x3f).toInt64.toUInt64).toInt64)) (own_x (((F_rm3 (q1 + (-7046029254386353131 : Int64))).toUInt64 >>> ((32 : Int32) &&& 0x3f).toInt64.toUInt64).toInt64))))]))
  refine Run.go (fun _ k => XS.dmulS Xg2.here hx rfl (hb hby d4_46) rfl (own_nd (own_h2 _)) rfl k) ?_
  show Run p e below s 0 0 (Q_rm4b Z q1 h0 n0) (T2.setTop (mkF m 47 #[.val (.long q1), .second, .val (.long (F_rm3 (q1 + (-7046029254386353131 : Int64)))), .second, .val (.double (own_x (((F_rm3 (q1 + (-7046029254386353131 : Int64))).toUInt64 >>> ((32 : Int32) &&& 0x3f).toInt64.toUInt64).toInt64))), .second, .val (.double (own_x ((F_rm3 (q1 + (-7046029254386353131 : Int64))) &&& (4294967295 : Int64)))), .second] [(.double (FP.dmul (own_x ((F_rm3 (q1 + (-7046029254386353131 : Int64))) &&& (4294967295 : Int64))) (own_x ((F_rm3 (q1 + (-7046029254386353131 : Int64))) &&& (4294967295 : Int64))))), (.double (FP.dmul (own_x (((F_rm3 (q1 + (-7046029254386353131 : Int64))).toUInt64 >>> ((32 : Int32) &&& 0x3f).toInt64.toUInt64).toInt64)) (own_x (((F_rm3 (q1 + (-7046029254386353131 : Int64))).toUInt64 >>> ((32 : Int32) &&& 0x3f).toInt64.toUInt64).toInt64))))]))
  refine Run.go (fun _ k => XS.daddS Xg2.here hx rfl (hb hby d4_47) rfl (own_ne (own_h1 _) (own_h2 _)) rfl k) ?_
  show Run p e below s 0 0 (Q_rm4b Z q1 h0 n0) (T2.setTop (mkF m 48 #[.val (.long q1), .second, .val (.long (F_rm3 (q1 + (-7046029254386353131 : Int64)))), .second, .val (.double (own_x (((F_rm3 (q1 + (-7046029254386353131 : Int64))).toUInt64 >>> ((32 : Int32) &&& 0x3f).toInt64.toUInt64).toInt64))), .second, .val (.double (own_x ((F_rm3 (q1 + (-7046029254386353131 : Int64))) &&& (4294967295 : Int64)))), .second] [(.double (FP.dadd (FP.dmul (own_x (((F_rm3 (q1 + (-7046029254386353131 : Int64))).toUInt64 >>> ((32 : Int32) &&& 0x3f).toInt64.toUInt64).toInt64)) (own_x (((F_rm3 (q1 + (-7046029254386353131 : Int64))).toUInt64 >>> ((32 : Int32) &&& 0x3f).toInt64.toUInt64).toInt64))) (FP.dmul (own_x ((F_rm3 (q1 + (-7046029254386353131 : Int64))) &&& (4294967295 : Int64))) (own_x ((F_rm3 (q1 + (-7046029254386353131 : Int64))) &&& (4294967295 : Int64))))))]))
  refine Run.go (fun _ k => XS.dconst1 Xg2.here hx rfl (hb hby d4_48) rfl k) ?_
  show Run p e below s 0 0 (Q_rm4b Z q1 h0 n0) (T2.setTop (mkF m 49 #[.val (.long q1), .second, .val (.long (F_rm3 (q1 + (-7046029254386353131 : Int64)))), .second, .val (.double (own_x (((F_rm3 (q1 + (-7046029254386353131 : Int64))).toUInt64 >>> ((32 : Int32) &&& 0x3f).toInt64.toUInt64).toInt64))), .second, .val (.double (own_x ((F_rm3 (q1 + (-7046029254386353131 : Int64))) &&& (4294967295 : Int64)))), .second] [(.double FP.dconst1), (.double (FP.dadd (FP.dmul (own_x (((F_rm3 (q1 + (-7046029254386353131 : Int64))).toUInt64 >>> ((32 : Int32) &&& 0x3f).toInt64.toUInt64).toInt64)) (own_x (((F_rm3 (q1 + (-7046029254386353131 : Int64))).toUInt64 >>> ((32 : Int32) &&& 0x3f).toInt64.toUInt64).toInt64))) (FP.dmul (own_x ((F_rm3 (q1 + (-7046029254386353131 : Int64))) &&& (4294967295 : Int64))) (own_x ((F_rm3 (q1 + (-7046029254386353131 : Int64))) &&& (4294967295 : Int64))))))]))
  refine Run.go (fun _ k => XS.dcmpS Xg2.here hx rfl (hb hby d4_49) rfl rfl k) ?_
  show Run p e below s 0 0 (Q_rm4b Z q1 h0 n0) (T2.setTop (mkF m 50 #[.val (.long q1), .second, .val (.long (F_rm3 (q1 + (-7046029254386353131 : Int64)))), .second, .val (.double (own_x (((F_rm3 (q1 + (-7046029254386353131 : Int64))).toUInt64 >>> ((32 : Int32) &&& 0x3f).toInt64.toUInt64).toInt64))), .second, .val (.double (own_x ((F_rm3 (q1 + (-7046029254386353131 : Int64))) &&& (4294967295 : Int64)))), .second] [(.int (cmpValue (FP.dcmp (FP.dadd (FP.dmul (own_x (((F_rm3 (q1 + (-7046029254386353131 : Int64))).toUInt64 >>> ((32 : Int32) &&& 0x3f).toInt64.toUInt64).toInt64)) (own_x (((F_rm3 (q1 + (-7046029254386353131 : Int64))).toUInt64 >>> ((32 : Int32) &&& 0x3f).toInt64.toUInt64).toInt64))) (FP.dmul (own_x ((F_rm3 (q1 + (-7046029254386353131 : Int64))) &&& (4294967295 : Int64))) (own_x ((F_rm3 (q1 + (-7046029254386353131 : Int64))) &&& (4294967295 : Int64))))) FP.dconst1) .g))]))
  refine Run.go (fun _ k => XS.ifNo Xg2.here hx rfl (hb hby d4_50) rfl ((if0 _ _).trans (flt (own_inq _ hB)).2.2.1) k) ?_
  show Run p e below s 0 0 (Q_rm4b Z q1 h0 n0) (T2.setTop (mkF m 53 #[.val (.long q1), .second, .val (.long (F_rm3 (q1 + (-7046029254386353131 : Int64)))), .second, .val (.double (own_x (((F_rm3 (q1 + (-7046029254386353131 : Int64))).toUInt64 >>> ((32 : Int32) &&& 0x3f).toInt64.toUInt64).toInt64))), .second, .val (.double (own_x ((F_rm3 (q1 + (-7046029254386353131 : Int64))) &&& (4294967295 : Int64)))), .second] []))
  refine Run.go (fun _ k => XS.dload Xg2.here hx rfl (hb hby d4_53) rfl  k) ?_
  show Run p e below s 0 0 (Q_rm4b Z q1 h0 n0) (T2.setTop (mkF m 55 #[.val (.long q1), .second, .val (.long (F_rm3 (q1 + (-7046029254386353131 : Int64)))), .second, .val (.double (own_x (((F_rm3 (q1 + (-7046029254386353131 : Int64))).toUInt64 >>> ((32 : Int32) &&& 0x3f).toInt64.toUInt64).toInt64))), .second, .val (.double (own_x ((F_rm3 (q1 + (-7046029254386353131 : Int64))) &&& (4294967295 : Int64)))), .second] [(.double (own_x (((F_rm3 (q1 + (-7046029254386353131 : Int64))).toUInt64 >>> ((32 : Int32) &&& 0x3f).toInt64.toUInt64).toInt64)))]))
  refine Run.go (fun _ k => XS.dload Xg2.here hx rfl (hb hby d4_55) rfl  k) ?_
  show Run p e below s 0 0 (Q_rm4b Z q1 h0 n0) (T2.setTop (mkF m 57 #[.val (.long q1), .second, .val (.long (F_rm3 (q1 + (-7046029254386353131 : Int64)))), .second, .val (.double (own_x (((F_rm3 (q1 + (-7046029254386353131 : Int64))).toUInt64 >>> ((32 : Int32) &&& 0x3f).toInt64.toUInt64).toInt64))), .second, .val (.double (own_x ((F_rm3 (q1 + (-7046029254386353131 : Int64))) &&& (4294967295 : Int64)))), .second] [(.double (own_x ((F_rm3 (q1 + (-7046029254386353131 : Int64))) &&& (4294967295 : Int64)))), (.double (own_x (((F_rm3 (q1 + (-7046029254386353131 : Int64))).toUInt64 >>> ((32 : Int32) &&& 0x3f).toInt64.toUInt64).toInt64)))]))
  refine Run.go (fun _ k => XS.ddivS Xg2.here hx rfl (hb hby d4_57) rfl (own_nq _) (own_rat _) k) ?_
  show Run p e below s 0 0 (Q_rm4b Z q1 h0 n0) (T2.setTop (mkF m 58 #[.val (.long q1), .second, .val (.long (F_rm3 (q1 + (-7046029254386353131 : Int64)))), .second, .val (.double (own_x (((F_rm3 (q1 + (-7046029254386353131 : Int64))).toUInt64 >>> ((32 : Int32) &&& 0x3f).toInt64.toUInt64).toInt64))), .second, .val (.double (own_x ((F_rm3 (q1 + (-7046029254386353131 : Int64))) &&& (4294967295 : Int64)))), .second] [(.double (F_rm5 (F_rm3 (q1 + (-7046029254386353131 : Int64)))))]))
  refine Run.retD Xg2 hx Bd.returns Bd.notSynchronized (hb hby d4_58) (by decide) (by decide) ?_
  show Q_rm4b Z q1 h0 n0 _ T2.heap _
  exact ⟨rfl, Ng2, e2q⟩
theorem pd_1 : parseMethodDescriptor "(J)I" = some ⟨[.long], some .int⟩ := by decide +kernel
theorem pd_2 : parseMethodDescriptor "(J)D" = some ⟨[.long], some .double⟩ := by decide +kernel
def Q_rm0 (Z : State) (q1 : Int64) (h0 : Heap) (n0 : Nat) (v : Option Value) (h : Heap) (L : List Loc) : Prop := v = some (.int 1) ∧ Fr n0 L
theorem ef_rm0 (m : MethodId) (x0 : Int64) : entryFrame m #[(.long x0)] maxLocals = mkF m 0 #[.val (.long x0), .second, .unset, .unset, .unset] [] := by first | (simp [entryFrame, mkF, argsToLocals, Value.category, maxLocals]; done) | rfl
set_option maxRecDepth 65536 in
set_option maxHeartbeats 40000000 in
theorem rm0 (l : Launch) (Z : State) (a0 : Array Value) (hw : ∀ d ∈ tables_1, d.before a0 Z = true) (ws : List Jvm.Cond) (q1 : Int64) (h0 : Heap) (n0 : Nat) (Z0 : n0 ≤ h0.size)  :
    MetFree l x (head1 (Jvm.Cond.code x code maxLocals ret :: ws) room_1) (fun a U => a = #[(.long q1)] ∧ Z.Warmed39 U.vm ∧ U.heap = h0) (fun _ _ _ _ _ => True) (fun _ U o U' => ∃ v L, o = .returned v ∧ Q_rm0 Z q1 h0 n0 v U'.heap L ∧ FrameEnd U o U' L 0 0) := by
  refine MetFree.of_bodySF (plainFor_of_name pn_0) hisR ?_
  intro p e s m args below meth c s₁ Bd hml0 hP hK
  obtain ⟨rfl, hZ, hh⟩ := hP
  have hx := Bd.exec
  have hby := Bd.bytes
  have hml : c.maxLocals = 5 := hml0
  have hown : s.vm.findClass "com/example/outlyr/outlyr/detect/WindowSketchCauchyPinLaw" = some m.cls := findClass_of_methodNamed Bd.named
  have hnm := (name_of_methodNamed Bd.named Bd.method).1
  have X0 : Stand p l e room_1 s m #[(.long q1)] below meth c s₁ [] 0 0 := Stand.of_body Bd
  have e0 : s₁.heap = h0 := by rw [← hh, Bd.state]; rfl
  have N0 := Fr.nil n0
  show Run p e below s 0 0 (Q_rm0 Z q1 h0 n0) (s₁.setTop (entryFrame m #[(.long q1)] maxLocals))
  refine Run.go (fun _ k => castTop (ef_rm0 m q1) k) ?_
  show Run p e below s 0 0 (Q_rm0 Z q1 h0 n0) (s₁.setTop (mkF m 0 #[.val (.long q1), .second, .unset, .unset, .unset] []))
  refine Run.go (fun _ k => XS.lloadN X0.here hx rfl (hb hby at_0) rfl  k) ?_
  show Run p e below s 0 0 (Q_rm0 Z q1 h0 n0) (s₁.setTop (mkF m 1 #[.val (.long q1), .second, .unset, .unset, .unset] [(.long q1)]))
  obtain ⟨_, _, ⟨T2, L2, k2, n2⟩, -, X2, ⟨Lc2, hQ2, l2, y2, z2⟩, st2⟩ := Jvm.LawKit.callS X0 hx (y := (⟨"com/example/outlyr/outlyr/detect/WindowSketchCauchyPinLaw", "where", "(J)I"⟩ : MethodName)) hown (mvT hZ (hw _ (List.mem_of_getElem? (i := 0) rfl))) (mvT hZ (hw _ (List.mem_of_getElem? (i := 1) rfl))) (mvT hZ (hw _ (List.mem_of_getElem? (i := 2) rfl))) (mvT hZ (hw _ (List.mem_of_getElem? (i := 3) rfl))) (by decide) (backOf (W := 0) (rm1 l Z a0 hw [] q1 h0 n0 Z0 ) hZ (hw _ (List.mem_of_getElem? (i := 3) rfl)) (hw _ (List.mem_of_getElem? (i := 2) rfl)) (by decide) (by decide)) (g := (mkF m 1 #[.val (.long q1), .second, .unset, .unset, .unset] [(.long q1)])) rfl (by rw [hml]; rfl) (argsL := [(.long q1)]) (rest := []) (lenOf pd_1 rfl) rfl (by show 2 * 0 + _ ≤ _; exact Nat.le_of_eq rfl) (hb hby at_1) (fun _ _ => ⟨rfl, e0, (by decide : 0 + 0 ≤ _), (by decide : 0 + 0 ≤ _)⟩)
  dsimp only [Pt.U, Pt.locs, Pt.cells, Pt.slots] at X2 l2 y2 z2 st2 hQ2
  subst l2 y2 z2
  obtain ⟨rfl, N2q, e2q⟩ := hQ2
  have N2 := Fr.app N0 N2q
  obtain ⟨Lg2, Xg2, Ng2⟩ := Stand_gen X2 N2
  refine Run.go st2 ?_
  show Run p e below s 0 0 (Q_rm0 Z q1 h0 n0) (T2.setTop (mkF m 4 #[.val (.long q1), .second, .unset, .unset, .unset] [(.int (F_rm1 q1))]))
  refine Run.go (fun _ k => XS.istoreN Xg2.here hx rfl (hb hby at_4) rfl (l' := #[.val (.long q1), .second, .val (.int (F_rm1 q1)), .unset, .unset]) rfl k) ?_
  show Run p e below s 0 0 (Q_rm0 Z q1 h0 n0) (T2.setTop (mkF m 5 #[.val (.long q1), .second, .val (.int (F_rm1 q1)), .unset, .unset] []))
  refine Run.go (fun _ k => XS.iloadN Xg2.here hx rfl (hb hby at_5) rfl  k) ?_
  show Run p e below s 0 0 (Q_rm0 Z q1 h0 n0) (T2.setTop (mkF m 6 #[.val (.long q1), .second, .val (.int (F_rm1 q1)), .unset, .unset] [(.int (F_rm1 q1))]))
  refine Run.go (fun _ k => XS.iconst Xg2.here hx rfl (hb hby at_6) k) ?_
  show Run p e below s 0 0 (Q_rm0 Z q1 h0 n0) (T2.setTop (mkF m 7 #[.val (.long q1), .second, .val (.int (F_rm1 q1)), .unset, .unset] [(.int (1 : Int32)), (.int (F_rm1 q1))]))
  by_cases hc3 : ((F_rm1 q1) = (1 : Int32))
  · refine Run.go (fun _ k => XS.icmpNo Xg2.here hx rfl (hb hby at_7) rfl (teq hc3).2 k) ?_
    show Run p e below s 0 0 (Q_rm0 Z q1 h0 n0) (T2.setTop (mkF m 10 #[.val (.long q1), .second, .val (.int (F_rm1 q1)), .unset, .unset] []))
    refine Run.go (fun _ k => XS.lloadN Xg2.here hx rfl (hb hby at_10) rfl  k) ?_
    show Run p e below s 0 0 (Q_rm0 Z q1 h0 n0) (T2.setTop (mkF m 11 #[.val (.long q1), .second, .val (.int (F_rm1 q1)), .unset, .unset] [(.long q1)]))
    obtain ⟨_, _, ⟨T4, L4, k4, n4⟩, -, X4, ⟨Lc4, hQ4, l4, y4, z4⟩, st4⟩ := Jvm.LawKit.callS Xg2 hx (y := (⟨"com/example/outlyr/outlyr/detect/WindowSketch", "cauchy", "(J)D"⟩ : MethodName)) hown (mvT hZ (hw _ (List.mem_of_getElem? (i := 19) rfl))) (mvT hZ (hw _ (List.mem_of_getElem? (i := 20) rfl))) (mvT hZ (hw _ (List.mem_of_getElem? (i := 21) rfl))) (mvT hZ (hw _ (List.mem_of_getElem? (i := 22) rfl))) (by decide) (backOf (W := 0) (rm4a l Z a0 hw [] q1 h0 n0 Z0 hc3) hZ (hw _ (List.mem_of_getElem? (i := 22) rfl)) (hw _ (List.mem_of_getElem? (i := 21) rfl)) (by decide) (by decide)) (g := (mkF m 11 #[.val (.long q1), .second, .val (.int (F_rm1 q1)), .unset, .unset] [(.long q1)])) rfl (by rw [hml]; rfl) (argsL := [(.long q1)]) (rest := []) (lenOf pd_2 rfl) rfl (by show 2 * 0 + _ ≤ _; exact Nat.le_of_eq rfl) (hb hby at_11) (fun _ _ => ⟨rfl, e2q, (by decide : 0 + 0 ≤ _), (by decide : 0 + 0 ≤ _)⟩)
    dsimp only [Pt.U, Pt.locs, Pt.cells, Pt.slots] at X4 l4 y4 z4 st4 hQ4
    subst l4 y4 z4
    obtain ⟨rfl, N4q, e4q⟩ := hQ4
    have N4 := Fr.app Ng2 N4q
    obtain ⟨Lg4, Xg4, Ng4⟩ := Stand_gen X4 N4
    refine Run.go st4 ?_
    show Run p e below s 0 0 (Q_rm0 Z q1 h0 n0) (T4.setTop (mkF m 14 #[.val (.long q1), .second, .val (.int (F_rm1 q1)), .unset, .unset] [(.double (F_rm5 q1))]))
    refine Run.go (fun _ k => XS.lloadN Xg4.here hx rfl (hb hby at_14) rfl  k) ?_
    show Run p e below s 0 0 (Q_rm0 Z q1 h0 n0) (T4.setTop (mkF m 15 #[.val (.long q1), .second, .val (.int (F_rm1 q1)), .unset, .unset] [(.long q1), (.double (F_rm5 q1))]))
    obtain ⟨_, _, ⟨T5, L5, k5, n5⟩, -, X5, ⟨Lc5, hQ5, l5, y5, z5⟩, st5⟩ := Jvm.LawKit.callS Xg4 hx (y := (⟨"com/example/outlyr/outlyr/detect/WindowSketchCauchyPinLaw", "ratio", "(J)D"⟩ : MethodName)) hown (mvT hZ (hw _ (List.mem_of_getElem? (i := 28) rfl))) (mvT hZ (hw _ (List.mem_of_getElem? (i := 29) rfl))) (mvT hZ (hw _ (List.mem_of_getElem? (i := 2) rfl))) (mvT hZ (hw _ (List.mem_of_getElem? (i := 30) rfl))) (by decide) (backOf (W := 2) (rm5 l Z a0 hw [] q1 h0 n0 Z0 ) hZ (hw _ (List.mem_of_getElem? (i := 30) rfl)) (hw _ (List.mem_of_getElem? (i := 2) rfl)) (by decide) (by decide)) (g := (mkF m 15 #[.val (.long q1), .second, .val (.int (F_rm1 q1)), .unset, .unset] [(.long q1), (.double (F_rm5 q1))])) rfl (by rw [hml]; rfl) (argsL := [(.long q1)]) (rest := [(.double (F_rm5 q1))]) (lenOf pd_2 rfl) rfl (by show 2 * 0 + _ ≤ _; exact Nat.le_of_eq rfl) (hb hby at_15) (fun _ _ => ⟨rfl, e4q, (by decide : 0 + 0 ≤ _), (by decide : 0 + 0 ≤ _)⟩)
    dsimp only [Pt.U, Pt.locs, Pt.cells, Pt.slots] at X5 l5 y5 z5 st5 hQ5
    subst l5 y5 z5
    obtain ⟨rfl, N5q, e5q⟩ := hQ5
    have N5 := Fr.app Ng4 N5q
    obtain ⟨Lg5, Xg5, Ng5⟩ := Stand_gen X5 N5
    refine Run.go st5 ?_
    show Run p e below s 0 0 (Q_rm0 Z q1 h0 n0) (T5.setTop (mkF m 18 #[.val (.long q1), .second, .val (.int (F_rm1 q1)), .unset, .unset] [(.double (F_rm5 q1)), (.double (F_rm5 q1))]))
    refine Run.go (fun _ k => XS.dcmpS Xg5.here hx rfl (hb hby at_18) rfl (dcmpV_self (own_nrf _) .l) k) ?_
    show Run p e below s 0 0 (Q_rm0 Z q1 h0 n0) (T5.setTop (mkF m 19 #[.val (.long q1), .second, .val (.int (F_rm1 q1)), .unset, .unset] [(.int (0 : Int32))]))
    refine Run.go (fun _ k => XS.ifNo Xg5.here hx rfl (hb hby at_19) rfl ((if0 _ _).trans (teq (rfl : (0 : Int32) = (0 : Int32))).2) k) ?_
    show Run p e below s 0 0 (Q_rm0 Z q1 h0 n0) (T5.setTop (mkF m 22 #[.val (.long q1), .second, .val (.int (F_rm1 q1)), .unset, .unset] []))
    refine Run.go (fun _ k => XS.iconst Xg5.here hx rfl (hb hby at_22) k) ?_
    show Run p e below s 0 0 (Q_rm0 Z q1 h0 n0) (T5.setTop (mkF m 23 #[.val (.long q1), .second, .val (.int (F_rm1 q1)), .unset, .unset] [(.int (1 : Int32))]))
    refine Run.go (fun _ k => XS.goto Xg5.here hx rfl (pc0 := 23) (pc' := 27) rfl (hb hby at_23) (by decide) (by decide) k) ?_
    show Run p e below s 0 0 (Q_rm0 Z q1 h0 n0) (T5.setTop (mkF m 27 #[.val (.long q1), .second, .val (.int (F_rm1 q1)), .unset, .unset] [(.int (1 : Int32))]))
    exact Run.retN (y := 1) Xg5 hx (t := .boolean) Bd.returns (by simp) rfl Bd.notSynchronized (hb hby at_27) (by decide) (by decide) ⟨rfl, Ng5⟩
  · refine Run.go (fun _ k => XS.icmpYes Xg2.here hx rfl (pc0 := 7) (pc' := 28) rfl (hb hby at_7) rfl (feq hc3).2 (by decide) (by decide) k) ?_
    show Run p e below s 0 0 (Q_rm0 Z q1 h0 n0) (T2.setTop (mkF m 28 #[.val (.long q1), .second, .val (.int (F_rm1 q1)), .unset, .unset] []))
    refine Run.go (fun _ k => XS.iloadN Xg2.here hx rfl (hb hby at_28) rfl  k) ?_
    show Run p e below s 0 0 (Q_rm0 Z q1 h0 n0) (T2.setTop (mkF m 29 #[.val (.long q1), .second, .val (.int (F_rm1 q1)), .unset, .unset] [(.int (F_rm1 q1))]))
    refine Run.go (fun _ k => XS.iconst Xg2.here hx rfl (hb hby at_29) k) ?_
    show Run p e below s 0 0 (Q_rm0 Z q1 h0 n0) (T2.setTop (mkF m 30 #[.val (.long q1), .second, .val (.int (F_rm1 q1)), .unset, .unset] [(.int (-1 : Int32)), (.int (F_rm1 q1))]))
    by_cases hc6 : ((F_rm1 q1) = (-1 : Int32))
    · refine Run.go (fun _ k => XS.icmpNo Xg2.here hx rfl (hb hby at_30) rfl (teq hc6).2 k) ?_
      show Run p e below s 0 0 (Q_rm0 Z q1 h0 n0) (T2.setTop (mkF m 33 #[.val (.long q1), .second, .val (.int (F_rm1 q1)), .unset, .unset] []))
      refine Run.go (fun _ k => XS.lloadN Xg2.here hx rfl (hb hby at_33) rfl  k) ?_
      show Run p e below s 0 0 (Q_rm0 Z q1 h0 n0) (T2.setTop (mkF m 34 #[.val (.long q1), .second, .val (.int (F_rm1 q1)), .unset, .unset] [(.long q1)]))
      refine Run.go (fun _ k => Xg2.ldc2Long hx hown (mvT hZ (hw _ (List.mem_of_getElem? (i := 12) rfl))) (g := (mkF m 34 #[.val (.long q1), .second, .val (.int (F_rm1 q1)), .unset, .unset] [(.long q1)])) rfl (hb hby at_34) _ k) ?_
      show Run p e below s 0 0 (Q_rm0 Z q1 h0 n0) (T2.setTop (mkF m 37 #[.val (.long q1), .second, .val (.int (F_rm1 q1)), .unset, .unset] [(.long (-7046029254386353131 : Int64)), (.long q1)]))
      refine Run.go (fun _ k => XS.ladd Xg2.here hx rfl (hb hby at_37) rfl k) ?_
      show Run p e below s 0 0 (Q_rm0 Z q1 h0 n0) (T2.setTop (mkF m 38 #[.val (.long q1), .second, .val (.int (F_rm1 q1)), .unset, .unset] [(.long (q1 + (-7046029254386353131 : Int64)))]))
      obtain ⟨_, _, ⟨T7, L7, k7, n7⟩, -, X7, ⟨Lc7, hQ7, l7, y7, z7⟩, st7⟩ := Jvm.LawKit.callS Xg2 hx (y := (⟨"com/example/outlyr/outlyr/detect/SplitMix", "mix", "(J)J"⟩ : MethodName)) hown (mvT hZ (hw _ (List.mem_of_getElem? (i := 13) rfl))) (mvT hZ (hw _ (List.mem_of_getElem? (i := 14) rfl))) (mvT hZ (hw _ (List.mem_of_getElem? (i := 15) rfl))) (mvT hZ (hw _ (List.mem_of_getElem? (i := 16) rfl))) (by decide) (backOf (W := 0) (rm3 l Z a0 hw [] (q1 + (-7046029254386353131 : Int64)) h0 n0 Z0 ) hZ (hw _ (List.mem_of_getElem? (i := 16) rfl)) (hw _ (List.mem_of_getElem? (i := 15) rfl)) (by decide) (by decide)) (g := (mkF m 38 #[.val (.long q1), .second, .val (.int (F_rm1 q1)), .unset, .unset] [(.long (q1 + (-7046029254386353131 : Int64)))])) rfl (by rw [hml]; rfl) (argsL := [(.long (q1 + (-7046029254386353131 : Int64)))]) (rest := []) (lenOf pd_0 rfl) rfl (by show 2 * 0 + _ ≤ _; exact Nat.le_of_eq rfl) (hb hby at_38) (fun _ _ => ⟨rfl, e2q, (by decide : 0 + 0 ≤ _), (by decide : 0 + 0 ≤ _)⟩)
      dsimp only [Pt.U, Pt.locs, Pt.cells, Pt.slots] at X7 l7 y7 z7 st7 hQ7
      subst l7 y7 z7
      obtain ⟨rfl, N7q, e7q⟩ := hQ7
      have N7 := Fr.app Ng2 N7q
      obtain ⟨Lg7, Xg7, Ng7⟩ := Stand_gen X7 N7
      refine Run.go st7 ?_
      show Run p e below s 0 0 (Q_rm0 Z q1 h0 n0) (T7.setTop (mkF m 41 #[.val (.long q1), .second, .val (.int (F_rm1 q1)), .unset, .unset] [(.long (F_rm3 (q1 + (-7046029254386353131 : Int64))))]))
      refine Run.go (fun _ k => XS.lstoreN Xg7.here hx rfl (hb hby at_41) rfl (l' := #[.val (.long q1), .second, .val (.int (F_rm1 q1)), .val (.long (F_rm3 (q1 + (-7046029254386353131 : Int64)))), .second]) rfl k) ?_
      show Run p e below s 0 0 (Q_rm0 Z q1 h0 n0) (T7.setTop (mkF m 42 #[.val (.long q1), .second, .val (.int (F_rm1 q1)), .val (.long (F_rm3 (q1 + (-7046029254386353131 : Int64)))), .second] []))
      refine Run.go (fun _ k => XS.lloadN Xg7.here hx rfl (hb hby at_42) rfl  k) ?_
      show Run p e below s 0 0 (Q_rm0 Z q1 h0 n0) (T7.setTop (mkF m 43 #[.val (.long q1), .second, .val (.int (F_rm1 q1)), .val (.long (F_rm3 (q1 + (-7046029254386353131 : Int64)))), .second] [(.long (F_rm3 (q1 + (-7046029254386353131 : Int64))))]))
      obtain ⟨_, _, ⟨T8, L8, k8, n8⟩, -, X8, ⟨Lc8, hQ8, l8, y8, z8⟩, st8⟩ := Jvm.LawKit.callS Xg7 hx (y := (⟨"com/example/outlyr/outlyr/detect/WindowSketchCauchyPinLaw", "where", "(J)I"⟩ : MethodName)) hown (mvT hZ (hw _ (List.mem_of_getElem? (i := 0) rfl))) (mvT hZ (hw _ (List.mem_of_getElem? (i := 1) rfl))) (mvT hZ (hw _ (List.mem_of_getElem? (i := 2) rfl))) (mvT hZ (hw _ (List.mem_of_getElem? (i := 3) rfl))) (by decide) (backOf (W := 0) (rm1 l Z a0 hw [] (F_rm3 (q1 + (-7046029254386353131 : Int64))) h0 n0 Z0 ) hZ (hw _ (List.mem_of_getElem? (i := 3) rfl)) (hw _ (List.mem_of_getElem? (i := 2) rfl)) (by decide) (by decide)) (g := (mkF m 43 #[.val (.long q1), .second, .val (.int (F_rm1 q1)), .val (.long (F_rm3 (q1 + (-7046029254386353131 : Int64)))), .second] [(.long (F_rm3 (q1 + (-7046029254386353131 : Int64))))])) rfl (by rw [hml]; rfl) (argsL := [(.long (F_rm3 (q1 + (-7046029254386353131 : Int64))))]) (rest := []) (lenOf pd_1 rfl) rfl (by show 2 * 0 + _ ≤ _; exact Nat.le_of_eq rfl) (hb hby at_43) (fun _ _ => ⟨rfl, e7q, (by decide : 0 + 0 ≤ _), (by decide : 0 + 0 ≤ _)⟩)
      dsimp only [Pt.U, Pt.locs, Pt.cells, Pt.slots] at X8 l8 y8 z8 st8 hQ8
      subst l8 y8 z8
      obtain ⟨rfl, N8q, e8q⟩ := hQ8
      have N8 := Fr.app Ng7 N8q
      obtain ⟨Lg8, Xg8, Ng8⟩ := Stand_gen X8 N8
      refine Run.go st8 ?_
      show Run p e below s 0 0 (Q_rm0 Z q1 h0 n0) (T8.setTop (mkF m 46 #[.val (.long q1), .second, .val (.int (F_rm1 q1)), .val (.long (F_rm3 (q1 + (-7046029254386353131 : Int64)))), .second] [(.int (F_rm1 (F_rm3 (q1 + (-7046029254386353131 : Int64)))))]))
      refine Run.go (fun _ k => XS.iconst Xg8.here hx rfl (hb hby at_46) k) ?_
      show Run p e below s 0 0 (Q_rm0 Z q1 h0 n0) (T8.setTop (mkF m 47 #[.val (.long q1), .second, .val (.int (F_rm1 q1)), .val (.long (F_rm3 (q1 + (-7046029254386353131 : Int64)))), .second] [(.int (1 : Int32)), (.int (F_rm1 (F_rm3 (q1 + (-7046029254386353131 : Int64)))))]))
      by_cases hc9 : ((F_rm1 (F_rm3 (q1 + (-7046029254386353131 : Int64)))) = (1 : Int32))
      · refine Run.go (fun _ k => XS.icmpNo Xg8.here hx rfl (hb hby at_47) rfl (teq hc9).2 k) ?_
        show Run p e below s 0 0 (Q_rm0 Z q1 h0 n0) (T8.setTop (mkF m 50 #[.val (.long q1), .second, .val (.int (F_rm1 q1)), .val (.long (F_rm3 (q1 + (-7046029254386353131 : Int64)))), .second] []))
        refine Run.go (fun _ k => XS.lloadN Xg8.here hx rfl (hb hby at_50) rfl  k) ?_
        show Run p e below s 0 0 (Q_rm0 Z q1 h0 n0) (T8.setTop (mkF m 51 #[.val (.long q1), .second, .val (.int (F_rm1 q1)), .val (.long (F_rm3 (q1 + (-7046029254386353131 : Int64)))), .second] [(.long q1)]))
        obtain ⟨_, _, ⟨T10, L10, k10, n10⟩, -, X10, ⟨Lc10, hQ10, l10, y10, z10⟩, st10⟩ := Jvm.LawKit.callS Xg8 hx (y := (⟨"com/example/outlyr/outlyr/detect/WindowSketch", "cauchy", "(J)D"⟩ : MethodName)) hown (mvT hZ (hw _ (List.mem_of_getElem? (i := 19) rfl))) (mvT hZ (hw _ (List.mem_of_getElem? (i := 20) rfl))) (mvT hZ (hw _ (List.mem_of_getElem? (i := 21) rfl))) (mvT hZ (hw _ (List.mem_of_getElem? (i := 22) rfl))) (by decide) (backOf (W := 0) (rm4b l Z a0 hw [] q1 h0 n0 Z0 hc6 hc9) hZ (hw _ (List.mem_of_getElem? (i := 22) rfl)) (hw _ (List.mem_of_getElem? (i := 21) rfl)) (by decide) (by decide)) (g := (mkF m 51 #[.val (.long q1), .second, .val (.int (F_rm1 q1)), .val (.long (F_rm3 (q1 + (-7046029254386353131 : Int64)))), .second] [(.long q1)])) rfl (by rw [hml]; rfl) (argsL := [(.long q1)]) (rest := []) (lenOf pd_2 rfl) rfl (by show 2 * 0 + _ ≤ _; exact Nat.le_of_eq rfl) (hb hby at_51) (fun _ _ => ⟨rfl, e8q, (by decide : 0 + 0 ≤ _), (by decide : 0 + 0 ≤ _)⟩)
        dsimp only [Pt.U, Pt.locs, Pt.cells, Pt.slots] at X10 l10 y10 z10 st10 hQ10
        subst l10 y10 z10
        obtain ⟨rfl, N10q, e10q⟩ := hQ10
        have N10 := Fr.app Ng8 N10q
        obtain ⟨Lg10, Xg10, Ng10⟩ := Stand_gen X10 N10
        refine Run.go st10 ?_
        show Run p e below s 0 0 (Q_rm0 Z q1 h0 n0) (T10.setTop (mkF m 54 #[.val (.long q1), .second, .val (.int (F_rm1 q1)), .val (.long (F_rm3 (q1 + (-7046029254386353131 : Int64)))), .second] [(.double (F_rm5 (F_rm3 (q1 + (-7046029254386353131 : Int64)))))]))
        refine Run.go (fun _ k => XS.lloadN Xg10.here hx rfl (hb hby at_54) rfl  k) ?_
        show Run p e below s 0 0 (Q_rm0 Z q1 h0 n0) (T10.setTop (mkF m 55 #[.val (.long q1), .second, .val (.int (F_rm1 q1)), .val (.long (F_rm3 (q1 + (-7046029254386353131 : Int64)))), .second] [(.long (F_rm3 (q1 + (-7046029254386353131 : Int64)))), (.double (F_rm5 (F_rm3 (q1 + (-7046029254386353131 : Int64)))))]))
        obtain ⟨_, _, ⟨T11, L11, k11, n11⟩, -, X11, ⟨Lc11, hQ11, l11, y11, z11⟩, st11⟩ := Jvm.LawKit.callS Xg10 hx (y := (⟨"com/example/outlyr/outlyr/detect/WindowSketchCauchyPinLaw", "ratio", "(J)D"⟩ : MethodName)) hown (mvT hZ (hw _ (List.mem_of_getElem? (i := 28) rfl))) (mvT hZ (hw _ (List.mem_of_getElem? (i := 29) rfl))) (mvT hZ (hw _ (List.mem_of_getElem? (i := 2) rfl))) (mvT hZ (hw _ (List.mem_of_getElem? (i := 30) rfl))) (by decide) (backOf (W := 2) (rm5 l Z a0 hw [] (F_rm3 (q1 + (-7046029254386353131 : Int64))) h0 n0 Z0 ) hZ (hw _ (List.mem_of_getElem? (i := 30) rfl)) (hw _ (List.mem_of_getElem? (i := 2) rfl)) (by decide) (by decide)) (g := (mkF m 55 #[.val (.long q1), .second, .val (.int (F_rm1 q1)), .val (.long (F_rm3 (q1 + (-7046029254386353131 : Int64)))), .second] [(.long (F_rm3 (q1 + (-7046029254386353131 : Int64)))), (.double (F_rm5 (F_rm3 (q1 + (-7046029254386353131 : Int64)))))])) rfl (by rw [hml]; rfl) (argsL := [(.long (F_rm3 (q1 + (-7046029254386353131 : Int64))))]) (rest := [(.double (F_rm5 (F_rm3 (q1 + (-7046029254386353131 : Int64)))))]) (lenOf pd_2 rfl) rfl (by show 2 * 0 + _ ≤ _; exact Nat.le_of_eq rfl) (hb hby at_55) (fun _ _ => ⟨rfl, e10q, (by decide : 0 + 0 ≤ _), (by decide : 0 + 0 ≤ _)⟩)
        dsimp only [Pt.U, Pt.locs, Pt.cells, Pt.slots] at X11 l11 y11 z11 st11 hQ11
        subst l11 y11 z11
        obtain ⟨rfl, N11q, e11q⟩ := hQ11
        have N11 := Fr.app Ng10 N11q
        obtain ⟨Lg11, Xg11, Ng11⟩ := Stand_gen X11 N11
        refine Run.go st11 ?_
        show Run p e below s 0 0 (Q_rm0 Z q1 h0 n0) (T11.setTop (mkF m 58 #[.val (.long q1), .second, .val (.int (F_rm1 q1)), .val (.long (F_rm3 (q1 + (-7046029254386353131 : Int64)))), .second] [(.double (F_rm5 (F_rm3 (q1 + (-7046029254386353131 : Int64))))), (.double (F_rm5 (F_rm3 (q1 + (-7046029254386353131 : Int64)))))]))
        refine Run.go (fun _ k => XS.dcmpS Xg11.here hx rfl (hb hby at_58) rfl (dcmpV_self (own_nrf _) .l) k) ?_
        show Run p e below s 0 0 (Q_rm0 Z q1 h0 n0) (T11.setTop (mkF m 59 #[.val (.long q1), .second, .val (.int (F_rm1 q1)), .val (.long (F_rm3 (q1 + (-7046029254386353131 : Int64)))), .second] [(.int (0 : Int32))]))
        refine Run.go (fun _ k => XS.ifNo Xg11.here hx rfl (hb hby at_59) rfl ((if0 _ _).trans (teq (rfl : (0 : Int32) = (0 : Int32))).2) k) ?_
        show Run p e below s 0 0 (Q_rm0 Z q1 h0 n0) (T11.setTop (mkF m 62 #[.val (.long q1), .second, .val (.int (F_rm1 q1)), .val (.long (F_rm3 (q1 + (-7046029254386353131 : Int64)))), .second] []))
        refine Run.go (fun _ k => XS.iconst Xg11.here hx rfl (hb hby at_62) k) ?_
        show Run p e below s 0 0 (Q_rm0 Z q1 h0 n0) (T11.setTop (mkF m 63 #[.val (.long q1), .second, .val (.int (F_rm1 q1)), .val (.long (F_rm3 (q1 + (-7046029254386353131 : Int64)))), .second] [(.int (1 : Int32))]))
        refine Run.go (fun _ k => XS.goto Xg11.here hx rfl (pc0 := 63) (pc' := 67) rfl (hb hby at_63) (by decide) (by decide) k) ?_
        show Run p e below s 0 0 (Q_rm0 Z q1 h0 n0) (T11.setTop (mkF m 67 #[.val (.long q1), .second, .val (.int (F_rm1 q1)), .val (.long (F_rm3 (q1 + (-7046029254386353131 : Int64)))), .second] [(.int (1 : Int32))]))
        exact Run.retN (y := 1) Xg11 hx (t := .boolean) Bd.returns (by simp) rfl Bd.notSynchronized (hb hby at_67) (by decide) (by decide) ⟨rfl, Ng11⟩
      · refine Run.go (fun _ k => XS.icmpYes Xg8.here hx rfl (pc0 := 47) (pc' := 68) rfl (hb hby at_47) rfl (feq hc9).2 (by decide) (by decide) k) ?_
        show Run p e below s 0 0 (Q_rm0 Z q1 h0 n0) (T8.setTop (mkF m 68 #[.val (.long q1), .second, .val (.int (F_rm1 q1)), .val (.long (F_rm3 (q1 + (-7046029254386353131 : Int64)))), .second] []))
        refine Run.go (fun _ k => XS.iconst Xg8.here hx rfl (hb hby at_68) k) ?_
        show Run p e below s 0 0 (Q_rm0 Z q1 h0 n0) (T8.setTop (mkF m 69 #[.val (.long q1), .second, .val (.int (F_rm1 q1)), .val (.long (F_rm3 (q1 + (-7046029254386353131 : Int64)))), .second] [(.int (1 : Int32))]))
        exact Run.retN (y := 1) Xg8 hx (t := .boolean) Bd.returns (by simp) rfl Bd.notSynchronized (hb hby at_69) (by decide) (by decide) ⟨rfl, Ng8⟩
    · refine Run.go (fun _ k => XS.icmpYes Xg2.here hx rfl (pc0 := 30) (pc' := 68) rfl (hb hby at_30) rfl (feq hc6).2 (by decide) (by decide) k) ?_
      show Run p e below s 0 0 (Q_rm0 Z q1 h0 n0) (T2.setTop (mkF m 68 #[.val (.long q1), .second, .val (.int (F_rm1 q1)), .unset, .unset] []))
      refine Run.go (fun _ k => XS.iconst Xg2.here hx rfl (hb hby at_68) k) ?_
      show Run p e below s 0 0 (Q_rm0 Z q1 h0 n0) (T2.setTop (mkF m 69 #[.val (.long q1), .second, .val (.int (F_rm1 q1)), .unset, .unset] [(.int (1 : Int32))]))
      exact Run.retN (y := 1) Xg2 hx (t := .boolean) Bd.returns (by simp) rfl Bd.notSynchronized (hb hby at_69) (by decide) (by decide) ⟨rfl, Ng2⟩
set_option maxRecDepth 65536 in
set_option maxHeartbeats 40000000 in
theorem comes_1 {Post : Tables → Env → Array Value → State → Outcome → State → Prop} (hpost : ∀ tb e args s v u, (limb_1_1.after args s (.returned v) u = true ∧ limb_1_2.after args s (.returned v) u = true ∧ True) → FrameEnd s (.returned v) u (Jvm.fieldLocs frame_1_writes args s ++ Jvm.arrayLocs frame_1_arrays args s ++ Jvm.staticLocs frame_1_statics s) 0 0 → Post tb e args s (.returned v) u) :
    ArmFor flags0 classFile x code maxLocals ret World_1 tables_1 room_1 Calls_1 rest_1 Pre_1 Post := by
  intro l hfl _ _ p e ha hc hk s m args below hf hA hF happ hP
  obtain ⟨hcalls, hrest, hpre⟩ := hP
  obtain ⟨-, -, -, hnamed, -, -, -, hat⟩ := (Spec.applies_iff hf).mp happ
  obtain ⟨hg, hn⟩ := and_e (Cond.before_iff.mp (show (Jvm.Cond.and given_1 narrow_1).before args s = true from hpre))
  obtain ⟨g1, g2⟩ := and_e hg
  obtain ⟨w0, rfl⟩ : ∃ w0 : Value, args = #[w0] := by
    have hs : args.size = 1 := by simpa [Cond.value, given_1] using g1
    obtain ⟨L⟩ := args
    match L, hs with
    | [w0], _ => exact ⟨w0, rfl⟩
  have hw := fun d (hd : d ∈ tables_1) => atoms_spec (ws := Jvm.Cond.code x code maxLocals ret :: tables_1) hat d (List.mem_cons_of_mem _ hd)
  have hfit : Fit s := fun {y c} hc i hi => by
    obtain ⟨ha, rfl⟩ := Array.getElem?_eq_some_iff.mp hc
    have q := List.all_eq_true.mp ((Array.all_eq_true_iff_forall_mem.mp hF) _ (Array.getElem_mem ha)) i (List.mem_range.mpr hi)
    simpa [Array.getElem?_eq_getElem hi] using q
  obtain ⟨i0, ei0⟩ := isL_v g2
  obtain rfl : w0 = (.long i0) := Option.some.inj ei0
  obtain ⟨n, o, h1, h2, h3, _, L, rfl, ⟨rfl, N⟩, hq⟩ := rm0 l s _ hw tables_1 i0 s.heap s.heap.size (Nat.le_refl _)  p e ha hc hk s m _ below hf ((Spec.applies_iff_loose hf).mp happ).1 ⟨rfl, State.Warmed39.refl s, rfl⟩ trivial
  refine ⟨n, _, h1, h2, h3, hpost _ _ _ _ _ _ ⟨Cond.after_iff.mpr rfl, Cond.after_iff.mpr (eq_i res_at (Term.int_eval (1)) rfl), trivial⟩ ⟨hq.1, hq.2.1, (hq.2.2.sift fun y hy => Or.inr (N y hy)).mono (by decide) (by decide)⟩⟩
theorem main_1_1 : Claimed_1_1 := comes_1 fun _ _ _ _ _ _ h hF => ⟨h.1, hF⟩
theorem main_1_2 : Claimed_1_2 := comes_1 fun _ _ _ _ _ _ h hF => ⟨h.2.1, hF⟩
end Jvm.Pilot.@@N@@
namespace Jvm.Pilot.@@N@@
open Jvm Jvm.ClassFile Sem Op Lib Jvm.Free Jvm.Stand Jvm.Pilot.@@N@@.Jvm.D
/-! MADE BY PROGRAM (witnessworld.py) out of the Statement's table words and the real class files: 10 classes; the members and pool entries that the words name. The judged class is class 1, her method 4. -/
namespace start1
open Jvm.ClassFile
def u (s : String) : CpInfo := .utf8 (stringToUtf16 s)
/-- a pool by its gaps: so many unusable entries, then the entry; so many at the end -/
def gap : Nat → List CpInfo → List CpInfo
  | 0, r => r
  | n + 1, r => .unusable :: gap n r
def poolList (es : List (Nat × CpInfo)) (last : Nat) : List CpInfo := es.foldr (fun e r => gap e.1 (e.2 :: r)) (gap last [])
def pool (es : List (Nat × CpInfo)) (last : Nat) : Array CpInfo := ⟨poolList es last⟩
def fileOf (pool : Array CpInfo) (this : Nat) (attrs : Array Attribute := #[]) (ms : Array MethodInfo := #[]) (fl : Nat := 33) (sup : Nat := 0) (ifs : Array Nat := #[]) (fds : Array FieldInfo := #[]) : ClassFile where
  minorVersion := 0
  majorVersion := 65
  constantPool := pool
  accessFlags := fl
  thisClass := this
  superClass := sup
  interfaces := ifs
  fields := fds
  methods := ms
  attributes := attrs
def plain (name : String) (sup : Option ClassId) : Class where
  name := name
  kind := .ordinary
  loader := none
  accessFlags := 33
  super := sup
  interfaces := #[]
  cf := none
  fields := #[]
  methods := #[]
  instanceTypes := #[]
  staticTypes := #[]
  resolved := #[]
  callSites := []
  init := .initialized
  statics := none
  mirror := none

def pool0 : Array CpInfo := pool [(5, u "<init>"), (0, u "()V"), (1, .class_ 10), (1, u "java/lang/Object")] 113

def k0m0 : Method := { name := "<init>", desc := "()V", sig := { parameters := [], returnType := none }, accessFlags := 1, code := none }
/-- java/lang/Object -/
def k0 : Class := { plain "java/lang/Object" none with
  accessFlags := 33
  interfaces := #[]
  cf := some (fileOf pool0 8 #[] #[{ accessFlags := 1, nameIndex := 5, descriptorIndex := 6, attributes := #[] }] 33 0 #[] #[])
  fields := #[]
  methods := #[k0m0]
  instanceTypes := #[]
  staticTypes := #[]
  resolved := Array.replicate 124 none
  statics := none }

def pool1 : Array CpInfo := pool [(2, .class_ 4), (1, u "java/lang/Object"), (0, u "<init>"), (0, u "()V"), (0, .long 2), (1, .long 4294967296), (1, .methodref 12 13), (0, .class_ 14), (0, .nameAndType 15 16), (0, u "com/example/outlyr/outlyr/detect/WindowSketchCauchyPinLaw"), (0, u "num"), (0, u "(J)J"), (0, .long 4294967295), (1, .long 4611686018426863616), (1, .long 4611686018427912192), (1, .methodref 12 24), (0, .nameAndType 25 26), (0, u "where"), (0, u "(J)I"), (0, .methodref 28 29), (0, .class_ 30), (0, .nameAndType 31 32), (0, u "com/example/outlyr/outlyr/detect/WindowSketch"), (0, u "cauchy"), (0, u "(J)D"), (0, .methodref 12 34), (0, .nameAndType 35 32), (0, u "ratio"), (0, .class_ 37), (0, u "com/example/outlyr/outlyr/detect/SplitMix"), (0, .long 11400714819323198485), (1, .methodref 36 41), (0, .nameAndType 42 16), (0, u "mix"), (3, u "law"), (0, u "(J)Z")] 2

def k1m0 : Method := { name := "<init>", desc := "()V", sig := { parameters := [], returnType := none }, accessFlags := 1, code := none }
def k1c1 : Code := { maxStack := 4, maxLocals := 2, code := method_2_code, exceptionTable := #[], attributes := #[] }
def k1m1 : Method := { name := "num", desc := "(J)J", sig := { parameters := [.long], returnType := some .long }, accessFlags := 10, code := some k1c1 }
def k1c2 : Code := { maxStack := 6, maxLocals := 8, code := method_3_code, exceptionTable := #[], attributes := #[] }
def k1m2 : Method := { name := "where", desc := "(J)I", sig := { parameters := [.long], returnType := some .int }, accessFlags := 10, code := some k1c2 }
def k1c3 : Code := { maxStack := 4, maxLocals := 6, code := method_4_code, exceptionTable := #[], attributes := #[] }
def k1m3 : Method := { name := "ratio", desc := "(J)D", sig := { parameters := [.long], returnType := some .double }, accessFlags := 10, code := some k1c3 }
def k1c4 : Code := { maxStack := 4, maxLocals := 5, code := code, exceptionTable := #[], attributes := #[] }
def k1m4 : Method := { name := "law", desc := "(J)Z", sig := { parameters := [.long], returnType := some .boolean }, accessFlags := 9, code := some k1c4 }
/-- com/example/outlyr/outlyr/detect/WindowSketchCauchyPinLaw -/
def k1 : Class := { plain "com/example/outlyr/outlyr/detect/WindowSketchCauchyPinLaw" (some 0) with
  accessFlags := 49
  interfaces := #[]
  cf := some (fileOf pool1 12 #[] #[{ accessFlags := 1, nameIndex := 5, descriptorIndex := 6, attributes := #[] }, { accessFlags := 10, nameIndex := 15, descriptorIndex := 16, attributes := #[] }, { accessFlags := 10, nameIndex := 25, descriptorIndex := 26, attributes := #[] }, { accessFlags := 10, nameIndex := 35, descriptorIndex := 32, attributes := #[] }, { accessFlags := 9, nameIndex := 46, descriptorIndex := 47, attributes := #[] }] 49 2 #[] #[])
  fields := #[]
  methods := #[k1m0, k1m1, k1m2, k1m3, k1m4]
  instanceTypes := #[]
  staticTypes := #[]
  resolved := Array.replicate 50 none
  statics := none }

def pool2 : Array CpInfo := pool [(2, .class_ 4), (1, u "java/lang/Object"), (3, .class_ 10), (1, u "com/example/outlyr/outlyr/detect/SplitMix"), (0, u "state"), (0, u "J"), (4, u "mix"), (0, u "(J)J"), (17, .long 13787848793156543929), (1, .long 10723151780598845931), (1, u "GOLDEN")] 24

def k2c0 : Code := { maxStack := 5, maxLocals := 4, code := prog_11_method_4_code, exceptionTable := #[], attributes := #[] }
def k2m0 : Method := { name := "mix", desc := "(J)J", sig := { parameters := [.long], returnType := some .long }, accessFlags := 8, code := some k2c0 }
/-- com/example/outlyr/outlyr/detect/SplitMix -/
def k2 : Class := { plain "com/example/outlyr/outlyr/detect/SplitMix" (some 0) with
  accessFlags := 33
  interfaces := #[]
  cf := some (fileOf pool2 8 #[] #[{ accessFlags := 8, nameIndex := 17, descriptorIndex := 18, attributes := #[] }] 33 2 #[] #[{ accessFlags := 24, nameIndex := 40, descriptorIndex := 12, attributes := #[] }, { accessFlags := 2, nameIndex := 11, descriptorIndex := 12, attributes := #[] }])
  fields := #[{ name := "GOLDEN", type := .long, accessFlags := 24, slot := 0, constantValue := 0 }, { name := "state", type := .long, accessFlags := 2, slot := 0, constantValue := 0 }]
  methods := #[k2m0]
  instanceTypes := #[.long]
  staticTypes := #[.long]
  resolved := Array.replicate 65 none
  statics := none }

def pool3 : Array CpInfo := pool [(2, .class_ 4), (1, u "java/lang/Object"), (3, .class_ 10), (1, u "com/example/outlyr/outlyr/detect/WindowSketch"), (0, u "length"), (0, u "I"), (2, u "k"), (2, u "l"), (6, u "w"), (2, u "q1"), (12, u "q2"), (0, .class_ 43), (0, u "com/example/outlyr/outlyr/detect/SplitMix"), (11, u "base"), (0, u "(J)J"), (2, u "J"), (6, u "starts"), (0, u "[D"), (2, u "offsets"), (2, u "seeds"), (0, u "[J"), (3, u "(J)D"), (38, .methodref 42 118), (0, .nameAndType 119 56), (0, u "mix"), (2, u "cauchy"), (14, .double 4602678819172646912), (1, .double 4467570830351532032), (1, .long 4294967295), (1, .long 11400714819323198485), (3, u "UNIT"), (0, u "D")] 30

def k3c0 : Code := { maxStack := 6, maxLocals := 8, code := prog_12_method_7_code, exceptionTable := #[], attributes := #[] }
def k3m0 : Method := { name := "cauchy", desc := "(J)D", sig := { parameters := [.long], returnType := some .double }, accessFlags := 8, code := some k3c0 }
/-- com/example/outlyr/outlyr/detect/WindowSketch -/
def k3 : Class := { plain "com/example/outlyr/outlyr/detect/WindowSketch" (some 0) with
  accessFlags := 32
  interfaces := #[]
  cf := some (fileOf pool3 8 #[] #[{ accessFlags := 8, nameIndex := 122, descriptorIndex := 78, attributes := #[] }] 32 2 #[] #[{ accessFlags := 26, nameIndex := 147, descriptorIndex := 148, attributes := #[] }, { accessFlags := 18, nameIndex := 11, descriptorIndex := 12, attributes := #[] }, { accessFlags := 18, nameIndex := 15, descriptorIndex := 12, attributes := #[] }, { accessFlags := 18, nameIndex := 18, descriptorIndex := 12, attributes := #[] }, { accessFlags := 18, nameIndex := 25, descriptorIndex := 12, attributes := #[] }, { accessFlags := 18, nameIndex := 28, descriptorIndex := 12, attributes := #[] }, { accessFlags := 18, nameIndex := 41, descriptorIndex := 12, attributes := #[] }, { accessFlags := 18, nameIndex := 55, descriptorIndex := 59, attributes := #[] }, { accessFlags := 18, nameIndex := 66, descriptorIndex := 67, attributes := #[] }, { accessFlags := 18, nameIndex := 70, descriptorIndex := 67, attributes := #[] }, { accessFlags := 18, nameIndex := 73, descriptorIndex := 74, attributes := #[] }])
  fields := #[{ name := "UNIT", type := .double, accessFlags := 26, slot := 0, constantValue := 0 }, { name := "length", type := .int, accessFlags := 18, slot := 0, constantValue := 0 }, { name := "k", type := .int, accessFlags := 18, slot := 1, constantValue := 0 }, { name := "l", type := .int, accessFlags := 18, slot := 2, constantValue := 0 }, { name := "w", type := .int, accessFlags := 18, slot := 3, constantValue := 0 }, { name := "q1", type := .int, accessFlags := 18, slot := 4, constantValue := 0 }, { name := "q2", type := .int, accessFlags := 18, slot := 5, constantValue := 0 }, { name := "base", type := .long, accessFlags := 18, slot := 6, constantValue := 0 }, { name := "starts", type := (.array .double), accessFlags := 18, slot := 7, constantValue := 0 }, { name := "offsets", type := (.array .double), accessFlags := 18, slot := 8, constantValue := 0 }, { name := "seeds", type := (.array .long), accessFlags := 18, slot := 9, constantValue := 0 }]
  methods := #[k3m0]
  instanceTypes := #[.int, .int, .int, .int, .int, .int, .long, (.array .double), (.array .double), (.array .long)]
  staticTypes := #[.double]
  resolved := Array.replicate 179 none
  statics := none }

def pool4 : Array CpInfo := pool [(1, u "java/lang/Cloneable"), (0, .class_ 1), (0, u "java/lang/Object"), (0, .class_ 3)] 3

/-- java/lang/Cloneable -/
def k4 : Class := { plain "java/lang/Cloneable" (some 0) with
  accessFlags := 1537
  interfaces := #[]
  cf := some (fileOf pool4 2 #[] #[] 1537 4 #[] #[])
  fields := #[]
  methods := #[]
  instanceTypes := #[]
  staticTypes := #[]
  resolved := Array.replicate 8 none
  statics := none }

def pool5 : Array CpInfo := pool [(1, u "java/io/Serializable"), (0, .class_ 1), (0, u "java/lang/Object"), (0, .class_ 3)] 3

/-- java/io/Serializable -/
def k5 : Class := { plain "java/io/Serializable" (some 0) with
  accessFlags := 1537
  interfaces := #[]
  cf := some (fileOf pool5 2 #[] #[] 1537 4 #[] #[])
  fields := #[]
  methods := #[]
  instanceTypes := #[]
  staticTypes := #[]
  resolved := Array.replicate 8 none
  statics := none }

/-- the primitive byte -/
def k6 : Class := { plain "byte" none with kind := .primitive 'B', accessFlags := 0x411 }
/-- [B -/
def k7 : Class := { plain "[B" (some 0) with kind := .array 6 .byte, interfaces := #[4, 5], accessFlags := 1041 }

/-- the primitive int -/
def k8 : Class := { plain "int" none with kind := .primitive 'I', accessFlags := 0x411 }
/-- [I -/
def k9 : Class := { plain "[I" (some 0) with kind := .array 8 .int, interfaces := #[4, 5], accessFlags := 1041 }

def heap : Heap := #[]
def classes : Array Class := #[k0, k1, k2, k3, k4, k5, k6, k7, k8, k9]
def interned : List (Array UInt16 × Addr) := []
def slotsUsed : Nat := 0
def theMethod : MethodId := ⟨1, 4⟩
def args0 : Array Value := #[.long 5]
def aboutOver (below : List Frame) : State where
  vm := { classes := classes, interned := interned.toArray }
  heap := heap
  slotsUsed := slotsUsed
  threads := #[{ frames := .invoking theMethod args0 :: below }]
def below0 : List Frame := [.native { method := ⟨0, 0⟩, args := #[] }]
def about1 : State := aboutOver below0
def p0 : Program := .bare "" "" ""
def e0 : Env := launch0.env 0 0 0
theorem w_frames : about1.frames = Frame.invoking theMethod args0 :: below0 := rfl
set_option maxRecDepth 65536 in
theorem w_args : argsFit about1.vm theMethod args0 = true := by decide +kernel
set_option maxRecDepth 65536 in
theorem w_heap : heapFits about1 = true := by decide +kernel
set_option maxRecDepth 65536 in
theorem w_runnable : about1.curStatus? = some .runnable := by decide +kernel
set_option maxRecDepth 65536 in
theorem w_alone : about1.alone = true := by decide +kernel
set_option maxRecDepth 65536 in
theorem w_named : about1.methodNamed? x = some theMethod := by decide +kernel
set_option maxRecDepth 65536 in
theorem w_hears : about1.hears theMethod below0 = true := by decide +kernel
set_option maxRecDepth 65536 in
theorem w_ripe : about1.ripe theMethod args0 below0 = true := by decide +kernel
theorem w_running : about1.status = .running := rfl
set_option maxRecDepth 65536 in
theorem w_room : about1.hasRoom e0.platform room_1 = true :=
  launch0.hasRoom_least _ room_1 (by decide +kernel) (by decide +kernel) (by decide +kernel) (by decide +kernel) (by decide +kernel) (by decide +kernel)
theorem allAtoms_all (ts : List Jvm.Cond) (a : Array Jvm.Value) (st : Jvm.State) : (allAtoms ts).before a st = ts.all (fun c => c.before a st) := by
  induction ts with
  | nil => rfl
  | cons c t ih =>
    show (Jvm.Cond.and c (allAtoms t)).before a st = _
    rw [Jvm.Cond.before_and, ih, List.all_cons]
def words1 : List Jvm.Cond := Jvm.Cond.code x code maxLocals ret :: tables_1
/-- a 'code' word, met by the world's own term for the bytes: nothing is compared byte by byte -/
theorem code_word {y : MethodName} {bytes : ByteArray} {mx : Nat} {rt : Option FieldType} {a : Array Value} {s : State} {m : MethodId} {meth : Method} {c : Code} (h1 : s.methodNamed? y = some m) (h2 : s.vm.method? m = some meth) (h3 : meth.code = some c) (h4 : c.code = bytes)
    (h5 : (c.maxLocals == mx && c.exceptionTable.isEmpty && decide (c.maxStack ≤ mostOperands) && decide (meth.sig.returnType = rt) && !meth.locks && decide (parseMethodDescriptor y.desc = some meth.sig)) = true) : (Jvm.Cond.code y bytes mx rt).before a s = true := by
  simp only [Bool.and_eq_true, beq_iff_eq, Bool.not_eq_true', decide_eq_true_eq] at h5
  obtain ⟨⟨⟨⟨⟨g1, g2⟩, g3⟩, g4⟩, g5⟩, g6⟩ := h5
  simp [Cond.before, Cond.holds, Cond.value, h1, h2, h3, h4, g1, g2, g3, g4, g5, g6]
def isCode : Jvm.Cond → Bool
  | .code _ _ _ _ => true
  | _ => false
theorem all_split {L : List Jvm.Cond} {P : Jvm.Cond → Bool} (h1 : L.all (fun c => isCode c || P c) = true) (h2 : ∀ c ∈ L.filter isCode, P c = true) : L.all P = true := by
  refine List.all_eq_true.mpr fun c hc => ?_
  have h := List.all_eq_true.mp h1 c hc
  rcases Bool.eq_false_or_eq_true (isCode c) with hi | hi
  · exact h2 c (List.mem_filter.mpr ⟨hc, hi⟩)
  · simpa [hi] using h
set_option maxRecDepth 65536 in
theorem w_c0 : (Jvm.Cond.code x code maxLocals ret).before args0 about1 = true := code_word (m := ⟨1, 4⟩) (meth := k1m4) (c := k1c4) (by decide +kernel) rfl rfl rfl (by decide +kernel)
set_option maxRecDepth 65536 in
theorem w_c1 : (Jvm.Cond.code ({ cls := "com/example/outlyr/outlyr/detect/WindowSketchCauchyPinLaw", name := "where", desc := "(J)I" } : Jvm.MethodName) method_3_code (8 : Nat) (Option.some Jvm.ClassFile.FieldType.int)).before args0 about1 = true := code_word (m := ⟨1, 2⟩) (meth := k1m2) (c := k1c2) (by decide +kernel) rfl rfl rfl (by decide +kernel)
set_option maxRecDepth 65536 in
theorem w_c2 : (Jvm.Cond.code ({ cls := "com/example/outlyr/outlyr/detect/WindowSketchCauchyPinLaw", name := "num", desc := "(J)J" } : Jvm.MethodName) method_2_code (2 : Nat) (Option.some Jvm.ClassFile.FieldType.long)).before args0 about1 = true := code_word (m := ⟨1, 1⟩) (meth := k1m1) (c := k1c1) (by decide +kernel) rfl rfl rfl (by decide +kernel)
set_option maxRecDepth 65536 in
theorem w_c3 : (Jvm.Cond.code ({ cls := "com/example/outlyr/outlyr/detect/SplitMix", name := "mix", desc := "(J)J" } : Jvm.MethodName) prog_11_method_4_code (4 : Nat) (Option.some Jvm.ClassFile.FieldType.long)).before args0 about1 = true := code_word (m := ⟨2, 0⟩) (meth := k2m0) (c := k2c0) (by decide +kernel) rfl rfl rfl (by decide +kernel)
set_option maxRecDepth 65536 in
theorem w_c4 : (Jvm.Cond.code ({ cls := "com/example/outlyr/outlyr/detect/WindowSketch", name := "cauchy", desc := "(J)D" } : Jvm.MethodName) prog_12_method_7_code (8 : Nat) (Option.some Jvm.ClassFile.FieldType.double)).before args0 about1 = true := code_word (m := ⟨3, 0⟩) (meth := k3m0) (c := k3c0) (by decide +kernel) rfl rfl rfl (by decide +kernel)
set_option maxRecDepth 65536 in
theorem w_c5 : (Jvm.Cond.code ({ cls := "com/example/outlyr/outlyr/detect/WindowSketchCauchyPinLaw", name := "ratio", desc := "(J)D" } : Jvm.MethodName) method_4_code (6 : Nat) (Option.some Jvm.ClassFile.FieldType.double)).before args0 about1 = true := code_word (m := ⟨1, 3⟩) (meth := k1m3) (c := k1c3) (by decide +kernel) rfl rfl rfl (by decide +kernel)
def codes1 : List Jvm.Cond := [Jvm.Cond.code x code maxLocals ret, Jvm.Cond.code ({ cls := "com/example/outlyr/outlyr/detect/WindowSketchCauchyPinLaw", name := "where", desc := "(J)I" } : Jvm.MethodName) method_3_code (8 : Nat) (Option.some Jvm.ClassFile.FieldType.int), Jvm.Cond.code ({ cls := "com/example/outlyr/outlyr/detect/WindowSketchCauchyPinLaw", name := "num", desc := "(J)J" } : Jvm.MethodName) method_2_code (2 : Nat) (Option.some Jvm.ClassFile.FieldType.long), Jvm.Cond.code ({ cls := "com/example/outlyr/outlyr/detect/SplitMix", name := "mix", desc := "(J)J" } : Jvm.MethodName) prog_11_method_4_code (4 : Nat) (Option.some Jvm.ClassFile.FieldType.long), Jvm.Cond.code ({ cls := "com/example/outlyr/outlyr/detect/WindowSketch", name := "cauchy", desc := "(J)D" } : Jvm.MethodName) prog_12_method_7_code (8 : Nat) (Option.some Jvm.ClassFile.FieldType.double), Jvm.Cond.code ({ cls := "com/example/outlyr/outlyr/detect/WindowSketchCauchyPinLaw", name := "ratio", desc := "(J)D" } : Jvm.MethodName) method_4_code (6 : Nat) (Option.some Jvm.ClassFile.FieldType.double)]
set_option maxRecDepth 65536 in
theorem codes_eq : words1.filter isCode = codes1 := rfl
theorem w_codes : ∀ c ∈ words1.filter isCode, c.before args0 about1 = true := by
  rw [codes_eq]
  intro c hc
  simp only [codes1, List.mem_cons, List.not_mem_nil, or_false] at hc
  rcases hc with rfl | rfl | rfl | rfl | rfl | rfl
  · exact w_c0
  · exact w_c1
  · exact w_c2
  · exact w_c3
  · exact w_c4
  · exact w_c5
set_option maxRecDepth 65536 in
theorem w_t1 : (words1.take 24).all (fun c => isCode c || c.before args0 about1) = true := by decide +kernel
set_option maxRecDepth 65536 in
theorem w_t2 : (words1.drop 24).all (fun c => isCode c || c.before args0 about1) = true := by decide +kernel
theorem w_tables : (allAtoms (Jvm.Cond.code x code maxLocals ret :: tables_1)).before args0 about1 = true := by
  rw [allAtoms_all]
  show words1.all (fun c => c.before args0 about1) = true
  refine all_split ?_ w_codes
  rw [← List.take_append_drop 24 words1, List.all_append, w_t1, w_t2]
  rfl
set_option maxRecDepth 65536 in
theorem w_case : (Jvm.Cond.and given_1 narrow_1).before args0 about1 = true := by decide +kernel
theorem w_applies : (headSpec (Jvm.Cond.code x code maxLocals ret :: tables_1) room_1).applies x e0.platform about1 = true :=
  (Spec.applies_iff w_frames).mpr ⟨w_running, w_runnable, w_alone, w_named, w_hears, w_ripe, w_room, w_tables⟩
theorem atStart : AtStart classFile x code maxLocals ret World_1 tables_1 room_1 Calls_1 rest_1 Pre_1 launch0 p0 e0 about1 theMethod args0 below0 :=
  ⟨lists_1, trivial, launch0.admits_env _ _ _, launch0.least_env, fairChoices_fair.cas, fairChoices_fair.clock, w_frames, w_args, w_heap, w_applies, trivial, trivial, w_case⟩
end start1
theorem witness_1 : WitnessClaimed_1 := ⟨start1.p0, start1.e0, start1.about1, start1.theMethod, start1.args0, start1.below0, start1.atStart⟩
end Jvm.Pilot.@@N@@
