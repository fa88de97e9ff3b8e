import JvmDerived
import JvmDerived.Pilot.@@N@@Statement
import JvmDerived.Pilot.@@N@@Code
set_option linter.unusedVariables false
set_option linter.unusedSimpArgs false
namespace Jvm.Own
open Jvm Jvm.ClassFile Sem Op Lib Jvm.Free Jvm.Stand Jvm.LawKit Jvm.RoadKit
/-! ## A heap told by a list: each new object or array by its address and what its cell is -/
abbrev Des : Type := State → Cell → Prop
abbrev RL : Type := List (Addr × Des)
/-- an object of class C, its fields (name, descriptor, value), all declared in C -/
def Obj (C : String) (fs : List (String × String × Value)) : Des := fun Z c =>
  Exa Z (#[c] : Heap) 0 C ∧ (∀ (j : Nat) (x : String × String × Value), fs[j]? = some x → Fld Z (#[c] : Heap) 0 C x.1 x.2.1 x.2.2) ∧
  ∀ (i j : Nat) (x y : String × String × Value), i ≠ j → fs[i]? = some x → fs[j]? = some y → Jvm.RoadKit.slotOf Z C x.1 x.2.1 ≠ Jvm.RoadKit.slotOf Z C y.1 y.2.1
/-- an array of ty, all its values -/
def Ar (ty : FieldType) (vs : List Value) : Des := fun Z c => Z.isArrayOf c ty ∧ c.vm ≠ .unknown ∧ c.slots.toList = vs ∧ (∀ v ∈ vs, fits ty v = true) ∧ Exa Z (#[c] : Heap) 0 ("[" ++ ty.toString)
/-- every one of L lies in h, at or behind n0, no two at one place -/
def Bd (n0 : Nat × Nat) (k : Nat) : Prop := n0.1 ≤ k ∧ n0.2 ≤ k
theorem Bd.mono {n0 : Nat × Nat} {k j : Nat} (h : Bd n0 k) (q : k ≤ j) : Bd n0 j := ⟨Nat.le_trans h.1 q, Nat.le_trans h.2 q⟩
def Rep (Z : State) (n0 : Nat × Nat) (h : Heap) (L : RL) : Prop := Bd n0 h.size ∧ (L.map (·.1)).Nodup ∧ ∀ x ∈ L, n0.1 ≤ x.1 ∧ ∃ c : Cell, h[x.1]? = some c ∧ x.2 Z c
section Facts
variable {Z : State} {n0 : Nat × Nat} {h h' : Heap} {L : RL} {a : Addr} {c : Cell} {C n d : String} {v w : Value} {i j : Nat} {fs : List (String × String × Value)} {P P' : Des} {ty : FieldType} {vs : List Value}
theorem one_eq {c c' : Cell} (q : (#[c] : Heap)[0]? = some c') : c' = c := by simpa using q.symm
theorem fld_of (hc : h[a]? = some c) (F : Fld Z (#[c] : Heap) 0 C n d v) : Fld Z h a C n d v := by
  obtain ⟨cell, cf, k, i, f, h1, r⟩ := F
  cases one_eq h1
  exact ⟨_, cf, k, i, f, hc, r⟩
theorem fld_to (hc : h[a]? = some c) (F : Fld Z h a C n d v) : Fld Z (#[c] : Heap) 0 C n d v := by
  obtain ⟨cell, cf, k, i, f, h1, r⟩ := F
  cases hc.symm.trans h1
  exact ⟨_, cf, k, i, f, rfl, r⟩
theorem exa_of (hc : h[a]? = some c) (F : Exa Z (#[c] : Heap) 0 C) : Exa Z h a C := by
  obtain ⟨cell, k, h1, r⟩ := F
  cases one_eq h1
  exact ⟨_, k, hc, r⟩
theorem exa_to (hc : h[a]? = some c) (F : Exa Z h a C) : Exa Z (#[c] : Heap) 0 C := by
  obtain ⟨cell, k, h1, r⟩ := F
  cases hc.symm.trans h1
  exact ⟨_, k, rfl, r⟩
theorem Rep.nil (h : Heap) : Rep Z (h.size, h.size) h [] := ⟨⟨Nat.le_refl _, Nat.le_refl _⟩, List.nodup_nil, fun _ q => nomatch q⟩
theorem Rep.at (R : Rep Z n0 h L) (hi : L[i]? = some (a, P)) : n0.1 ≤ a ∧ ∃ c : Cell, h[a]? = some c ∧ P Z c := R.2.2 _ (List.mem_of_getElem? hi)
theorem Rep.ge (R : Rep Z n0 h L) (hi : L[i]? = some (a, P)) : n0.1 ≤ a := (R.at hi).1
theorem Rep.fld (R : Rep Z n0 h L) (hi : L[i]? = some (a, Obj C fs)) (hj : fs[j]? = some (n, d, v)) : Fld Z h a C n d v := by
  obtain ⟨-, c, hc, -, F, -⟩ := R.at hi
  exact fld_of hc (F j _ hj)
theorem Rep.exa (R : Rep Z n0 h L) (hi : L[i]? = some (a, Obj C fs)) : Exa Z h a C := by
  obtain ⟨-, c, hc, E, -⟩ := R.at hi
  exact exa_of hc E
theorem Rep.arr (R : Rep Z n0 h L) (hi : L[i]? = some (a, Ar ty vs)) : ∃ cl : Cell, Arr Z h a cl ty ∧ cl.slots.toList = vs := by
  obtain ⟨-, c, hc, A, B, V, -⟩ := R.at hi
  exact ⟨c, ⟨hc, A, B⟩, V⟩
theorem Rep.arr' (R : Rep Z n0 h L) (hi : L[i]? = some (a, Ar ty vs)) : ∃ cl : Cell, Arr Z h a cl ty ∧ cl.slots.toList = vs ∧ (∀ v ∈ vs, fits ty v = true) ∧ Exa Z h a ("[" ++ ty.toString) := by
  obtain ⟨-, c, hc, A, B, V, F, E⟩ := R.at hi
  exact ⟨c, ⟨hc, A, B⟩, V, F, exa_of hc E⟩
theorem wr_one {sl : Nat} (hc : h[a]? = some c) (W : Wr h h' a sl v) : Wr (#[c] : Heap) (#[c.setSlot sl v] : Heap) 0 sl v := by
  obtain ⟨cell, h1, h2, h3, -⟩ := W
  cases hc.symm.trans h1
  exact ⟨_, rfl, h2, h3, rfl⟩
theorem Rep.upd {sl : Nat} (R : Rep Z n0 h L) (hi : L[i]? = some (a, P)) (W : Wr h h' a sl v) (hP : ∀ c : Cell, h[a]? = some c → P Z c → P' Z (c.setSlot sl v)) : Rep Z n0 h' (L.set i (a, P')) := by
  have em : (L.set i (a, P')).map (·.1) = L.map (·.1) := by
    rw [List.map_set]
    apply List.ext_getElem?
    intro k
    rw [List.getElem?_set]
    split
    · rename_i e; subst e
      split
      · simp [hi]
      · rename_i e; simp only [List.length_map] at e; simp [List.getElem?_eq_none (Nat.le_of_not_lt e)]
    · rfl
  have il : i < L.length := (List.getElem?_eq_some_iff.mp hi).1
  refine ⟨by rw [W.size]; exact R.1, by rw [em]; exact R.2.1, fun x hx => ?_⟩
  obtain ⟨k, hk⟩ := List.mem_iff_getElem?.mp hx
  rw [List.getElem?_set] at hk
  split at hk
  · rename_i e; subst e
    cases hk
    obtain ⟨g, c, hc, p⟩ := R.at hi
    obtain ⟨c', e1, -, -, -, -, -, e7⟩ := wr_at W hc
    exact ⟨g, c', e1, by rw [(e7 rfl).1]; exact hP c hc p⟩
  · rename_i e
    obtain ⟨g, c, hc, p⟩ := R.2.2 x (List.mem_of_getElem? hk)
    have ne : x.1 ≠ a := fun q => by
      refine e ((List.getElem?_inj (l := L.map (·.1)) (by simpa using il) R.2.1).mp ?_)
      simp [hi, hk, q]
    obtain ⟨c', e1, -, -, -, e5, -⟩ := wr_at W hc
    exact ⟨g, c', e1, by rw [e5 ne]; exact p⟩
theorem Rep.put (R : Rep Z n0 h L) (hi : L[i]? = some (a, Obj C fs)) (hj : fs[j]? = some (n, d, w)) (W : Wr h h' a (Jvm.RoadKit.slotOf Z C n d) v) : Rep Z n0 h' (L.set i (a, Obj C (fs.set j (n, d, v)))) := by
  refine R.upd hi W fun c hc ⟨E, F, S⟩ => ?_
  have W1 := wr_one hc W
  have jl : j < fs.length := (List.getElem?_eq_some_iff.mp hj).1
  have key : ∀ (k : Nat) (x : String × String × Value), (fs.set j (n, d, v))[k]? = some x → ∃ y, fs[k]? = some y ∧ y.1 = x.1 ∧ y.2.1 = x.2.1 ∧ (k ≠ j → y = x) ∧ (k = j → x = (n, d, v)) := by
    intro k x hk
    rw [List.getElem?_set] at hk
    split at hk
    · rename_i e; subst e
      have hx := (Option.some.inj hk).symm
      exact ⟨(n, d, w), hj, by rw [hx], by rw [hx], fun q => absurd rfl q, fun _ => hx⟩
    · rename_i e
      exact ⟨x, hk, rfl, rfl, fun _ => rfl, fun q => absurd q.symm e⟩
  refine ⟨E.wr W1, fun k x hk => ?_, fun k k' x y ne hk hk' => ?_⟩
  · obtain ⟨y, y1, y2, y3, y4, y5⟩ := key k x hk
    by_cases e : k = j
    · subst e
      have hx := y5 rfl
      rw [hx]
      exact (F _ _ hj).same W1
    · have hx := y4 e
      subst hx
      have s : Jvm.RoadKit.slotOf Z C y.1 y.2.1 ≠ Jvm.RoadKit.slotOf Z C n d := S k j y (n, d, w) e y1 hj
      exact Fld.other W1 (F k y y1) (Or.inr s)
  · have kx := key k x hk
    have ky := key k' y hk'
    obtain ⟨x', x1, x2, x3, _⟩ := kx
    obtain ⟨y', y1, y2, y3, _⟩ := ky
    have := S k k' x' y' ne x1 y1
    rw [x2, x3, y2, y3] at this
    exact this
theorem Rep.sto {k : Nat} (R : Rep Z n0 h L) (hi : L[i]? = some (a, Ar ty vs)) (W : Wr h h' a k v) (hf : fits ty v = true) : Rep Z n0 h' (L.set i (a, Ar ty (vs.set k v))) := by
  refine R.upd hi W fun c hc ⟨A, B, V, F, E⟩ => ⟨A, B, ?_, fun x hx => ?_, E.wr (wr_one hc W)⟩
  · show (c.slots.setIfInBounds k v).toList = _
    rw [Array.toList_setIfInBounds, V]
  · rcases List.mem_or_eq_of_mem_set hx with q | q
    · exact F x q
    · rw [q]; exact hf
theorem Rep.add (R : Rep Z n0 h L) (E : Ext h h') (g : a = h.size) (hc : h'[a]? = some c) (p : P Z c) : Rep Z n0 h' ((a, P) :: L) := by
  refine ⟨Bd.mono R.1 E.1, ?_, fun x hx => ?_⟩
  · rw [List.map_cons, List.nodup_cons]
    refine ⟨fun q => ?_, R.2.1⟩
    obtain ⟨x, hx, e⟩ := List.mem_map.mp q
    obtain ⟨-, c, hc, -⟩ := R.2.2 x hx
    have := (Array.getElem?_eq_some_iff.mp hc).1
    exact absurd (e.trans g) (Nat.ne_of_lt this)
  · rcases List.mem_cons.mp hx with rfl | hx
    · exact ⟨g ▸ R.1.1, c, hc, p⟩
    · obtain ⟨q, c, hc, p⟩ := R.2.2 x hx
      exact ⟨q, c, E.2 _ _ hc, p⟩
theorem Rep.ext (R : Rep Z n0 h L) (E : Ext h h') : Rep Z n0 h' L := ⟨Bd.mono R.1 E.1, R.2.1, fun x hx => by
  obtain ⟨q, c, hc, p⟩ := R.2.2 x hx
  exact ⟨q, c, E.2 _ _ hc, p⟩⟩
theorem perm_front {α : Type} : ∀ (L : List α) (i : Nat) (x : α), L[i]? = some x → (x :: L.eraseIdx i).Perm L
  | [], _, _, q => nomatch q
  | y :: t, 0, x, q => by cases q; exact List.Perm.refl _
  | y :: t, i + 1, x, q => by
    have ih := perm_front t i x (by simpa using q)
    exact (List.Perm.swap y x (t.eraseIdx i)).trans (ih.cons y)
theorem Rep.front {x : Addr × Des} {L' : RL} (R : Rep Z n0 h L) (i : Nat) (hi : L[i]? = some x) (e : L.eraseIdx i = L') : Rep Z n0 h (x :: L') := by
  subst e
  have pm : (x :: L.eraseIdx i).Perm L := perm_front L i x hi
  exact ⟨R.1, (pm.map _).nodup_iff.mpr R.2.1, fun y hy => R.2.2 y (pm.mem_iff.mp hy)⟩
theorem Rep.tail {x : Addr × Des} (R : Rep Z n0 h (x :: L)) : Rep Z n0 h L := ⟨R.1, (List.nodup_cons.mp (by simpa using R.2.1)).2, fun y hy => R.2.2 y (List.mem_cons_of_mem _ hy)⟩
/-- what the sheet says of the fields of a new object, one by one -/
def LaidAll (Z : State) (a0 : Array Value) (C : String) : List (String × String × Value) → Prop
  | [] => True
  | x :: r => (Laid Z a0 C C x.1 x.2.1 ∧ ∃ ty, parseFieldDescriptor x.2.1 = some ty ∧ x.2.2 = defaultValue ty) ∧ LaidAll Z a0 C r
theorem LaidAll.mem {a0 : Array Value} : ∀ {fs : List (String × String × Value)}, LaidAll Z a0 C fs → ∀ x ∈ fs, Laid Z a0 C C x.1 x.2.1 ∧ ∃ ty, parseFieldDescriptor x.2.1 = some ty ∧ x.2.2 = defaultValue ty
  | [], _, _, hx => nomatch hx
  | y :: r, q, x, hx => (List.mem_cons.mp hx).elim (fun e => e ▸ q.1) (LaidAll.mem q.2 x)
theorem Rep.newO {a0 : Array Value} (R : Rep Z n0 h L) (E : Ext h h') (g : a = h.size) (A : Exa Z h' a C) (D : ∀ {O nm d : String} {ty : FieldType}, Laid Z a0 C O nm d → parseFieldDescriptor d = some ty → Fld Z h' a O nm d (defaultValue ty)) (hl : LaidAll Z a0 C fs) (hn : (fs.map (·.1)).Nodup) : Rep Z n0 h' ((a, Obj C fs) :: L) := by
  obtain ⟨c, k, hc, r⟩ := id A
  refine R.add E g hc ⟨exa_to hc A, fun j x hx => ?_, fun i j x y ne hx hy e => ?_⟩
  · obtain ⟨l, ty, p, q⟩ := hl.mem x (List.mem_of_getElem? hx)
    rw [q]; exact fld_to hc (D l p)
  · obtain ⟨l, ty, p, q⟩ := hl.mem x (List.mem_of_getElem? hx)
    obtain ⟨l', ty', p', q'⟩ := hl.mem y (List.mem_of_getElem? hy)
    refine slot_ne l l' (fun en => ne ?_) p p' e
    refine (List.getElem?_inj (l := fs.map (·.1)) (by simpa using (List.getElem?_eq_some_iff.mp hx).1) hn).mp ?_
    simp [hx, hy, en]
theorem Rep.newAr {z : Int32} {k : ClassId} (R : Rep Z n0 h L) (E : Ext h h') (g : a = h.size) (A : Arr Z h' a (newA k ty z) ty) (X : Exa Z h' a ("[" ++ ty.toString)) (hf : fits ty (defaultValue ty) = true) (hv : List.replicate z.toNatClampNeg (defaultValue ty) = vs) : Rep Z n0 h' ((a, Ar ty vs) :: L) := by
  refine R.add E g A.1 ⟨A.2.1, A.2.2, ?_, fun v hq => ?_, exa_to A.1 X⟩
  · rw [← hv]; simp [newA]
  · rw [← hv] at hq; rw [List.eq_of_mem_replicate hq]; exact hf
theorem in_of {cl : Cell} {q : Int32} (V : cl.slots.toList = vs) (hq : ¬ q < 0) (hv : q.toNatClampNeg < vs.length) : ¬ (q < 0 ∨ cl.slots.size ≤ q.toNatClampNeg) := by
  rintro (q1 | q1)
  · exact hq q1
  · rw [← V, Array.length_toList] at hv; omega
theorem at_of {cl : Cell} {k : Nat} (V : cl.slots.toList = vs) (hv : vs[k]? = some v) : cl.slots[k]? = some v := by
  rw [← hv, ← V, Array.getElem?_toList]
theorem lt_of {k : Nat} (hv : vs[k]? = some v) : k < vs.length := (List.getElem?_eq_some_iff.mp hv).1
end Facts
/-! ## One law a step -/
section Steps
variable {p : Program} {l : Launch} {e : Env} {R : Room} {s : State} {m : MethodId} {args : Array Value} {below : List Frame} {meth : Method} {c : Code} {T : State} {locs : List Loc} {cells slots : Nat} {Z : State} {a0 : Array Value} {h : Heap} {n0 : Nat × Nat} {L : RL}
theorem gGet (X : Stand p l e R s m args below meth c T locs cells slots) (hx : p.tables.exec = Jvm.exec) (hZ : Z.Warmed39 s.vm) {own C n d host : String} {index : Nat} (hown : s.vm.findClass own = some m.cls) (w : (Cond.fieldLink own index C n d).before a0 Z = true ∨ (Cond.fieldLinkNest own index C n d host).before a0 Z = true)
    (eT : T.heap = h) (Q : Rep Z n0 h L) (i j : Nat) {a : Addr} {fs : List (String × String × Value)} {v : Value} (hi : L[i]? = some (a, Obj C fs)) (hj : fs[j]? = some (n, d, v)) {g : JFrame} (hg : g.method = m) {rest : List Value} (hs : g.stack = .ref a :: rest) (hd : decode c.code g.pc = .ok (.getfield index, 3)) :
    ∃ T', Stand p l e R s m args below meth c T' locs cells slots ∧ T'.heap = h ∧ ∀ target, Steps p.tables e below (T'.setTop { g with pc := g.pc + 3, stack := v :: rest }) target → Steps p.tables e below (T.setTop g) target :=
  getF X hx hZ hown w Via.refl eT (Q.fld hi hj) hg hs hd
theorem gPut (X : Stand p l e R s m args below meth c T locs cells slots) (hx : p.tables.exec = Jvm.exec) (hZ : Z.Warmed39 s.vm) {own C n d host : String} {index kk : Nat} {ty : FieldType} (hown : s.vm.findClass own = some m.cls) (w : (Cond.fieldLink own index C n d).before a0 Z = true ∨ (Cond.fieldLinkNest own index C n d host).before a0 Z = true)
    (eT : T.heap = h) (N : Fr n0.1 locs) (Q : Rep Z n0 h L) (i j : Nat) {a : Addr} {fs : List (String × String × Value)} {v old : Value} (hi : L[i]? = some (a, Obj C fs)) (hj : fs[j]? = some (n, d, old))
    (Lw : (Cond.lays C C n d).before a0 Z = true ∨ ((Cond.laysFinal C C n d).before a0 Z = true ∧ own = C ∧ meth.name = "<init>")) (wi : (Cond.instantiable C kk).before a0 Z = true)
    (hty : parseFieldDescriptor d = some ty) (hn : narrow ty v = v) (hf : fits ty v = true) {g : JFrame} (hg : g.method = m) {rest : List Value} (hs : g.stack = v :: .ref a :: rest) (hd : decode c.code g.pc = .ok (.putfield index, 3)) :
    ∃ T' h' locs', Stand p l e R s m args below meth c T' locs' cells slots ∧ T'.heap = h' ∧ Fr n0.1 locs' ∧ Rep Z n0 h' (L.set i (a, Obj C (fs.set j (n, d, v)))) ∧ ∀ target, Steps p.tables e below (T'.setTop { g with pc := g.pc + 3, stack := rest }) target → Steps p.tables e below (T.setTop g) target := by
  obtain ⟨T', h', X', e', W, st⟩ := putF X hx hZ hown w Via.refl eT (Q.fld hi hj) (Q.exa hi) Lw wi hty hn hf hg hs hd
  exact ⟨T', h', _, X', e', Fr.snoc X' N (Q.ge hi), Q.put hi hj W, st⟩
theorem gNew (X : Stand p l e R s m args below meth c T locs cells slots) (hx : p.tables.exec = Jvm.exec) (hZ : Z.Warmed39 s.vm) {own C : String} {index n : Nat} (hown : s.vm.findClass own = some m.cls) (w : (Cond.classLink own index C).before a0 Z = true) (wi : (Cond.instantiable C n).before a0 Z = true) (wz : (Cond.initialized C).before a0 Z = true)
    (eT : T.heap = h) (Q : Rep Z n0 h L) {fs : List (String × String × Value)} (hl : LaidAll Z a0 C fs) (hn : (fs.map (·.1)).Nodup) {g : JFrame} (hg : g.method = m) (hd : decode c.code g.pc = .ok (.new index, 3)) (hc : cells + 1 ≤ R.cells) (hs : slots + n ≤ R.slots) :
    ∃ T' h' a, Stand p l e R s m args below meth c T' locs (cells + 1) (slots + n) ∧ T'.heap = h' ∧ Rep Z n0 h' ((a, Obj C fs) :: L) ∧ ∀ target, Steps p.tables e below (T'.setTop { g with pc := g.pc + 3, stack := .ref a :: g.stack }) target → Steps p.tables e below (T.setTop g) target := by
  obtain ⟨T', h', X', e', E, A, D, -, st⟩ := newO X hx hZ hown w wi wz eT hg hd hc hs
  exact ⟨T', h', _, X', e', Q.newO E rfl A D hl hn, st⟩
theorem gNewP (X : Stand p l e R s m args below meth c T locs cells slots) (hx : p.tables.exec = Jvm.exec) (hZ : Z.Warmed39 s.vm) {aty : ArrayType} (w : (Cond.arrayClass (newarray.typeOf aty)).before a0 Z = true)
    (eT : T.heap = h) (Q : Rep Z n0 h L) {g : JFrame} (hg : g.method = m) (hd : decode c.code g.pc = .ok (.newarray aty, 2)) {n : Int32} {rest : List Value} (hs : g.stack = .int n :: rest) (hn : ¬ n < 0) (cap : Nat) (hcap : n.toNatClampNeg ≤ cap) (hb : cap * 8 ≤ 536870912) (hc : cells + 1 ≤ R.cells) (hl : slots + cap ≤ R.slots)
    {vs : List Value} (hv : List.replicate n.toNatClampNeg (defaultValue (newarray.typeOf aty)) = vs) :
    ∃ T' h' a, Stand p l e R s m args below meth c T' locs (cells + 1) (slots + cap) ∧ T'.heap = h' ∧ Rep Z n0 h' ((a, Ar (newarray.typeOf aty) vs) :: L) ∧ ∀ target, Steps p.tables e below (T'.setTop { g with pc := g.pc + 2, stack := .ref a :: rest }) target → Steps p.tables e below (T.setTop g) target := by
  obtain ⟨T', h', cA, X', e', E, A, EX, st⟩ := newPE X hx hZ w eT hg hd hs hn hcap hb hc hl rfl
  exact ⟨T', h', _, X', e', Q.newAr E rfl A EX (by cases aty <;> rfl) hv, st⟩
theorem gLen (X : Stand p l e R s m args below meth c T locs cells slots) (hx : p.tables.exec = Jvm.exec) (hZ : Z.Warmed39 s.vm) (eT : T.heap = h) (Q : Rep Z n0 h L) (i : Nat) {a : Addr} {ty : FieldType} {vs : List Value} (hi : L[i]? = some (a, Ar ty vs))
    {g : JFrame} (hg : g.method = m) {rest : List Value} (hs : g.stack = .ref a :: rest) (hd : decode c.code g.pc = .ok (.arraylength, 1)) {z : Int32} (hz : Int32.ofNat vs.length = z) :
    ∀ target, Steps p.tables e below (T.setTop { g with pc := g.pc + 1, stack := .int z :: rest }) target → Steps p.tables e below (T.setTop g) target := by
  obtain ⟨cl, A, V⟩ := Q.arr hi
  intro target k
  refine X.arraylength hx (cell := cl) (by rw [eT]; exact A.1) (State.isArrayOf_alike hZ.alike A.2.1) hg hs hd _ ?_
  have q : cl.slots.size.toInt32 = z := by rw [← hz, ← V, Array.length_toList]
  rw [q]; exact k
theorem gIald (X : Stand p l e R s m args below meth c T locs cells slots) (hx : p.tables.exec = Jvm.exec) (hZ : Z.Warmed39 s.vm) (eT : T.heap = h) (Q : Rep Z n0 h L) (i : Nat) {a : Addr} {vs : List Value} (hi : L[i]? = some (a, Ar .int vs))
    {j : Int32} {v : Value} (hj : ¬ j < 0) (hv : vs[j.toNatClampNeg]? = some v) {g : JFrame} (hg : g.method = m) {rest : List Value} (hs : g.stack = .int j :: .ref a :: rest) (hd : decode c.code g.pc = .ok (.iaload, 1)) :
    ∀ target, Steps p.tables e below (T.setTop { g with pc := g.pc + 1, stack := v :: rest }) target → Steps p.tables e below (T.setTop g) target := by
  obtain ⟨cl, A, V⟩ := Q.arr hi
  intro target k
  exact X.iaload hx (by rw [eT]; exact A.1) (State.isArrayOf_alike hZ.alike A.2.1) A.2.2 (in_of V hj (lt_of hv)) (at_of V hv) hg hs hd _ k
theorem gLald (X : Stand p l e R s m args below meth c T locs cells slots) (hx : p.tables.exec = Jvm.exec) (hZ : Z.Warmed39 s.vm) (eT : T.heap = h) (Q : Rep Z n0 h L) (i : Nat) {a : Addr} {vs : List Value} (hi : L[i]? = some (a, Ar .long vs))
    {j : Int32} {v : Value} (hj : ¬ j < 0) (hv : vs[j.toNatClampNeg]? = some v) {g : JFrame} (hg : g.method = m) {rest : List Value} (hs : g.stack = .int j :: .ref a :: rest) (hd : decode c.code g.pc = .ok (.laload, 1)) :
    ∀ target, Steps p.tables e below (T.setTop { g with pc := g.pc + 1, stack := v :: rest }) target → Steps p.tables e below (T.setTop g) target := by
  obtain ⟨cl, A, V⟩ := Q.arr hi
  intro target k
  exact X.laload hx (by rw [eT]; exact A.1) (State.isArrayOf_alike hZ.alike A.2.1) A.2.2 (in_of V hj (lt_of hv)) (at_of V hv) hg hs hd _ k
theorem gBald (X : Stand p l e R s m args below meth c T locs cells slots) (hx : p.tables.exec = Jvm.exec) (hZ : Z.Warmed39 s.vm) (eT : T.heap = h) (Q : Rep Z n0 h L) (i : Nat) {a : Addr} {vs : List Value} (hi : L[i]? = some (a, Ar .byte vs))
    {j : Int32} {v : Value} (hj : ¬ j < 0) (hv : vs[j.toNatClampNeg]? = some v) {g : JFrame} (hg : g.method = m) {rest : List Value} (hs : g.stack = .int j :: .ref a :: rest) (hd : decode c.code g.pc = .ok (.baload, 1)) :
    ∀ target, Steps p.tables e below (T.setTop { g with pc := g.pc + 1, stack := v :: rest }) target → Steps p.tables e below (T.setTop g) target := by
  obtain ⟨cl, A, V⟩ := Q.arr hi
  intro target k
  exact X.baloadBytes hx (by rw [eT]; exact A.1) (State.isArrayOf_alike hZ.alike A.2.1) A.2.2 (in_of V hj (lt_of hv)) (at_of V hv) hg hs hd _ k
theorem gIst (X : Stand p l e R s m args below meth c T locs cells slots) (hx : p.tables.exec = Jvm.exec) (hZ : Z.Warmed39 s.vm) (eT : T.heap = h) (N : Fr n0.1 locs) (Q : Rep Z n0 h L) (i : Nat) {a : Addr} {vs : List Value} (hi : L[i]? = some (a, Ar .int vs))
    {j x : Int32} (hj : ¬ j < 0) (k : Nat) (hk : j.toNatClampNeg = k) (hv : k < vs.length) {g : JFrame} (hg : g.method = m) {rest : List Value} (hs : g.stack = .int x :: .int j :: .ref a :: rest) (hd : decode c.code g.pc = .ok (.iastore, 1)) :
    ∃ T' h' locs', Stand p l e R s m args below meth c T' locs' cells slots ∧ T'.heap = h' ∧ Fr n0.1 locs' ∧ Rep Z n0 h' (L.set i (a, Ar .int (vs.set k (.int x)))) ∧ ∀ target, Steps p.tables e below (T'.setTop { g with pc := g.pc + 1, stack := rest }) target → Steps p.tables e below (T.setTop g) target := by
  obtain ⟨cl, A, V⟩ := Q.arr hi
  subst hk
  obtain ⟨T', h', X', e', W, st⟩ := stI X hx hZ eT A (j := j) (x := x) (in_of V hj hv) hg hs hd
  exact ⟨T', h', _, X', e', Fr.snoc X' N (Q.ge hi), Q.sto hi W rfl, st⟩
theorem gLst (X : Stand p l e R s m args below meth c T locs cells slots) (hx : p.tables.exec = Jvm.exec) (hZ : Z.Warmed39 s.vm) (eT : T.heap = h) (N : Fr n0.1 locs) (Q : Rep Z n0 h L) (i : Nat) {a : Addr} {vs : List Value} (hi : L[i]? = some (a, Ar .long vs))
    {j : Int32} {x : Int64} (hj : ¬ j < 0) (k : Nat) (hk : j.toNatClampNeg = k) (hv : k < vs.length) {g : JFrame} (hg : g.method = m) {rest : List Value} (hs : g.stack = .long x :: .int j :: .ref a :: rest) (hd : decode c.code g.pc = .ok (.lastore, 1)) :
    ∃ T' h' locs', Stand p l e R s m args below meth c T' locs' cells slots ∧ T'.heap = h' ∧ Fr n0.1 locs' ∧ Rep Z n0 h' (L.set i (a, Ar .long (vs.set k (.long x)))) ∧ ∀ target, Steps p.tables e below (T'.setTop { g with pc := g.pc + 1, stack := rest }) target → Steps p.tables e below (T.setTop g) target := by
  obtain ⟨cl, A, V⟩ := Q.arr hi
  subst hk
  obtain ⟨T', h', X', e', W, st⟩ := stJ X hx hZ eT A (j := j) (x := x) (in_of V hj hv) hg hs hd
  exact ⟨T', h', _, X', e', Fr.snoc X' N (Q.ge hi), Q.sto hi W rfl, st⟩
theorem gBst (X : Stand p l e R s m args below meth c T locs cells slots) (hx : p.tables.exec = Jvm.exec) (hZ : Z.Warmed39 s.vm) (eT : T.heap = h) (N : Fr n0.1 locs) (Q : Rep Z n0 h L) (i : Nat) {a : Addr} {vs : List Value} (hi : L[i]? = some (a, Ar .byte vs))
    {j x : Int32} (hj : ¬ j < 0) (k : Nat) (hk : j.toNatClampNeg = k) (hv : k < vs.length) {g : JFrame} (hg : g.method = m) {rest : List Value} (hs : g.stack = .int x :: .int j :: .ref a :: rest) (hd : decode c.code g.pc = .ok (.bastore, 1)) :
    ∃ T' h' locs', Stand p l e R s m args below meth c T' locs' cells slots ∧ T'.heap = h' ∧ Fr n0.1 locs' ∧ Rep Z n0 h' (L.set i (a, Ar .byte (vs.set k (.int x.toInt8.toInt32)))) ∧ ∀ target, Steps p.tables e below (T'.setTop { g with pc := g.pc + 1, stack := rest }) target → Steps p.tables e below (T.setTop g) target := by
  obtain ⟨cl, A, V⟩ := Q.arr hi
  subst hk
  obtain ⟨T', h', X', e', W, st⟩ := stB X hx hZ eT A (j := j) (x := x) (in_of V hj hv) hg hs hd
  exact ⟨T', h', _, X', e', Fr.snoc X' N (Q.ge hi), Q.sto hi W (fits_nar_byte x), st⟩
theorem gClone (X : Stand p l e R s m args below meth c T locs cells slots) (hx : p.tables.exec = Jvm.exec) (hZ : Z.Warmed39 s.vm) {own ad : String} {index : Nat} (hown : s.vm.findClass own = some m.cls)
    (w1 : (Cond.methodLink own index ⟨ad, "clone", "()Ljava/lang/Object;"⟩).before a0 Z = true) (w2 : (Cond.sameMethod ad "java/lang/Object" "clone" "()Ljava/lang/Object;").before a0 Z = true) (w3 : (Cond.native ⟨"java/lang/Object", "clone", "()Ljava/lang/Object;"⟩).before a0 Z = true)
    (w4 : (Cond.instanceMethod ⟨"java/lang/Object", "clone", "()Ljava/lang/Object;"⟩).before a0 Z = true) (w5 : (Cond.selects ad ⟨ad, "clone", "()Ljava/lang/Object;"⟩ ⟨"java/lang/Object", "clone", "()Ljava/lang/Object;"⟩).before a0 Z = true) (w6 : (Cond.castable ad "java/lang/Cloneable").before a0 Z = true)
    (eT : T.heap = h) (Q : Rep Z n0 h L) (i : Nat) {a : Addr} {ty : FieldType} {vs : List Value} (hi : L[i]? = some (a, Ar ty vs)) (had : "[" ++ ty.toString = ad) {g : JFrame} (hg : g.method = m) (hsize : g.locals.size = c.maxLocals) {rest : List Value} (hs : g.stack = .ref a :: rest) (hd : decode c.code g.pc = .ok (.invokevirtual index, 3))
    (hf : 1 ≤ R.frames) {W : Nat} (cap : Nat) (hW : 2 * g.monitorRoom + (rest.map fun v => v.category).sum ≤ W) (hl : W + 14 ≤ R.locals) (hcap : vs.length ≤ cap) (hc : cells + 1 ≤ R.cells) (hsl : slots + cap ≤ R.slots) :
    ∃ T' h' b, Stand p l e R s m args below meth c T' locs (cells + 1) (slots + cap) ∧ T'.heap = h' ∧ Rep Z n0 h' ((b, Ar ty vs) :: L) ∧ Exa Z h' b ad ∧
      ∀ target, Steps p.tables e below (T'.setTop { g with pc := g.pc + 3, stack := .ref b :: rest }) target → Steps p.tables e below (T.setTop g) target := by
  subst had
  obtain ⟨cl, A, V, F, E⟩ := Q.arr' hi
  have FC : FitC Z cl := fitC_of A fun k hk v hv => F v (by rw [← V]; exact Array.mem_toList_iff.mpr (Array.mem_of_getElem? hv))
  obtain ⟨T', h', X', e', ex, A', E', st⟩ := cloneA X hx hZ hown w1 w2 w3 w4 w5 w6 eT A E FC hg hsize hs hd hf hW hl (by rw [← V, Array.length_toList] at hcap; exact hcap) hc hsl
  exact ⟨T', h', _, X', e', Q.add ex rfl A'.1 ⟨A'.2.1, A'.2.2, V, F, exa_to A'.1 E'⟩, E', st⟩
theorem gCast (X : Stand p l e R s m args below meth c T locs cells slots) (hx : p.tables.exec = Jvm.exec) (hZ : Z.Warmed39 s.vm) {own K : String} {index : Nat} (hown : s.vm.findClass own = some m.cls) (w : (Cond.classLink own index K).before a0 Z = true) (eT : T.heap = h) {a : Addr} (E : Exa Z h a K)
    {g : JFrame} (hg : g.method = m) {rest : List Value} (hs : g.stack = .ref a :: rest) (hd : decode c.code g.pc = .ok (.checkcast index, 3)) : ∃ T', Stand p l e R s m args below meth c T' locs cells slots ∧ T'.heap = h ∧ ∀ target, Steps p.tables e below (T'.setTop { g with pc := g.pc + 3 }) target → Steps p.tables e below (T.setTop g) target :=
  castY X hx hZ hown w eT (Ins.self E) hg hs hd
theorem arv_of {a : Addr} {ty : FieldType} {vs : List Value} {dv : Value} {cl : Cell} (A : Arr Z h a cl ty) (V : cl.slots.toList = vs) (F : ∀ v ∈ vs, fits ty v = true) (hl : vs.length < 2 ^ 31) : Arv Z h a cl.cls ty (Int32.ofNat vs.length) vs dv := by
  have q : (Int32.ofNat vs.length).toNatClampNeg = vs.length := by
    rw [Int32.toNatClampNeg, Int32.toInt_ofNat_of_lt hl]; rfl
  have S : cl.slots.size = vs.length := by rw [← V, Array.length_toList]
  have G : ∀ k, k < cl.slots.size → cl.slots[k]? = some (vs.getD k dv) := fun k hk => by
    rw [← Array.getElem?_toList, V, List.getD_eq_getElem?_getD, List.getElem?_eq_getElem (by omega)]; rfl
  refine ⟨cl, A, rfl, by rw [q, S], ?_, G, fun k hk => ?_⟩
  · rw [Int32.lt_iff_toInt_lt, Int32.toInt_ofNat_of_lt hl, show (0 : Int32).toInt = 0 from rfl]; omega
  · rw [List.getD_eq_getElem?_getD, List.getElem?_eq_getElem (by omega)]
    exact F _ (List.getElem_mem _)
theorem Rep.kept {h' : Heap} {i : Nat} {b : Addr} {P P' : Des} {cb : Cell} (Q : Rep Z n0 h L) (hi : L[i]? = some (b, P)) (K : Keep h h' [b]) (hc : h'[b]? = some cb) (p : P' Z cb) : Rep Z n0 h' (L.set i (b, P')) := by
  have em : (L.set i (b, P')).map (·.1) = L.map (·.1) := by
    rw [List.map_set]
    apply List.ext_getElem?
    intro k
    rw [List.getElem?_set]
    split
    · rename_i e; subst e
      split
      · simp [hi]
      · rename_i e; simp only [List.length_map] at e; simp [List.getElem?_eq_none (Nat.le_of_not_lt e)]
    · rfl
  have il : i < L.length := (List.getElem?_eq_some_iff.mp hi).1
  refine ⟨Bd.mono Q.1 K.1, by rw [em]; exact Q.2.1, fun x hx => ?_⟩
  obtain ⟨k, hk⟩ := List.mem_iff_getElem?.mp hx
  rw [List.getElem?_set] at hk
  split at hk
  · rename_i e; subst e
    cases hk
    exact ⟨Q.ge hi, cb, hc, p⟩
  · rename_i e
    obtain ⟨g, c, hc', p'⟩ := Q.2.2 x (List.mem_of_getElem? hk)
    have ne : x.1 ≠ b := fun q => by
      refine e ((List.getElem?_inj (l := L.map (·.1)) (by simpa using il) Q.2.1).mp ?_)
      simp [hi, hk, q]
    exact ⟨g, c, K.2.1 _ _ hc' (by simpa using ne), p'⟩
theorem gCopy (X : Stand p l e R s m args below meth c T locs cells slots) (hx : p.tables.exec = Jvm.exec) (hZ : Z.Warmed39 s.vm) {own : String} {index : Nat} (hown : s.vm.findClass own = some m.cls)
    (w1 : (Cond.methodLink own index Jvm.Stand.acN).before a0 Z = true) (w2 : (Cond.native Jvm.Stand.acN).before a0 Z = true) (w3 : (Cond.static Jvm.Stand.acN).before a0 Z = true) (w4 : (Cond.initialized "java/lang/System").before a0 Z = true) (eT : T.heap = h) (N : Fr n0.1 locs) (Q : Rep Z n0 h L) (i j : Nat)
    {a b : Addr} {ty : FieldType} {vs vd : List Value} (hi : L[i]? = some (a, Ar ty vs)) (hj : L[j]? = some (b, Ar ty vd)) (hty : refKind ty = false) (l1 : vs.length < 2 ^ 31) (l2 : vd.length < 2 ^ 31) {sp dp nn : Int32} (h1 : ¬ sp < 0) (h2 : ¬ dp < 0) (h3 : ¬ nn < 0) (si di ni : Nat) (es : sp.toNatClampNeg = si) (ed : dp.toNatClampNeg = di) (en : nn.toNatClampNeg = ni)
    (h4 : si + ni ≤ vs.length) (h5 : di + ni ≤ vd.length)
    {g : JFrame} (hg : g.method = m) (hsize : g.locals.size = c.maxLocals) {rest : List Value} (hs : g.stack = .int nn :: .int dp :: .ref b :: .int sp :: .ref a :: rest) (hd : decode c.code g.pc = .ok (.invokestatic index, 3))
    (hf : 1 ≤ R.frames) {W : Nat} (hW : 2 * g.monitorRoom + (rest.map fun v => v.category).sum ≤ W) (hlo : W + (nativeFrameWords "java/lang/System" "arraycopy" 5 + 11) ≤ R.locals) :
    ∃ T' h' L', Stand p l e R s m args below meth c T' L' cells slots ∧ T'.heap = h' ∧ Fr n0.1 L' ∧ Rep Z n0 h' (L.set j (b, Ar ty (vd.take di ++ (vs.drop si).take ni ++ vd.drop (di + ni)))) ∧
      ∀ target, Steps p.tables e below (T'.setTop { g with pc := g.pc + 3, stack := rest }) target → Steps p.tables e below (T.setTop g) target := by
  subst es ed en
  obtain ⟨ca, A, Va, Fa, Ea⟩ := Q.arr' hi
  obtain ⟨cb, B, Vb, Fb, Eb⟩ := Q.arr' hj
  have za : (Int32.ofNat vs.length).toNatClampNeg = vs.length := by rw [Int32.toNatClampNeg, Int32.toInt_ofNat_of_lt l1]; rfl
  have zb : (Int32.ofNat vd.length).toNatClampNeg = vd.length := by rw [Int32.toNatClampNeg, Int32.toInt_ofNat_of_lt l2]; rfl
  have hus : (vs.drop sp.toNatClampNeg).take nn.toNatClampNeg = (List.range nn.toNatClampNeg).map fun k => vs.getD (sp.toNatClampNeg + k) .null := by
    apply List.ext_getElem?
    intro k
    rw [List.getElem?_take, List.getElem?_drop, List.getElem?_map]
    by_cases q : k < nn.toNatClampNeg
    · rw [if_pos q, List.getElem?_range q, List.getElem?_eq_getElem (by omega)]
      simp [List.getD_eq_getElem?_getD, List.getElem?_eq_getElem (show sp.toNatClampNeg + k < vs.length by omega)]
    · rw [if_neg q, List.getElem?_eq_none (by simpa using q)]; rfl
  obtain ⟨T', h', L', X', e', N', K, ⟨c', A', -, S', -, H', G'⟩, st⟩ := cpA X hx hZ hown w1 w2 w3 w4 eT (arv_of (dv := .null) A Va Fa l1) (arv_of (dv := .null) B Vb Fb l2) (Or.inl ⟨rfl, hty⟩) h1 h2 h3 (by rw [za]; exact h4) (by rw [zb]; exact h5) hus h5 N (Q.ge hj) hg hsize hs hd hf hW hlo
  refine ⟨T', h', L', X', e', N', Q.kept hj K A'.1 ⟨A'.2.1, A'.2.2, ?_, fun v hv => ?_, exa_to A'.1 (Eb.keep K)⟩, st⟩
  · apply List.ext_getElem?
    intro k
    rw [Array.getElem?_toList]
    by_cases q : k < c'.slots.size
    · rw [H' k q, List.getD_eq_getElem?_getD, List.getElem?_eq_getElem]
      · rfl
      · rw [S', zb] at q; simp only [List.length_append, List.length_take, List.length_drop]; omega
    · rw [Array.getElem?_eq_none (by omega), List.getElem?_eq_none]
      rw [S', zb] at q; simp only [List.length_append, List.length_take, List.length_drop]; omega
  · rcases List.mem_append.mp hv with hv | hv
    · rcases List.mem_append.mp hv with hv | hv
      · exact Fb v (List.mem_of_mem_take hv)
      · exact Fa v (List.mem_of_mem_drop (List.mem_of_mem_take hv))
    · exact Fb v (List.mem_of_mem_drop hv)
theorem gMono (X : Stand p l e R s m args below meth c T locs cells slots) {cells' slots' : Nat} (h1 : cells ≤ cells') (h2 : slots ≤ slots') : Stand p l e R s m args below meth c T locs cells' slots' := { X with same := X.same.mono h1 h2 }
theorem retI (X : Stand p l e R s m args below meth c T locs cells slots) (hx : p.tables.exec = Jvm.exec) {pc : Nat} {Ls : Array Slot} {z : Int32} {rest : List Value} (hret : meth.sig.returnType = some .int) (hd : decode c.code pc = .ok (.ireturn, 1)) {fs : List Frame}
    (hl : ∀ (f : JFrame) (acts : List Action), f.method = m → f.locked = none → f.entered = [] → (doReturn e (T.setTop f) acts (some (.int z))).1 = T.setFrames fs) : Steps p.tables e below (T.setTop (mkF m pc Ls (.int z :: rest))) (T.setFrames fs) := by
  have hm' : T.vm.method? m = some meth := X.method'
  have hn : narrow .int (.int z) = .int z := rfl
  show Steps p.tables e below (T.setTop { method := m, pc := pc, locals := Ls, stack := _ :: rest, locked := none }) _
  jvm_step X.here [X.here.top, hx, hd, hm', hret, hn]
  first | (intro acts; rw [hl _ acts rfl rfl rfl]) | rw [hl _ _ rfl rfl rfl]
  exact Steps.refl _
theorem retL (X : Stand p l e R s m args below meth c T locs cells slots) (hx : p.tables.exec = Jvm.exec) {pc : Nat} {Ls : Array Slot} {z : Int64} {rest : List Value} (hret : meth.sig.returnType = some .long) (hd : decode c.code pc = .ok (.lreturn, 1)) {fs : List Frame}
    (hl : ∀ (f : JFrame) (acts : List Action), f.method = m → f.locked = none → f.entered = [] → (doReturn e (T.setTop f) acts (some (.long z))).1 = T.setFrames fs) : Steps p.tables e below (T.setTop (mkF m pc Ls (.long z :: rest))) (T.setFrames fs) := by
  have hm' : T.vm.method? m = some meth := X.method'
  have hn : narrow .long (.long z) = .long z := rfl
  show Steps p.tables e below (T.setTop { method := m, pc := pc, locals := Ls, stack := _ :: rest, locked := none }) _
  jvm_step X.here [X.here.top, hx, hd, hm', hret, hn]
  first | (intro acts; rw [hl _ acts rfl rfl rfl]) | rw [hl _ _ rfl rfl rfl]
  exact Steps.refl _
theorem retA (X : Stand p l e R s m args below meth c T locs cells slots) (hx : p.tables.exec = Jvm.exec) {pc : Nat} {Ls : Array Slot} {a : Addr} {rest : List Value} {t : FieldType} (ht : t.isReference = true) (hret : meth.sig.returnType = some t) (hd : decode c.code pc = .ok (.areturn, 1)) {fs : List Frame}
    (hl : ∀ (f : JFrame) (acts : List Action), f.method = m → f.locked = none → f.entered = [] → (doReturn e (T.setTop f) acts (some (.ref a))).1 = T.setFrames fs) : Steps p.tables e below (T.setTop (mkF m pc Ls (.ref a :: rest))) (T.setFrames fs) := by
  have hm' : T.vm.method? m = some meth := X.method'
  show Steps p.tables e below (T.setTop { method := m, pc := pc, locals := Ls, stack := _ :: rest, locked := none }) _
  jvm_step X.here [X.here.top, hx, hd, hm', hret, ht, Value.isRef]
  first | (intro acts; rw [hl _ acts rfl rfl rfl]) | rw [hl _ _ rfl rfl rfl]
  exact Steps.refl _
end Steps
abbrev iushr (x y : Int32) : Int32 := (x.toUInt32 >>> (y &&& 31).toUInt32).toInt32
abbrev lushr (x : Int64) (y : Int32) : Int64 := (x.toUInt64 >>> (y &&& 0x3f).toInt64.toUInt64).toInt64
abbrev ishl (x y : Int32) : Int32 := x <<< (y &&& 31)
abbrev ishr (x y : Int32) : Int32 := x >>> (y &&& 31)
abbrev lshl (x : Int64) (y : Int32) : Int64 := x <<< (y &&& 0x3f).toInt64
abbrev lshr (x : Int64) (y : Int32) : Int64 := x >>> (y &&& 0x3f).toInt64
/-- a boolean told by a condition, as an int of the machine's -/
abbrev bz (P : Prop) [Decidable P] : Int32 := if P then 1 else 0
theorem nar_b (P : Prop) [Decidable P] : nar .boolean (bz P) = bz P := by unfold bz; split <;> rfl
theorem bz_t {P : Prop} [Decidable P] (h : P) : bz P = 1 := if_pos h
theorem bz_congr {P Q : Prop} [Decidable P] [Decidable Q] (h : P ↔ Q) : bz P = bz Q := by
  by_cases q : Q
  · rw [bz, bz, if_pos q, if_pos (h.mpr q)]
  · rw [bz, bz, if_neg q, if_neg (fun p => q (h.mp p))]
theorem bz_one {P : Prop} [Decidable P] (h : P ↔ True) : bz P = 1 := if_pos (h.mpr trivial)
theorem bz_zero {P : Prop} [Decidable P] (h : P ↔ False) : bz P = 0 := if_neg h.mp
theorem ow_bne_t {P : Prop} [Decidable P] (h : P) : ifCond.holds .ne (bz P) = true := by rw [if0, bz_t h]; decide
theorem ow_bne_f {P : Prop} [Decidable P] (h : ¬ P) : ifCond.holds .ne (bz P) = false := by rw [if0, bz, if_neg h]; decide
theorem ow_beq_t {P : Prop} [Decidable P] (h : ¬ P) : ifCond.holds .eq (bz P) = true := by rw [if0, bz, if_neg h]; decide
theorem ow_beq_f {P : Prop} [Decidable P] (h : P) : ifCond.holds .eq (bz P) = false := by rw [if0, bz_t h]; decide
theorem bz_f {P : Prop} [Decidable P] (h : ¬ P) : bz P = 0 := if_neg h
theorem ite_or_t {α : Type} {c d : Prop} [Decidable c] [Decidable d] {a y : α} (h : c) : (if c ∨ d then a else y) = a := if_pos (Or.inl h)
theorem ite_or_f {α : Type} {c d : Prop} [Decidable c] [Decidable d] {a y : α} (h : ¬ c) : (if c ∨ d then a else y) = (if d then a else y) := by
  by_cases q : d
  · rw [if_pos q, if_pos (Or.inr q)]
  · rw [if_neg q, if_neg (fun z => z.elim h q)]
theorem ite_and_t {α : Type} {c d : Prop} [Decidable c] [Decidable d] {a y : α} (h : c) : (if c ∧ d then a else y) = (if d then a else y) := by
  by_cases q : d
  · rw [if_pos q, if_pos ⟨h, q⟩]
  · rw [if_neg q, if_neg (fun z => q z.2)]
theorem ite_and_f {α : Type} {c d : Prop} [Decidable c] [Decidable d] {a y : α} (h : ¬ c) : (if c ∧ d then a else y) = y := if_neg fun q => h q.1
theorem xDup2 {tb : Tables} [Ours tb] {e : Env} {below : List Frame} {T target : State} {m : MethodId} {c : Code} {g : JFrame} (h : At T m c below) (hx : tb.exec = Jvm.exec) (hg : g.method = m) {x y : Value} {rest : List Value} (hd : decode c.code g.pc = .ok (.dup2, 1)) (hs : g.stack = x :: y :: rest) (hc : x.category = 1) (hc' : y.category = 1)
    (hr : Steps tb e below (T.setTop { g with pc := g.pc + 1, stack := x :: y :: x :: y :: rest }) target) : Steps tb e below (T.setTop g) target := by
  subst hg
  jvm_step h [h.top, hx, hd, hs, hc, hc']
  exact hr
theorem xDupX2 {tb : Tables} [Ours tb] {e : Env} {below : List Frame} {T target : State} {m : MethodId} {c : Code} {g : JFrame} (h : At T m c below) (hx : tb.exec = Jvm.exec) (hg : g.method = m) {x y z : Value} {rest : List Value} (hd : decode c.code g.pc = .ok (.dup_x2, 1)) (hs : g.stack = x :: y :: z :: rest) (hc : x.category = 1) (hc' : y.category = 1) (hc'' : z.category = 1)
    (hr : Steps tb e below (T.setTop { g with pc := g.pc + 1, stack := x :: y :: z :: x :: rest }) target) : Steps tb e below (T.setTop g) target := by
  subst hg
  jvm_step h [h.top, hx, hd, hs, hc, hc', hc'']
  exact hr
theorem ow_fin {P : Prop} [Decidable P] (h : P) : some (Value.int (nar .boolean (bz P))) = some (Value.int (1 : Int32)) := by rw [bz_t h]; rfl
theorem ow_fin' {P : Prop} [Decidable P] (h : P) : some (Value.int (bz P)) = some (Value.int (1 : Int32)) := by rw [bz_t h]
end Jvm.Own
namespace Jvm.Own
open Jvm Jvm.RoadKit
/-! ## Longs and ints as natural numbers -/
def nj (x : Int64) : Nat := x.toBitVec.toNat
def ni (x : Int32) : Nat := x.toBitVec.toNat
theorem nj_lt (x : Int64) : nj x < 18446744073709551616 := x.toBitVec.isLt
theorem ni_lt (x : Int32) : ni x < 4294967296 := x.toBitVec.isLt
theorem nj_inj {x y : Int64} (h : nj x = nj y) : x = y := Int64.toBitVec_inj.mp (BitVec.eq_of_toNat_eq h)
theorem ni_inj {x y : Int32} (h : ni x = ni y) : x = y := Int32.toBitVec_inj.mp (BitVec.eq_of_toNat_eq h)
theorem nj_int (x : Int64) : x.toInt = if nj x < 9223372036854775808 then (nj x : Int) else (nj x : Int) - 18446744073709551616 := by
  show x.toBitVec.toInt = _
  rw [BitVec.toInt_eq_toNat_cond]
  show (if 2 * nj x < 2 ^ 64 then (nj x : Int) else (nj x : Int) - (2 ^ 64 : Nat)) = _
  split <;> split <;> omega
theorem ni_int (x : Int32) : x.toInt = if ni x < 2147483648 then (ni x : Int) else (ni x : Int) - 4294967296 := by
  show x.toBitVec.toInt = _
  rw [BitVec.toInt_eq_toNat_cond]
  show (if 2 * ni x < 2 ^ 32 then (ni x : Int) else (ni x : Int) - (2 ^ 32 : Nat)) = _
  split <;> split <;> omega
theorem nj_and (x y : Int64) : nj (x &&& y) = nj x &&& nj y := by show (x.toBitVec &&& y.toBitVec).toNat = _; rw [BitVec.toNat_and]; rfl
theorem nj_or (x y : Int64) : nj (x ||| y) = nj x ||| nj y := by show (x.toBitVec ||| y.toBitVec).toNat = _; rw [BitVec.toNat_or]; rfl
theorem nj_xor (x y : Int64) : nj (x ^^^ y) = nj x ^^^ nj y := by show (x.toBitVec ^^^ y.toBitVec).toNat = _; rw [BitVec.toNat_xor]; rfl
theorem nj_add (x y : Int64) : nj (x + y) = (nj x + nj y) % 18446744073709551616 := by show (x.toBitVec + y.toBitVec).toNat = _; rw [BitVec.toNat_add]; rfl
theorem nj_sub (x y : Int64) : nj (x - y) = (18446744073709551616 - nj y + nj x) % 18446744073709551616 := by show (x.toBitVec - y.toBitVec).toNat = _; rw [BitVec.toNat_sub]; rfl
theorem ni_and (x y : Int32) : ni (x &&& y) = ni x &&& ni y := by show (x.toBitVec &&& y.toBitVec).toNat = _; rw [BitVec.toNat_and]; rfl
theorem nj_lushr (x : Int64) (q : Int32) (k : Nat) (hk : ni q % 64 = k) : nj (lushr x q) = nj x / 2 ^ k := by
  show (x.toBitVec >>> ((q &&& 0x3f).toInt64.toBitVec % 64)).toNat = x.toBitVec.toNat / 2 ^ k
  have h5 := (sm64 q k hk).2
  rw [BitVec.ushiftRight_eq', BitVec.toNat_ushiftRight, Nat.shiftRight_eq_div_pow, BitVec.toNat_umod, (sm64 q k hk).1, BitVec.toNat_ofNat]; congr 2; show k % 2 ^ 64 % 64 = k; omega
theorem nj_lshl (x : Int64) (q : Int32) (k : Nat) (hk : ni q % 64 = k) : nj (lshl x q) = nj x * 2 ^ k % 18446744073709551616 := by
  show (x.toBitVec <<< ((q &&& 0x3f).toInt64.toBitVec.smod 64)).toNat = _
  rw [BitVec.shiftLeft_eq', (sm64 q k hk).1, smod64 k (sm64 q k hk).2, BitVec.toNat_shiftLeft, Nat.shiftLeft_eq]; rfl
theorem ni_l2i (x : Int64) : ni x.toInt32 = nj x % 4294967296 := by
  show (x.toBitVec.signExtend 32).toNat = _
  rw [BitVec.signExtend_eq_setWidth_of_le _ (by decide), BitVec.toNat_setWidth]; rfl
theorem nj_i2l (x : Int32) (h : ni x < 2147483648) : nj x.toInt64 = ni x := by
  have e := nj_int x.toInt64
  rw [Int32.toInt_toInt64, ni_int, if_pos h] at e
  have := nj_lt x.toInt64
  split at e <;> omega
theorem mask_n (x k : Nat) : x &&& (2 ^ k - 1) = x % 2 ^ k := Nat.and_two_pow_sub_one_eq_mod x k
theorem lt64 {x y : Int64} : x < y ↔ x.toInt < y.toInt := Int64.lt_iff_toInt_lt
theorem lt32 {x y : Int32} : x < y ↔ x.toInt < y.toInt := Int32.lt_iff_toInt_lt
/-- the byte at place k of a long, as javac reads it into an int -/
theorem byteI (w : Int64) (q : Int32) (k : Nat) (hk : ni q % 64 = k) : ((lushr w q).toInt32 &&& (255 : Int32)) = Int32.ofNat (nj w / 2 ^ k % 256) := by
  apply ni_inj
  rw [ni_and, ni_l2i, nj_lushr w q k hk, show ni (255 : Int32) = 2 ^ 8 - 1 from rfl, mask_n]
  show _ = (BitVec.ofNat 32 _).toNat
  rw [BitVec.toNat_ofNat]
  omega
theorem byteJ (w : Int64) (q : Int32) (k : Nat) (hk : ni q % 64 = k) : ((lushr w q) &&& (255 : Int64)) = Int64.ofNat (nj w / 2 ^ k % 256) := by
  apply nj_inj
  rw [nj_and, nj_lushr w q k hk, show nj (255 : Int64) = 2 ^ 8 - 1 from rfl, mask_n]
  show _ = (BitVec.ofNat 64 _).toNat
  rw [BitVec.toNat_ofNat]
  omega
theorem all8 {P : Int8 → Prop} (h : ∀ n : Fin 256, P (Int8.ofNat n.1)) (y : Int8) : P y := by
  have q := h ⟨y.toBitVec.toNat, y.toBitVec.isLt⟩
  have e : Int8.ofNat y.toBitVec.toNat = y := by
    apply Int8.toBitVec_inj.mp
    show BitVec.ofNat 8 y.toBitVec.toNat = y.toBitVec
    rw [BitVec.ofNat_toNat]; simp
  rw [e] at q; exact q
/-- an int told by its natural number -/
theorem ofni (x : Int32) : Int32.ofNat (ni x) = x := by
  apply ni_inj
  show (BitVec.ofNat 32 x.toBitVec.toNat).toNat = x.toBitVec.toNat
  rw [BitVec.toNat_ofNat, Nat.mod_eq_of_lt x.toBitVec.isLt]
/-- (x & 0x7fffffff) % m for a small m -/
theorem remN (x : Int32) (m : Int32) (k : Nat) (hm : ni m = k) (h0 : 0 < k) (h1 : k < 2147483648) : ∃ n : Nat, n < k ∧ ((x &&& (2147483647 : Int32)) % m) = Int32.ofNat n := by
  have e1 : ni (x &&& (2147483647 : Int32)) = ni x % 2147483648 := by rw [ni_and, show ni (2147483647 : Int32) = 2 ^ 31 - 1 from rfl, mask_n]
  have m1 : m.toInt = k := by rw [ni_int, if_pos (by omega), hm]
  have a1 : (x &&& (2147483647 : Int32)).toInt = (ni x % 2147483648 : Nat) := by rw [ni_int, if_pos (by omega), e1]
  obtain ⟨p, -⟩ := c_irem (x &&& (2147483647 : Int32)) m k m1
  have r := p (by omega)
  refine ⟨ni x % 2147483648 % k, Nat.mod_lt _ h0, ?_⟩
  have q : ni x % 2147483648 % k < k := Nat.mod_lt _ h0
  apply Int32.toInt_inj.mp
  rw [r, a1, Int32.toInt_ofNat_of_lt (by omega)]; rfl
end Jvm.Own
namespace Jvm.Own
open Jvm Jvm.ClassFile Jvm.RoadKit
/-! ## Arrays of small natural numbers -/
def nv (x : Nat) : Value := .int (Int32.ofNat x)
def nl (xs : List Nat) : List Value := xs.map nv
theorem nl_len (xs : List Nat) : (nl xs).length = xs.length := by simp [nl]
theorem n_int {i : Nat} (h : i < 1000) : (Int32.ofNat i).toInt = i := Int32.toInt_ofNat_of_lt (by omega)
theorem n_nn {i : Nat} (h : i < 1000) : ¬ Int32.ofNat i < 0 := by rw [Int32.lt_iff_toInt_lt, n_int h, show (0 : Int32).toInt = 0 from rfl]; omega
theorem n_ix {i : Nat} (h : i < 1000) : (Int32.ofNat i).toNatClampNeg = i := by rw [Int32.toNatClampNeg, n_int h]; rfl
theorem nl_get {xs : List Nat} {i : Nat} (h : i < xs.length) : (nl xs)[i]? = some (.int (Int32.ofNat (xs.getD i 0))) := by
  simp [nl, nv, List.getD_eq_getElem?_getD, h]
theorem nl_at {xs : List Nat} {i : Nat} (h : i < xs.length) (b : i < 1000) : (nl xs)[(Int32.ofNat i).toNatClampNeg]? = some (.int (Int32.ofNat (xs.getD i 0))) := by rw [n_ix b]; exact nl_get h
theorem nl_lt {xs : List Nat} {i : Nat} (h : i < xs.length) : i < (nl xs).length := by rw [nl_len]; exact h
theorem nl_set (xs : List Nat) (i v : Nat) : (nl xs).set i (.int (Int32.ofNat v)) = nl (xs.set i v) := by simp [nl, nv, List.map_set]
theorem n_one (i : Nat) : Int32.ofNat i + (1 : Int32) = Int32.ofNat (i + 1) := (Int32.ofNat_add i 1).symm
theorem n_add (a b : Nat) : Int32.ofNat a + Int32.ofNat b = Int32.ofNat (a + b) := (Int32.ofNat_add a b).symm
theorem n_pred {i : Nat} (h : 1 ≤ i) : Int32.ofNat i - (1 : Int32) = Int32.ofNat (i - 1) := by
  obtain ⟨j, rfl⟩ : ∃ j, i = j + 1 := ⟨i - 1, by omega⟩
  rw [← n_one, show j + 1 - 1 = j from rfl]
  apply Int32.toBitVec_inj.mp
  show (Int32.ofNat j).toBitVec + 1#32 - 1#32 = _
  exact BitVec.add_sub_cancel _ _
theorem n_lt {i n : Nat} (h : i < n) (b : n < 1000) : Int32.ofNat i < Int32.ofNat n := by rw [Int32.lt_iff_toInt_lt, n_int b, n_int (by omega)]; omega
theorem n_nlt {i n : Nat} (h : n ≤ i) (b : i < 1000) : ¬ Int32.ofNat i < Int32.ofNat n := by rw [Int32.lt_iff_toInt_lt, n_int b, n_int (by omega)]; omega
theorem n_inj {i n : Nat} (h : Int32.ofNat i = Int32.ofNat n) (b : i < 1000) (b' : n < 1000) : i = n := by
  have := congrArg Int32.toInt h
  rw [n_int b, n_int b'] at this; omega
theorem n_rep (k : Nat) : List.replicate k (Value.int (0 : Int32)) = nl (List.replicate k 0) := by simp [nl, nv]
def One1 (s : Slot) : Prop := s = .unset ∨ ∃ w, s = .val w ∧ w.category = 1
theorem One1.v {w : Value} (h : w.category = 1) : One1 (.val w) := Or.inr ⟨w, rfl, h⟩
theorem One1.u : One1 .unset := Or.inl rfl
end Jvm.Own
namespace Jvm.Own
open Jvm Jvm.ClassFile Sem Op Lib Jvm.Free Jvm.Stand Jvm.LawKit Jvm.RoadKit
/-! ## A String constant may be made and interned: the base's second number tells how great the heap is at least -/
section Wide
variable {Z : State} {n0 : Nat × Nat} {h : Heap} {L : RL}
theorem Rep.rise {ls : List Loc} (R : Rep Z n0 h L) (N : Fr n0.1 ls) : ∃ n1 : Nat × Nat, Rep Z n1 h L ∧ Fr n1.1 ls ∧ (n1.1 = n0.1 ∧ n0.2 ≤ n1.2) ∧ h.size ≤ n1.2 :=
  ⟨(n0.1, h.size), ⟨⟨R.1.1, Nat.le_refl _⟩, R.2⟩, N, ⟨rfl, R.1.2⟩, Nat.le_refl _⟩
theorem Rep.low {n1 : Nat × Nat} (R : Rep Z n1 h L) (q : n1.1 = n0.1 ∧ n0.2 ≤ n1.2) : Rep Z n0 h L :=
  ⟨⟨by rw [← q.1]; exact R.1.1, Nat.le_trans q.2 R.1.2⟩, R.2.1, fun x hx => ⟨by rw [← q.1]; exact (R.2.2 x hx).1, (R.2.2 x hx).2⟩⟩
theorem gLdcS {p : Program} {l : Launch} {e : Env} {R : Room} {s : State} {vm0 : Vm} {m : MethodId} {args : Array Value} {below : List Frame} {meth : Method} {c : Code} {T : State} {locs : List Loc} {cells slots : Nat} {a0 : Array Value} {own text : String} {index k0 : Nat}
    (X : Stand p l e R (s.setVm vm0) m args below meth c T locs cells slots) (hx : p.tables.exec = Jvm.exec) (hZ : Z.Warmed39 vm0) (hown : vm0.findClass own = some m.cls) (w : (Cond.stringLink own index text).before a0 Z = true) (wS : ∀ a ∈ Bundle.stringAtoms, a.before a0 Z = true)
    (eT : T.heap = h) (N : Fr n0.1 locs) (Q : Rep Z n0 h L) (hS : s.Since vm0 k0) (hk : k0 ≤ n0.2) {g : JFrame} (hg : g.method = m) (hd : decode c.code g.pc = .ok (.ldc index, 2)) (n : Nat) (hn : 4 * text.toList.length ≤ n) (hbig : n ≤ 536870912) (hc : cells + 2 ≤ R.cells) (hl : slots + (n + 4) ≤ R.slots) :
    ∃ (a : Addr) (T' : State) (h' : Heap) (k1 : Nat) (n1 : Nat × Nat), Stand p l e R (s.setVm T'.vm) m args below meth c T' locs (cells + 2) (slots + (n + 4)) ∧ T'.heap = h' ∧ Fr n1.1 locs ∧ Rep Z n1 h' L ∧ (n1.1 = n0.1 ∧ n0.2 ≤ n1.2) ∧ s.Since T'.vm k1 ∧ k1 ≤ n1.2 ∧ Z.Warmed39 (s.setVm T'.vm).vm ∧ (s.setVm T'.vm).vm.findClass own = some m.cls ∧
      ∀ target, Steps p.tables e below (T'.setTop { g with pc := g.pc + 2, stack := .ref a :: g.stack }) target → Steps p.tables e below (T.setTop g) target := by
  obtain ⟨a, T', h', k1, X', e', E, s1, s2, z, o, st⟩ := ldcS X hx hZ hown w wS eT hS (Nat.le_trans hk Q.1.2) hg hd hn hbig hc hl
  exact ⟨a, T', h', k1, (n0.1, h'.size), X', e', N, ⟨⟨(Q.ext E).1.1, Nat.le_refl _⟩, (Q.ext E).2⟩, ⟨rfl, (Q.ext E).1.2⟩, s1, s2, z, o, st⟩
theorem sel_priv {s : State} {args : Array Value} {y y' : MethodName} {C : String} (w : (Cond.selects C y' y').before args s = true) (hc : y'.cls = y.cls) (hpriv : s.PrivateAt y) (hinst : (Cond.instanceMethod y).before args s = true) (hy : y.cls ≠ "java/lang/invoke/MethodHandle" ∧ y.cls ≠ "java/lang/invoke/VarHandle") : (Cond.selects y.cls y y).before args s = true := by
  obtain ⟨c2, r2, m2, -, -, q3, -, kP, hkP, hkPi⟩ := Cond.selects_spec w
  exact selects_self_of_private (by rw [← hc]; exact findClass_of_methodNamed q3) hkP hkPi hpriv hinst hy
end Wide
end Jvm.Own
namespace Jvm.Pilot.@@N@@
open Jvm Jvm.ClassFile Sem Op Lib Jvm.Free Jvm.Stand Jvm.LawKit Jvm.RoadKit Bundle Jvm.Own Jvm.Pilot.@@N@@.Jvm.D
theorem own_wS {Z : State} {a0 : Array Value} (hw : ∀ d ∈ tables_1, d.before a0 Z = true) : ∀ a ∈ Bundle.stringAtoms, a.before a0 Z = true := by
  intro d hd
  simp only [Bundle.stringAtoms, List.mem_cons, List.not_mem_nil, or_false] at hd
  rcases hd with rfl | rfl | rfl | rfl | rfl | rfl | rfl
  · exact (hw _ (List.mem_of_getElem? (i := 15) rfl))
  · exact (hw _ (List.mem_of_getElem? (i := 16) rfl))
  · exact (hw _ (List.mem_of_getElem? (i := 17) rfl))
  · exact (hw _ (List.mem_of_getElem? (i := 18) rfl))
  · exact (hw _ (List.mem_of_getElem? (i := 19) rfl))
  · exact (hw _ (List.mem_of_getElem? (i := 20) rfl))
  · exact (hw _ (List.mem_of_getElem? (i := 21) rfl))
theorem d2_0 : decode jdk_30_method_1_code 0 = .ok (.aload_n 0, 1) := by decide +kernel
theorem d2_1 : decode jdk_30_method_1_code 1 = .ok (.invokespecial 1, 3) := by decide +kernel
theorem d2_4 : decode jdk_30_method_1_code 4 = .ok (.return_, 1) := by decide +kernel
theorem pn_java_lang_Record : plainName "java/lang/Record" = true := by first | (simp [plainName, overriddenIn]; done) | decide +kernel
theorem ef_2 (m : MethodId) (x0 : Addr) : entryFrame m #[(.ref x0)] 1 = mkF m 0 #[.val (.ref x0)] [] := by first | (simp [entryFrame, mkF, argsToLocals, Value.category]; done) | rfl
def Q2 (Z : State) (ax : Addr) (n0 : Nat × Nat) (Rst : RL) (v : Option Value) (h : Heap) (L : List Loc) : Prop := v = none ∧ Fr n0.1 L ∧ Rep Z n0 h (Rst)
set_option maxRecDepth 65536 in
set_option maxHeartbeats 40000000 in
theorem rm2 (l : Launch) (Z : State) (a0 : Array Value) (hw : ∀ d ∈ tables_1, d.before a0 Z = true) (ws : List Jvm.Cond) (ax : Addr) (h0 : Heap) (n0 : Nat × Nat) (Rst : RL) (R0 : Rep Z n0 h0 (Rst)) :
    MetFree l (⟨"java/lang/Record", "<init>", "()V"⟩ : MethodName) (head1 (Jvm.Cond.code (⟨"java/lang/Record", "<init>", "()V"⟩ : MethodName) jdk_30_method_1_code 1 none :: ws) ({ frames := 1, cells := 0, slots := 0, locals := 12 } : Room)) (fun a U => a = #[(.ref ax)] ∧ Z.Warmed39 U.vm ∧ U.heap = h0) (fun _ _ _ _ _ => True) (fun _ U o U' => ∃ v L, o = .returned v ∧ Q2 Z ax n0 Rst v U'.heap L ∧ FrameEnd U o U' L ({ frames := 1, cells := 0, slots := 0, locals := 12 } : Room).cells ({ frames := 1, cells := 0, slots := 0, locals := 12 } : Room).slots) := by
  refine MetFree.of_bodySF (plainFor_of_name pn_java_lang_Record) hisR ?_
  intro p e s m args below meth c s₁ Bd hml0 hP hK
  obtain ⟨rfl, hZ, hh⟩ := hP
  have hx := Bd.exec
  have hby := Bd.bytes
  have hml : c.maxLocals = 1 := hml0
  have hown : s.vm.findClass "java/lang/Record" = some m.cls := findClass_of_methodNamed Bd.named
  have hnm := (name_of_methodNamed Bd.named Bd.method).1
  have X0 : Stand p l e ({ frames := 1, cells := 0, slots := 0, locals := 12 } : Room) s m #[(.ref ax)] below meth c s₁ [] 0 0 := Stand.of_body Bd
  have e0 : s₁.heap = h0 := by rw [← hh, Bd.state]; rfl
  have N0 := Fr.nil n0.1
  have pre0 : ∀ t, Steps p.tables e below (s₁.setTop (mkF m 0 #[.val (.ref ax)] [])) t → Steps p.tables e below (s₁.setTop (entryFrame m #[(.ref ax)] 1)) t := fun t k => castTop (ef_2 m ax) k
  have pre1 : ∀ t, Steps p.tables e below (s₁.setTop (mkF m 1 #[.val (.ref ax)] [(.ref ax)])) t → Steps p.tables e below (s₁.setTop (entryFrame m #[(.ref ax)] 1)) t := fun t k => pre0 t (by
    show Steps p.tables e below (s₁.setTop (mkF m 0 #[.val (.ref ax)] [])) _
    refine XS.aloadN X0.here hx rfl (hb hby d2_0) rfl rfl ?_
    exact k)
  obtain ⟨T2, X2, e2, st2⟩ := initO X0 hx hZ hown (hw _ (List.mem_of_getElem? (i := 11) rfl)) (hw _ (List.mem_of_getElem? (i := 12) rfl)) (hw _ (List.mem_of_getElem? (i := 13) rfl)) e0 (g := (mkF m 1 #[.val (.ref ax)] [(.ref ax)])) rfl (by rw [hml]; rfl) rfl (hb hby d2_1) (by decide) (W := 0) (by show 2 * 0 + _ ≤ _; exact Nat.le_of_eq rfl) (by decide)
  have pre3 : ∀ t, Steps p.tables e below (T2.setTop (mkF m 4 #[.val (.ref ax)] [])) t → Steps p.tables e below (s₁.setTop (entryFrame m #[(.ref ax)] 1)) t := fun t k => pre1 t (st2 t k)
  obtain ⟨fs, hr, hrun, hended, hW, hsame⟩ := X2.leave (v := none) (fun _ => rfl)
  refine ⟨_, _, pre3 _ ?_, hrun, hended, _, _, rfl, ?_, ⟨_, rfl⟩, hW, hsame.mono (by decide) (by decide)⟩
  · show Steps p.tables e below (T2.setTop (mkF m 4 #[.val (.ref ax)] [])) _
    exact X2.returnOut hx Bd.returns (hb hby d2_4) hr
  · show Q2 Z ax n0 Rst _ T2.heap _
    rw [e2]
    exact ⟨rfl, N0, R0⟩
theorem d4_0 : decode prog_25_method_19_code 0 = .ok (.iload_n 0, 1) := by decide +kernel
theorem d4_1 : decode prog_25_method_19_code 1 = .ok (.ifCond .lt 8, 3) := by decide +kernel
theorem d4_4 : decode prog_25_method_19_code 4 = .ok (.iload_n 0, 1) := by decide +kernel
theorem d4_5 : decode prog_25_method_19_code 5 = .ok (.iload_n 1, 1) := by decide +kernel
theorem d4_6 : decode prog_25_method_19_code 6 = .ok (.if_icmp .le 19, 3) := by decide +kernel
theorem d4_25 : decode prog_25_method_19_code 25 = .ok (.iload_n 0, 1) := by decide +kernel
theorem d4_26 : decode prog_25_method_19_code 26 = .ok (.ireturn, 1) := by decide +kernel
theorem pn_com_example_sidetrack_sidetrack_codec_IsupIndicators : plainName "com/example/sidetrack/sidetrack/codec/IsupIndicators" = true := by first | (simp [plainName, overriddenIn]; done) | decide +kernel
theorem ef_4 (m : MethodId) (x0 : Int32) (x1 : Int32) (x2 : Addr) : entryFrame m #[(.int x0), (.int x1), (.ref x2)] 3 = mkF m 0 #[.val (.int x0), .val (.int x1), .val (.ref x2)] [] := by first | (simp [entryFrame, mkF, argsToLocals, Value.category]; done) | rfl
def Q4 (Z : State) (vq : Int32) (mq : Int32) (sx : Addr) (n0 : Nat × Nat) (Rst : RL) (v : Option Value) (h : Heap) (L : List Loc) : Prop := v = some (.int vq) ∧ Fr n0.1 L ∧ Rep Z n0 h (Rst)
set_option maxRecDepth 65536 in
set_option maxHeartbeats 40000000 in
theorem rm4 (l : Launch) (Z : State) (a0 : Array Value) (hw : ∀ d ∈ tables_1, d.before a0 Z = true) (ws : List Jvm.Cond) (vq : Int32) (mq : Int32) (sx : Addr) (h0 : Heap) (n0 : Nat × Nat) (Rst : RL) (R0 : Rep Z n0 h0 (Rst)) (hp0 : ¬ (vq < (0 : Int32))) (hp1 : ¬ (mq < vq)) :
    MetFree l (⟨"com/example/sidetrack/sidetrack/codec/IsupIndicators", "checked", "(IILjava/lang/String;)I"⟩ : MethodName) (head1 (Jvm.Cond.code (⟨"com/example/sidetrack/sidetrack/codec/IsupIndicators", "checked", "(IILjava/lang/String;)I"⟩ : MethodName) prog_25_method_19_code 3 (some .int) :: ws) ({ frames := 0, cells := 0, slots := 0, locals := 0 } : Room)) (fun a U => a = #[(.int vq), (.int mq), (.ref sx)] ∧ Z.Warmed39 U.vm ∧ U.heap = h0) (fun _ _ _ _ _ => True) (fun _ U o U' => ∃ v L, o = .returned v ∧ Q4 Z vq mq sx n0 Rst v U'.heap L ∧ FrameEnd U o U' L ({ frames := 0, cells := 0, slots := 0, locals := 0 } : Room).cells ({ frames := 0, cells := 0, slots := 0, locals := 0 } : Room).slots) := by
  refine MetFree.of_bodySF (plainFor_of_name pn_com_example_sidetrack_sidetrack_codec_IsupIndicators) hisR ?_
  intro p e s m args below meth c s₁ Bd hml0 hP hK
  obtain ⟨rfl, hZ, hh⟩ := hP
  have hx := Bd.exec
  have hby := Bd.bytes
  have hml : c.maxLocals = 3 := hml0
  have hown : s.vm.findClass "com/example/sidetrack/sidetrack/codec/IsupIndicators" = some m.cls := findClass_of_methodNamed Bd.named
  have hnm := (name_of_methodNamed Bd.named Bd.method).1
  have X0 : Stand p l e ({ frames := 0, cells := 0, slots := 0, locals := 0 } : Room) s m #[(.int vq), (.int mq), (.ref sx)] below meth c s₁ [] 0 0 := Stand.of_body Bd
  have e0 : s₁.heap = h0 := by rw [← hh, Bd.state]; rfl
  have N0 := Fr.nil n0.1
  have pre0 : ∀ t, Steps p.tables e below (s₁.setTop (mkF m 0 #[.val (.int vq), .val (.int mq), .val (.ref sx)] [])) t → Steps p.tables e below (s₁.setTop (entryFrame m #[(.int vq), (.int mq), (.ref sx)] 3)) t := fun t k => castTop (ef_4 m vq mq sx) k
  have pre2 : ∀ t, Steps p.tables e below (s₁.setTop (mkF m 1 #[.val (.int vq), .val (.int mq), .val (.ref sx)] [(.int vq)])) t → Steps p.tables e below (s₁.setTop (entryFrame m #[(.int vq), (.int mq), (.ref sx)] 3)) t := fun t k => pre0 t (by
    show Steps p.tables e below (s₁.setTop (mkF m 0 #[.val (.int vq), .val (.int mq), .val (.ref sx)] [])) _
    refine XS.iloadN X0.here hx rfl (hb hby d4_0) rfl ?_
    exact k)
  have hb1 : ¬ (vq < (0 : Int32)) := hp0
  have pre4 : ∀ t, Steps p.tables e below (s₁.setTop (mkF m 6 #[.val (.int vq), .val (.int mq), .val (.ref sx)] [(.int mq), (.int vq)])) t → Steps p.tables e below (s₁.setTop (entryFrame m #[(.int vq), (.int mq), (.ref sx)] 3)) t := fun t k => pre2 t (by
    show Steps p.tables e below (s₁.setTop (mkF m 1 #[.val (.int vq), .val (.int mq), .val (.ref sx)] [(.int vq)])) _
    refine XS.ifNo X0.here hx rfl (hb hby d4_1) rfl ((if0 _ _).trans (flt hb1).1) ?_
    refine XS.iloadN X0.here hx rfl (hb hby d4_4) rfl ?_
    refine XS.iloadN X0.here hx rfl (hb hby d4_5) rfl ?_
    exact k)
  have hb3 : ¬ (mq < vq) := hp1
  have pre5 : ∀ t, Steps p.tables e below (s₁.setTop (mkF m 26 #[.val (.int vq), .val (.int mq), .val (.ref sx)] [(.int vq)])) t → Steps p.tables e below (s₁.setTop (entryFrame m #[(.int vq), (.int mq), (.ref sx)] 3)) t := fun t k => pre4 t (by
    show Steps p.tables e below (s₁.setTop (mkF m 6 #[.val (.int vq), .val (.int mq), .val (.ref sx)] [(.int mq), (.int vq)])) _
    refine XS.icmpYes X0.here hx rfl (pc0 := 6) (pc' := 25) rfl (hb hby d4_6) rfl (flt hb3).2.2.2 (by decide) (by decide) ?_
    refine XS.iloadN X0.here hx rfl (hb hby d4_25) rfl ?_
    exact k)
  obtain ⟨fs, hr, hrun, hended, hW, hsame⟩ := X0.leave (v := some (.int vq)) (fun h => by rw [Bd.returns] at h; cases h)
  refine ⟨_, _, pre5 _ ?_, hrun, hended, _, _, rfl, ?_, ⟨_, rfl⟩, hW, hsame.mono (by decide) (by decide)⟩
  · show Steps p.tables e below (s₁.setTop (mkF m 26 #[.val (.int vq), .val (.int mq), .val (.ref sx)] [(.int vq)])) _
    exact Jvm.Own.retI X0 hx Bd.returns (hb hby d4_26) hr
  · show Q4 Z vq mq sx n0 Rst _ s₁.heap _
    rw [e0]
    exact ⟨rfl, N0, R0⟩
theorem d1_0 : decode prog_45_method_1_code 0 = .ok (.aload_n 0, 1) := by decide +kernel
theorem d1_1 : decode prog_45_method_1_code 1 = .ok (.invokespecial 1, 3) := by decide +kernel
theorem pd__28_29V : parseMethodDescriptor "()V" = some ⟨[], none⟩ := by decide +kernel
theorem d1_4 : decode prog_45_method_1_code 4 = .ok (.iload_n 1, 1) := by decide +kernel
theorem d1_5 : decode prog_45_method_1_code 5 = .ok (.bipush 7, 2) := by decide +kernel
theorem d1_7 : decode prog_45_method_1_code 7 = .ok (.ldc 9, 2) := by decide +kernel
theorem d1_9 : decode prog_45_method_1_code 9 = .ok (.invokestatic 11, 3) := by decide +kernel
theorem pd__28IILjava_2flang_2fString_3b_29I : parseMethodDescriptor "(IILjava/lang/String;)I" = some ⟨[.int, .int, (.object "java/lang/String")], some .int⟩ := by decide +kernel
theorem d1_12 : decode prog_45_method_1_code 12 = .ok (.pop, 1) := by decide +kernel
theorem d1_13 : decode prog_45_method_1_code 13 = .ok (.iload_n 2, 1) := by decide +kernel
theorem d1_14 : decode prog_45_method_1_code 14 = .ok (.bipush 15, 2) := by decide +kernel
theorem d1_16 : decode prog_45_method_1_code 16 = .ok (.ldc 17, 2) := by decide +kernel
theorem d1_18 : decode prog_45_method_1_code 18 = .ok (.invokestatic 11, 3) := by decide +kernel
theorem d1_21 : decode prog_45_method_1_code 21 = .ok (.pop, 1) := by decide +kernel
theorem d1_22 : decode prog_45_method_1_code 22 = .ok (.iload_n 3, 1) := by decide +kernel
theorem d1_23 : decode prog_45_method_1_code 23 = .ok (.bipush 7, 2) := by decide +kernel
theorem d1_25 : decode prog_45_method_1_code 25 = .ok (.ldc 19, 2) := by decide +kernel
theorem d1_27 : decode prog_45_method_1_code 27 = .ok (.invokestatic 11, 3) := by decide +kernel
theorem d1_30 : decode prog_45_method_1_code 30 = .ok (.pop, 1) := by decide +kernel
theorem d1_31 : decode prog_45_method_1_code 31 = .ok (.iload 4, 2) := by decide +kernel
theorem d1_33 : decode prog_45_method_1_code 33 = .ok (.bipush 15, 2) := by decide +kernel
theorem d1_35 : decode prog_45_method_1_code 35 = .ok (.ldc 21, 2) := by decide +kernel
theorem d1_37 : decode prog_45_method_1_code 37 = .ok (.invokestatic 11, 3) := by decide +kernel
theorem d1_40 : decode prog_45_method_1_code 40 = .ok (.pop, 1) := by decide +kernel
theorem d1_41 : decode prog_45_method_1_code 41 = .ok (.aload_n 0, 1) := by decide +kernel
theorem d1_42 : decode prog_45_method_1_code 42 = .ok (.iload_n 1, 1) := by decide +kernel
theorem d1_43 : decode prog_45_method_1_code 43 = .ok (.putfield 23, 3) := by decide +kernel
theorem d1_46 : decode prog_45_method_1_code 46 = .ok (.aload_n 0, 1) := by decide +kernel
theorem d1_47 : decode prog_45_method_1_code 47 = .ok (.iload_n 2, 1) := by decide +kernel
theorem d1_48 : decode prog_45_method_1_code 48 = .ok (.putfield 27, 3) := by decide +kernel
theorem d1_51 : decode prog_45_method_1_code 51 = .ok (.aload_n 0, 1) := by decide +kernel
theorem d1_52 : decode prog_45_method_1_code 52 = .ok (.iload_n 3, 1) := by decide +kernel
theorem d1_53 : decode prog_45_method_1_code 53 = .ok (.putfield 30, 3) := by decide +kernel
theorem d1_56 : decode prog_45_method_1_code 56 = .ok (.aload_n 0, 1) := by decide +kernel
theorem d1_57 : decode prog_45_method_1_code 57 = .ok (.iload 4, 2) := by decide +kernel
theorem d1_59 : decode prog_45_method_1_code 59 = .ok (.putfield 33, 3) := by decide +kernel
theorem d1_62 : decode prog_45_method_1_code 62 = .ok (.return_, 1) := by decide +kernel
theorem pn_com_example_sidetrack_sidetrack_codec_RedirectionInformation : plainName "com/example/sidetrack/sidetrack/codec/RedirectionInformation" = true := by first | (simp [plainName, overriddenIn]; done) | decide +kernel
theorem ef_1 (m : MethodId) (x0 : Addr) (x1 : Int32) (x2 : Int32) (x3 : Int32) (x4 : Int32) : entryFrame m #[(.ref x0), (.int x1), (.int x2), (.int x3), (.int x4)] 5 = mkF m 0 #[.val (.ref x0), .val (.int x1), .val (.int x2), .val (.int x3), .val (.int x4)] [] := by first | (simp [entryFrame, mkF, argsToLocals, Value.category]; done) | rfl
def Q1 (Z : State) (ax : Addr) (iq : Int32) (oq : Int32) (cq : Int32) (rq : Int32) (u0 : Value) (u1 : Value) (u2 : Value) (u3 : Value) (n0 : Nat × Nat) (Rst : RL) (v : Option Value) (h : Heap) (L : List Loc) : Prop := v = none ∧ Fr n0.1 L ∧ Rep Z n0 h ((ax, Obj "com/example/sidetrack/sidetrack/codec/RedirectionInformation" [("redirectingIndicator", "I", (.int iq)), ("originalRedirectionReason", "I", (.int oq)), ("redirectionCounter", "I", (.int cq)), ("redirectingReason", "I", (.int rq))]) :: Rst)
set_option maxRecDepth 65536 in
set_option maxHeartbeats 40000000 in
theorem rm1 (l : Launch) (Z : State) (a0 : Array Value) (hw : ∀ d ∈ tables_1, d.before a0 Z = true) (ws : List Jvm.Cond) (ax : Addr) (iq : Int32) (oq : Int32) (cq : Int32) (rq : Int32) (u0 : Value) (u1 : Value) (u2 : Value) (u3 : Value) (h0 : Heap) (n0 : Nat × Nat) (Rst : RL) (R0 : Rep Z n0 h0 ((ax, Obj "com/example/sidetrack/sidetrack/codec/RedirectionInformation" [("redirectingIndicator", "I", u0), ("originalRedirectionReason", "I", u1), ("redirectionCounter", "I", u2), ("redirectingReason", "I", u3)]) :: Rst)) (aiq : ¬ (iq < (0 : Int32))) (biq : ¬ ((7 : Int32) < iq)) (aoq : ¬ (oq < (0 : Int32))) (boq : ¬ ((15 : Int32) < oq)) (acq : ¬ (cq < (0 : Int32))) (bcq : ¬ ((7 : Int32) < cq)) (arq : ¬ (rq < (0 : Int32))) (brq : ¬ ((15 : Int32) < rq)) :
    MetFree l (⟨"com/example/sidetrack/sidetrack/codec/RedirectionInformation", "<init>", "(IIII)V"⟩ : MethodName) (head1 (Jvm.Cond.code (⟨"com/example/sidetrack/sidetrack/codec/RedirectionInformation", "<init>", "(IIII)V"⟩ : MethodName) prog_45_method_1_code 5 none :: ws) ({ frames := 2, cells := 8, slots := 356, locals := 24 } : Room)) (fun a U => a = #[(.ref ax), (.int iq), (.int oq), (.int cq), (.int rq)] ∧ Z.Warmed39 U.vm ∧ U.heap = h0) (fun _ _ _ _ _ => True) (fun _ U o U' => ∃ v L, o = .returned v ∧ Q1 Z ax iq oq cq rq u0 u1 u2 u3 n0 Rst v U'.heap L ∧ ReturnedEndW U o U' L ({ frames := 2, cells := 8, slots := 356, locals := 24 } : Room).cells ({ frames := 2, cells := 8, slots := 356, locals := 24 } : Room).slots) := by
  refine MetFree.of_bodySF (plainFor_of_name pn_com_example_sidetrack_sidetrack_codec_RedirectionInformation) hisR ?_
  intro p e s m args below meth c s₁ Bd hml0 hP hK
  obtain ⟨rfl, hZ, hh⟩ := hP
  have hx := Bd.exec
  have hby := Bd.bytes
  have hml : c.maxLocals = 5 := hml0
  have hown : s.vm.findClass "com/example/sidetrack/sidetrack/codec/RedirectionInformation" = some m.cls := findClass_of_methodNamed Bd.named
  have hnm := (name_of_methodNamed Bd.named Bd.method).1
  have X0 : Stand p l e ({ frames := 2, cells := 8, slots := 356, locals := 24 } : Room) s m #[(.ref ax), (.int iq), (.int oq), (.int cq), (.int rq)] below meth c s₁ [] 0 0 := Stand.of_body Bd
  have e0 : s₁.heap = h0 := by rw [← hh, Bd.state]; rfl
  have N0 := Fr.nil n0.1
  have pre0 : ∀ t, Steps p.tables e below (s₁.setTop (mkF m 0 #[.val (.ref ax), .val (.int iq), .val (.int oq), .val (.int cq), .val (.int rq)] [])) t → Steps p.tables e below (s₁.setTop (entryFrame m #[(.ref ax), (.int iq), (.int oq), (.int cq), (.int rq)] 5)) t := fun t k => castTop (ef_1 m ax iq oq cq rq) k
  have pre1 : ∀ t, Steps p.tables e below (s₁.setTop (mkF m 1 #[.val (.ref ax), .val (.int iq), .val (.int oq), .val (.int cq), .val (.int rq)] [(.ref ax)])) t → Steps p.tables e below (s₁.setTop (entryFrame m #[(.ref ax), (.int iq), (.int oq), (.int cq), (.int rq)] 5)) t := fun t k => pre0 t (by
    show Steps p.tables e below (s₁.setTop (mkF m 0 #[.val (.ref ax), .val (.int iq), .val (.int oq), .val (.int cq), .val (.int rq)] [])) _
    refine XS.aloadN X0.here hx rfl (hb hby d1_0) rfl rfl ?_
    exact k)
  obtain ⟨_, _, ⟨T2, L2, k2, n2⟩, -, X2, ⟨Lc2, hQ2, l2, y2, z2⟩, st2⟩ := X0.specialBack hx (y := (⟨"java/lang/Record", "<init>", "()V"⟩ : MethodName)) rfl hown (mvT hZ (hw _ (List.mem_of_getElem? (i := 6) rfl))) (mvT hZ (hw _ (List.mem_of_getElem? (i := 7) rfl))) (mvT hZ (hw _ (List.mem_of_getElem? (i := 10) rfl))) (by decide) (backOf (W := 0) (rm2 l Z a0 hw [] ax  h0 n0 _ R0 ) hZ (hw _ (List.mem_of_getElem? (i := 10) rfl)) (hw _ (List.mem_of_getElem? (i := 9) rfl)) (by decide) (by decide)) (g := (mkF m 1 #[.val (.ref ax), .val (.int iq), .val (.int oq), .val (.int cq), .val (.int rq)] [(.ref ax)])) rfl (by rw [hml]; rfl) (Steps.refl _) (a := ax) (argsL := []) (rest := []) (lenOf pd__28_29V rfl) rfl (by show 2 * 0 + _ ≤ _; exact Nat.le_of_eq rfl) (hb hby d1_1) (fun _ _ => ⟨rfl, e0, (by decide : 0 + 0 ≤ _), (by decide : 0 + 0 ≤ _)⟩)
  dsimp only [Pt.U, Pt.locs, Pt.cells, Pt.slots] at X2 l2 y2 z2 st2 hQ2
  subst y2 z2
  obtain ⟨rfl, N2q, R2⟩ := hQ2
  have N2 : Fr n0.1 L2 := by rw [l2]; exact Fr.app N0 N2q
  replace R2 : Rep Z n0 T2.heap ((ax, Obj "com/example/sidetrack/sidetrack/codec/RedirectionInformation" [("redirectingIndicator", "I", u0), ("originalRedirectionReason", "I", u1), ("redirectionCounter", "I", u2), ("redirectingReason", "I", u3)]) :: Rst) := R2
  have pre3 : ∀ t, Steps p.tables e below (T2.setTop (mkF m 4 #[.val (.ref ax), .val (.int iq), .val (.int oq), .val (.int cq), .val (.int rq)] [])) t → Steps p.tables e below (s₁.setTop (entryFrame m #[(.ref ax), (.int iq), (.int oq), (.int cq), (.int rq)] 5)) t := fun t k => pre1 t (st2.trans k)
  have pre4 : ∀ t, Steps p.tables e below (T2.setTop (mkF m 7 #[.val (.ref ax), .val (.int iq), .val (.int oq), .val (.int cq), .val (.int rq)] [(.int (7 : Int32)), (.int iq)])) t → Steps p.tables e below (s₁.setTop (entryFrame m #[(.ref ax), (.int iq), (.int oq), (.int cq), (.int rq)] 5)) t := fun t k => pre3 t (by
    show Steps p.tables e below (T2.setTop (mkF m 4 #[.val (.ref ax), .val (.int iq), .val (.int oq), .val (.int cq), .val (.int rq)] [])) _
    refine XS.iloadN X2.here hx rfl (hb hby d1_4) rfl ?_
    refine XS.bipush X2.here hx rfl (hb hby d1_5) ?_
    exact k)
  obtain ⟨a5, T5, h5, k5, n5, X5, e5, N5, R5, Qm5, hS5, hk5, hZ5, hown5, st5⟩ := gLdcS (s := s) (vm0 := s.vm) X2 hx hZ hown (hw _ (List.mem_of_getElem? (i := 14) rfl)) (own_wS hw) rfl N2 R2 ((State.WarmedH.refl s).since n0.2) (Nat.le_refl _) (g := (mkF m 7 #[.val (.ref ax), .val (.int iq), .val (.int oq), .val (.int cq), .val (.int rq)] [(.int (7 : Int32)), (.int iq)])) rfl (hb hby d1_7) 84 (by decide +kernel) (by decide) (by decide) (by decide)
  have Qn5 := Qm5
  replace hZ := hZ5
  replace hown := hown5
  have pre6 : ∀ t, Steps p.tables e below (T5.setTop (mkF m 9 #[.val (.ref ax), .val (.int iq), .val (.int oq), .val (.int cq), .val (.int rq)] [(.ref a5), (.int (7 : Int32)), (.int iq)])) t → Steps p.tables e below (s₁.setTop (entryFrame m #[(.ref ax), (.int iq), (.int oq), (.int cq), (.int rq)] 5)) t := fun t k => pre4 t (st5 t k)
  obtain ⟨_, _, ⟨T7, L7, k7, n7⟩, -, X7, ⟨Lc7, hQ7, l7, y7, z7⟩, st7⟩ := Jvm.LawKit.callS X5 hx (y := (⟨"com/example/sidetrack/sidetrack/codec/IsupIndicators", "checked", "(IILjava/lang/String;)I"⟩ : MethodName)) hown (mvT hZ (hw _ (List.mem_of_getElem? (i := 22) rfl))) (mvT hZ (hw _ (List.mem_of_getElem? (i := 23) rfl))) (mvT hZ (hw _ (List.mem_of_getElem? (i := 24) rfl))) (mvT hZ (hw _ (List.mem_of_getElem? (i := 25) rfl))) (by decide) (backOf (W := 0) (rm4 l Z a0 hw [] iq (7 : Int32) a5  h5 n5 _ R5 (aiq) (biq)) hZ (hw _ (List.mem_of_getElem? (i := 25) rfl)) (hw _ (List.mem_of_getElem? (i := 24) rfl)) (by decide) (by decide)) (g := (mkF m 9 #[.val (.ref ax), .val (.int iq), .val (.int oq), .val (.int cq), .val (.int rq)] [(.ref a5), (.int (7 : Int32)), (.int iq)])) rfl (by rw [hml]; rfl) (argsL := [(.int iq), (.int (7 : Int32)), (.ref a5)]) (rest := []) (lenOf pd__28IILjava_2flang_2fString_3b_29I rfl) rfl (by show 2 * 0 + _ ≤ _; exact Nat.le_of_eq rfl) (hb hby d1_9) (fun _ _ => ⟨rfl, e5, (by decide : 2 + 0 ≤ _), (by decide : 88 + 0 ≤ _)⟩)
  dsimp only [Pt.U, Pt.locs, Pt.cells, Pt.slots] at X7 l7 y7 z7 st7 hQ7
  subst y7 z7
  obtain ⟨rfl, N7q, R7⟩ := hQ7
  have N7 : Fr n5.1 L7 := by rw [l7]; exact Fr.app N5 N7q
  replace R7 : Rep Z n5 T7.heap ((ax, Obj "com/example/sidetrack/sidetrack/codec/RedirectionInformation" [("redirectingIndicator", "I", u0), ("originalRedirectionReason", "I", u1), ("redirectionCounter", "I", u2), ("redirectingReason", "I", u3)]) :: Rst) := R7
  have pre8 : ∀ t, Steps p.tables e below (T7.setTop (mkF m 12 #[.val (.ref ax), .val (.int iq), .val (.int oq), .val (.int cq), .val (.int rq)] [(.int iq)])) t → Steps p.tables e below (s₁.setTop (entryFrame m #[(.ref ax), (.int iq), (.int oq), (.int cq), (.int rq)] 5)) t := fun t k => pre6 t (st7 t k)
  have pre9 : ∀ t, Steps p.tables e below (T7.setTop (mkF m 16 #[.val (.ref ax), .val (.int iq), .val (.int oq), .val (.int cq), .val (.int rq)] [(.int (15 : Int32)), (.int oq)])) t → Steps p.tables e below (s₁.setTop (entryFrame m #[(.ref ax), (.int iq), (.int oq), (.int cq), (.int rq)] 5)) t := fun t k => pre8 t (by
    show Steps p.tables e below (T7.setTop (mkF m 12 #[.val (.ref ax), .val (.int iq), .val (.int oq), .val (.int cq), .val (.int rq)] [(.int iq)])) _
    refine XS.pop X7.here hx rfl (hb hby d1_12) rfl rfl ?_
    refine XS.iloadN X7.here hx rfl (hb hby d1_13) rfl ?_
    refine XS.bipush X7.here hx rfl (hb hby d1_14) ?_
    exact k)
  obtain ⟨a10, T10, h10, k10, n10, X10, e10, N10, R10, Qm10, hS10, hk10, hZ10, hown10, st10⟩ := gLdcS (s := s) (vm0 := T5.vm) X7 hx hZ hown (hw _ (List.mem_of_getElem? (i := 26) rfl)) (own_wS hw) rfl N7 R7 hS5 hk5 (g := (mkF m 16 #[.val (.ref ax), .val (.int iq), .val (.int oq), .val (.int cq), .val (.int rq)] [(.int (15 : Int32)), (.int oq)])) rfl (hb hby d1_16) 108 (by decide +kernel) (by decide) (by decide) (by decide)
  have Qn10 : n10.1 = n0.1 ∧ n0.2 ≤ n10.2 := ⟨Qm10.1.trans Qn5.1, Nat.le_trans Qn5.2 Qm10.2⟩
  replace hZ := hZ10
  replace hown := hown10
  have pre11 : ∀ t, Steps p.tables e below (T10.setTop (mkF m 18 #[.val (.ref ax), .val (.int iq), .val (.int oq), .val (.int cq), .val (.int rq)] [(.ref a10), (.int (15 : Int32)), (.int oq)])) t → Steps p.tables e below (s₁.setTop (entryFrame m #[(.ref ax), (.int iq), (.int oq), (.int cq), (.int rq)] 5)) t := fun t k => pre9 t (st10 t k)
  obtain ⟨_, _, ⟨T12, L12, k12, n12⟩, -, X12, ⟨Lc12, hQ12, l12, y12, z12⟩, st12⟩ := Jvm.LawKit.callS X10 hx (y := (⟨"com/example/sidetrack/sidetrack/codec/IsupIndicators", "checked", "(IILjava/lang/String;)I"⟩ : MethodName)) hown (mvT hZ (hw _ (List.mem_of_getElem? (i := 22) rfl))) (mvT hZ (hw _ (List.mem_of_getElem? (i := 23) rfl))) (mvT hZ (hw _ (List.mem_of_getElem? (i := 24) rfl))) (mvT hZ (hw _ (List.mem_of_getElem? (i := 25) rfl))) (by decide) (backOf (W := 0) (rm4 l Z a0 hw [] oq (15 : Int32) a10  h10 n10 _ R10 (aoq) (boq)) hZ (hw _ (List.mem_of_getElem? (i := 25) rfl)) (hw _ (List.mem_of_getElem? (i := 24) rfl)) (by decide) (by decide)) (g := (mkF m 18 #[.val (.ref ax), .val (.int iq), .val (.int oq), .val (.int cq), .val (.int rq)] [(.ref a10), (.int (15 : Int32)), (.int oq)])) rfl (by rw [hml]; rfl) (argsL := [(.int oq), (.int (15 : Int32)), (.ref a10)]) (rest := []) (lenOf pd__28IILjava_2flang_2fString_3b_29I rfl) rfl (by show 2 * 0 + _ ≤ _; exact Nat.le_of_eq rfl) (hb hby d1_18) (fun _ _ => ⟨rfl, e10, (by decide : 4 + 0 ≤ _), (by decide : 200 + 0 ≤ _)⟩)
  dsimp only [Pt.U, Pt.locs, Pt.cells, Pt.slots] at X12 l12 y12 z12 st12 hQ12
  subst y12 z12
  obtain ⟨rfl, N12q, R12⟩ := hQ12
  have N12 : Fr n10.1 L12 := by rw [l12]; exact Fr.app N10 N12q
  replace R12 : Rep Z n10 T12.heap ((ax, Obj "com/example/sidetrack/sidetrack/codec/RedirectionInformation" [("redirectingIndicator", "I", u0), ("originalRedirectionReason", "I", u1), ("redirectionCounter", "I", u2), ("redirectingReason", "I", u3)]) :: Rst) := R12
  have pre13 : ∀ t, Steps p.tables e below (T12.setTop (mkF m 21 #[.val (.ref ax), .val (.int iq), .val (.int oq), .val (.int cq), .val (.int rq)] [(.int oq)])) t → Steps p.tables e below (s₁.setTop (entryFrame m #[(.ref ax), (.int iq), (.int oq), (.int cq), (.int rq)] 5)) t := fun t k => pre11 t (st12 t k)
  have pre14 : ∀ t, Steps p.tables e below (T12.setTop (mkF m 25 #[.val (.ref ax), .val (.int iq), .val (.int oq), .val (.int cq), .val (.int rq)] [(.int (7 : Int32)), (.int cq)])) t → Steps p.tables e below (s₁.setTop (entryFrame m #[(.ref ax), (.int iq), (.int oq), (.int cq), (.int rq)] 5)) t := fun t k => pre13 t (by
    show Steps p.tables e below (T12.setTop (mkF m 21 #[.val (.ref ax), .val (.int iq), .val (.int oq), .val (.int cq), .val (.int rq)] [(.int oq)])) _
    refine XS.pop X12.here hx rfl (hb hby d1_21) rfl rfl ?_
    refine XS.iloadN X12.here hx rfl (hb hby d1_22) rfl ?_
    refine XS.bipush X12.here hx rfl (hb hby d1_23) ?_
    exact k)
  obtain ⟨a15, T15, h15, k15, n15, X15, e15, N15, R15, Qm15, hS15, hk15, hZ15, hown15, st15⟩ := gLdcS (s := s) (vm0 := T10.vm) X12 hx hZ hown (hw _ (List.mem_of_getElem? (i := 27) rfl)) (own_wS hw) rfl N12 R12 hS10 hk10 (g := (mkF m 25 #[.val (.ref ax), .val (.int iq), .val (.int oq), .val (.int cq), .val (.int rq)] [(.int (7 : Int32)), (.int cq)])) rfl (hb hby d1_25) 76 (by decide +kernel) (by decide) (by decide) (by decide)
  have Qn15 : n15.1 = n0.1 ∧ n0.2 ≤ n15.2 := ⟨Qm15.1.trans Qn10.1, Nat.le_trans Qn10.2 Qm15.2⟩
  replace hZ := hZ15
  replace hown := hown15
  have pre16 : ∀ t, Steps p.tables e below (T15.setTop (mkF m 27 #[.val (.ref ax), .val (.int iq), .val (.int oq), .val (.int cq), .val (.int rq)] [(.ref a15), (.int (7 : Int32)), (.int cq)])) t → Steps p.tables e below (s₁.setTop (entryFrame m #[(.ref ax), (.int iq), (.int oq), (.int cq), (.int rq)] 5)) t := fun t k => pre14 t (st15 t k)
  obtain ⟨_, _, ⟨T17, L17, k17, n17⟩, -, X17, ⟨Lc17, hQ17, l17, y17, z17⟩, st17⟩ := Jvm.LawKit.callS X15 hx (y := (⟨"com/example/sidetrack/sidetrack/codec/IsupIndicators", "checked", "(IILjava/lang/String;)I"⟩ : MethodName)) hown (mvT hZ (hw _ (List.mem_of_getElem? (i := 22) rfl))) (mvT hZ (hw _ (List.mem_of_getElem? (i := 23) rfl))) (mvT hZ (hw _ (List.mem_of_getElem? (i := 24) rfl))) (mvT hZ (hw _ (List.mem_of_getElem? (i := 25) rfl))) (by decide) (backOf (W := 0) (rm4 l Z a0 hw [] cq (7 : Int32) a15  h15 n15 _ R15 (acq) (bcq)) hZ (hw _ (List.mem_of_getElem? (i := 25) rfl)) (hw _ (List.mem_of_getElem? (i := 24) rfl)) (by decide) (by decide)) (g := (mkF m 27 #[.val (.ref ax), .val (.int iq), .val (.int oq), .val (.int cq), .val (.int rq)] [(.ref a15), (.int (7 : Int32)), (.int cq)])) rfl (by rw [hml]; rfl) (argsL := [(.int cq), (.int (7 : Int32)), (.ref a15)]) (rest := []) (lenOf pd__28IILjava_2flang_2fString_3b_29I rfl) rfl (by show 2 * 0 + _ ≤ _; exact Nat.le_of_eq rfl) (hb hby d1_27) (fun _ _ => ⟨rfl, e15, (by decide : 6 + 0 ≤ _), (by decide : 280 + 0 ≤ _)⟩)
  dsimp only [Pt.U, Pt.locs, Pt.cells, Pt.slots] at X17 l17 y17 z17 st17 hQ17
  subst y17 z17
  obtain ⟨rfl, N17q, R17⟩ := hQ17
  have N17 : Fr n15.1 L17 := by rw [l17]; exact Fr.app N15 N17q
  replace R17 : Rep Z n15 T17.heap ((ax, Obj "com/example/sidetrack/sidetrack/codec/RedirectionInformation" [("redirectingIndicator", "I", u0), ("originalRedirectionReason", "I", u1), ("redirectionCounter", "I", u2), ("redirectingReason", "I", u3)]) :: Rst) := R17
  have pre18 : ∀ t, Steps p.tables e below (T17.setTop (mkF m 30 #[.val (.ref ax), .val (.int iq), .val (.int oq), .val (.int cq), .val (.int rq)] [(.int cq)])) t → Steps p.tables e below (s₁.setTop (entryFrame m #[(.ref ax), (.int iq), (.int oq), (.int cq), (.int rq)] 5)) t := fun t k => pre16 t (st17 t k)
  have pre19 : ∀ t, Steps p.tables e below (T17.setTop (mkF m 35 #[.val (.ref ax), .val (.int iq), .val (.int oq), .val (.int cq), .val (.int rq)] [(.int (15 : Int32)), (.int rq)])) t → Steps p.tables e below (s₁.setTop (entryFrame m #[(.ref ax), (.int iq), (.int oq), (.int cq), (.int rq)] 5)) t := fun t k => pre18 t (by
    show Steps p.tables e below (T17.setTop (mkF m 30 #[.val (.ref ax), .val (.int iq), .val (.int oq), .val (.int cq), .val (.int rq)] [(.int cq)])) _
    refine XS.pop X17.here hx rfl (hb hby d1_30) rfl rfl ?_
    refine XS.iload X17.here hx rfl (hb hby d1_31) rfl ?_
    refine XS.bipush X17.here hx rfl (hb hby d1_33) ?_
    exact k)
  obtain ⟨a20, T20, h20, k20, n20, X20, e20, N20, R20, Qm20, hS20, hk20, hZ20, hown20, st20⟩ := gLdcS (s := s) (vm0 := T15.vm) X17 hx hZ hown (hw _ (List.mem_of_getElem? (i := 28) rfl)) (own_wS hw) rfl N17 R17 hS15 hk15 (g := (mkF m 35 #[.val (.ref ax), .val (.int iq), .val (.int oq), .val (.int cq), .val (.int rq)] [(.int (15 : Int32)), (.int rq)])) rfl (hb hby d1_35) 72 (by decide +kernel) (by decide) (by decide) (by decide)
  have Qn20 : n20.1 = n0.1 ∧ n0.2 ≤ n20.2 := ⟨Qm20.1.trans Qn15.1, Nat.le_trans Qn15.2 Qm20.2⟩
  replace hZ := hZ20
  replace hown := hown20
  have pre21 : ∀ t, Steps p.tables e below (T20.setTop (mkF m 37 #[.val (.ref ax), .val (.int iq), .val (.int oq), .val (.int cq), .val (.int rq)] [(.ref a20), (.int (15 : Int32)), (.int rq)])) t → Steps p.tables e below (s₁.setTop (entryFrame m #[(.ref ax), (.int iq), (.int oq), (.int cq), (.int rq)] 5)) t := fun t k => pre19 t (st20 t k)
  obtain ⟨_, _, ⟨T22, L22, k22, n22⟩, -, X22, ⟨Lc22, hQ22, l22, y22, z22⟩, st22⟩ := Jvm.LawKit.callS X20 hx (y := (⟨"com/example/sidetrack/sidetrack/codec/IsupIndicators", "checked", "(IILjava/lang/String;)I"⟩ : MethodName)) hown (mvT hZ (hw _ (List.mem_of_getElem? (i := 22) rfl))) (mvT hZ (hw _ (List.mem_of_getElem? (i := 23) rfl))) (mvT hZ (hw _ (List.mem_of_getElem? (i := 24) rfl))) (mvT hZ (hw _ (List.mem_of_getElem? (i := 25) rfl))) (by decide) (backOf (W := 0) (rm4 l Z a0 hw [] rq (15 : Int32) a20  h20 n20 _ R20 (arq) (brq)) hZ (hw _ (List.mem_of_getElem? (i := 25) rfl)) (hw _ (List.mem_of_getElem? (i := 24) rfl)) (by decide) (by decide)) (g := (mkF m 37 #[.val (.ref ax), .val (.int iq), .val (.int oq), .val (.int cq), .val (.int rq)] [(.ref a20), (.int (15 : Int32)), (.int rq)])) rfl (by rw [hml]; rfl) (argsL := [(.int rq), (.int (15 : Int32)), (.ref a20)]) (rest := []) (lenOf pd__28IILjava_2flang_2fString_3b_29I rfl) rfl (by show 2 * 0 + _ ≤ _; exact Nat.le_of_eq rfl) (hb hby d1_37) (fun _ _ => ⟨rfl, e20, (by decide : 8 + 0 ≤ _), (by decide : 356 + 0 ≤ _)⟩)
  dsimp only [Pt.U, Pt.locs, Pt.cells, Pt.slots] at X22 l22 y22 z22 st22 hQ22
  subst y22 z22
  obtain ⟨rfl, N22q, R22⟩ := hQ22
  have N22 : Fr n20.1 L22 := by rw [l22]; exact Fr.app N20 N22q
  replace R22 : Rep Z n20 T22.heap ((ax, Obj "com/example/sidetrack/sidetrack/codec/RedirectionInformation" [("redirectingIndicator", "I", u0), ("originalRedirectionReason", "I", u1), ("redirectionCounter", "I", u2), ("redirectingReason", "I", u3)]) :: Rst) := R22
  have pre23 : ∀ t, Steps p.tables e below (T22.setTop (mkF m 40 #[.val (.ref ax), .val (.int iq), .val (.int oq), .val (.int cq), .val (.int rq)] [(.int rq)])) t → Steps p.tables e below (s₁.setTop (entryFrame m #[(.ref ax), (.int iq), (.int oq), (.int cq), (.int rq)] 5)) t := fun t k => pre21 t (st22 t k)
  have pre24 : ∀ t, Steps p.tables e below (T22.setTop (mkF m 43 #[.val (.ref ax), .val (.int iq), .val (.int oq), .val (.int cq), .val (.int rq)] [(.int iq), (.ref ax)])) t → Steps p.tables e below (s₁.setTop (entryFrame m #[(.ref ax), (.int iq), (.int oq), (.int cq), (.int rq)] 5)) t := fun t k => pre23 t (by
    show Steps p.tables e below (T22.setTop (mkF m 40 #[.val (.ref ax), .val (.int iq), .val (.int oq), .val (.int cq), .val (.int rq)] [(.int rq)])) _
    refine XS.pop X22.here hx rfl (hb hby d1_40) rfl rfl ?_
    refine XS.aloadN X22.here hx rfl (hb hby d1_41) rfl rfl ?_
    refine XS.iloadN X22.here hx rfl (hb hby d1_42) rfl ?_
    exact k)
  obtain ⟨T25, h25, ls25, X25, e25, N25, R25, st25⟩ := gPut X22 hx hZ hown (host := "") (Or.inl (hw _ (List.mem_of_getElem? (i := 29) rfl))) rfl N22 R22 0 0 rfl rfl (Or.inr ⟨(hw _ (List.mem_of_getElem? (i := 30) rfl)), rfl, hnm⟩) (hw _ (List.mem_of_getElem? (i := 1) rfl)) (ty := .int) (by decide) rfl rfl (g := (mkF m 43 #[.val (.ref ax), .val (.int iq), .val (.int oq), .val (.int cq), .val (.int rq)] [(.int iq), (.ref ax)])) rfl rfl (hb hby d1_43)
  replace R25 : Rep Z n20 h25 ((ax, Obj "com/example/sidetrack/sidetrack/codec/RedirectionInformation" [("redirectingIndicator", "I", (.int iq)), ("originalRedirectionReason", "I", u1), ("redirectionCounter", "I", u2), ("redirectingReason", "I", u3)]) :: Rst) := R25
  have pre26 : ∀ t, Steps p.tables e below (T25.setTop (mkF m 46 #[.val (.ref ax), .val (.int iq), .val (.int oq), .val (.int cq), .val (.int rq)] [])) t → Steps p.tables e below (s₁.setTop (entryFrame m #[(.ref ax), (.int iq), (.int oq), (.int cq), (.int rq)] 5)) t := fun t k => pre24 t (st25 t k)
  have pre27 : ∀ t, Steps p.tables e below (T25.setTop (mkF m 48 #[.val (.ref ax), .val (.int iq), .val (.int oq), .val (.int cq), .val (.int rq)] [(.int oq), (.ref ax)])) t → Steps p.tables e below (s₁.setTop (entryFrame m #[(.ref ax), (.int iq), (.int oq), (.int cq), (.int rq)] 5)) t := fun t k => pre26 t (by
    show Steps p.tables e below (T25.setTop (mkF m 46 #[.val (.ref ax), .val (.int iq), .val (.int oq), .val (.int cq), .val (.int rq)] [])) _
    refine XS.aloadN X25.here hx rfl (hb hby d1_46) rfl rfl ?_
    refine XS.iloadN X25.here hx rfl (hb hby d1_47) rfl ?_
    exact k)
  obtain ⟨T28, h28, ls28, X28, e28, N28, R28, st28⟩ := gPut X25 hx hZ hown (host := "") (Or.inl (hw _ (List.mem_of_getElem? (i := 31) rfl))) e25 N25 R25 0 1 rfl rfl (Or.inr ⟨(hw _ (List.mem_of_getElem? (i := 32) rfl)), rfl, hnm⟩) (hw _ (List.mem_of_getElem? (i := 1) rfl)) (ty := .int) (by decide) rfl rfl (g := (mkF m 48 #[.val (.ref ax), .val (.int iq), .val (.int oq), .val (.int cq), .val (.int rq)] [(.int oq), (.ref ax)])) rfl rfl (hb hby d1_48)
  replace R28 : Rep Z n20 h28 ((ax, Obj "com/example/sidetrack/sidetrack/codec/RedirectionInformation" [("redirectingIndicator", "I", (.int iq)), ("originalRedirectionReason", "I", (.int oq)), ("redirectionCounter", "I", u2), ("redirectingReason", "I", u3)]) :: Rst) := R28
  have pre29 : ∀ t, Steps p.tables e below (T28.setTop (mkF m 51 #[.val (.ref ax), .val (.int iq), .val (.int oq), .val (.int cq), .val (.int rq)] [])) t → Steps p.tables e below (s₁.setTop (entryFrame m #[(.ref ax), (.int iq), (.int oq), (.int cq), (.int rq)] 5)) t := fun t k => pre27 t (st28 t k)
  have pre30 : ∀ t, Steps p.tables e below (T28.setTop (mkF m 53 #[.val (.ref ax), .val (.int iq), .val (.int oq), .val (.int cq), .val (.int rq)] [(.int cq), (.ref ax)])) t → Steps p.tables e below (s₁.setTop (entryFrame m #[(.ref ax), (.int iq), (.int oq), (.int cq), (.int rq)] 5)) t := fun t k => pre29 t (by
    show Steps p.tables e below (T28.setTop (mkF m 51 #[.val (.ref ax), .val (.int iq), .val (.int oq), .val (.int cq), .val (.int rq)] [])) _
    refine XS.aloadN X28.here hx rfl (hb hby d1_51) rfl rfl ?_
    refine XS.iloadN X28.here hx rfl (hb hby d1_52) rfl ?_
    exact k)
  obtain ⟨T31, h31, ls31, X31, e31, N31, R31, st31⟩ := gPut X28 hx hZ hown (host := "") (Or.inl (hw _ (List.mem_of_getElem? (i := 33) rfl))) e28 N28 R28 0 2 rfl rfl (Or.inr ⟨(hw _ (List.mem_of_getElem? (i := 34) rfl)), rfl, hnm⟩) (hw _ (List.mem_of_getElem? (i := 1) rfl)) (ty := .int) (by decide) rfl rfl (g := (mkF m 53 #[.val (.ref ax), .val (.int iq), .val (.int oq), .val (.int cq), .val (.int rq)] [(.int cq), (.ref ax)])) rfl rfl (hb hby d1_53)
  replace R31 : Rep Z n20 h31 ((ax, Obj "com/example/sidetrack/sidetrack/codec/RedirectionInformation" [("redirectingIndicator", "I", (.int iq)), ("originalRedirectionReason", "I", (.int oq)), ("redirectionCounter", "I", (.int cq)), ("redirectingReason", "I", u3)]) :: Rst) := R31
  have pre32 : ∀ t, Steps p.tables e below (T31.setTop (mkF m 56 #[.val (.ref ax), .val (.int iq), .val (.int oq), .val (.int cq), .val (.int rq)] [])) t → Steps p.tables e below (s₁.setTop (entryFrame m #[(.ref ax), (.int iq), (.int oq), (.int cq), (.int rq)] 5)) t := fun t k => pre30 t (st31 t k)
  have pre33 : ∀ t, Steps p.tables e below (T31.setTop (mkF m 59 #[.val (.ref ax), .val (.int iq), .val (.int oq), .val (.int cq), .val (.int rq)] [(.int rq), (.ref ax)])) t → Steps p.tables e below (s₁.setTop (entryFrame m #[(.ref ax), (.int iq), (.int oq), (.int cq), (.int rq)] 5)) t := fun t k => pre32 t (by
    show Steps p.tables e below (T31.setTop (mkF m 56 #[.val (.ref ax), .val (.int iq), .val (.int oq), .val (.int cq), .val (.int rq)] [])) _
    refine XS.aloadN X31.here hx rfl (hb hby d1_56) rfl rfl ?_
    refine XS.iload X31.here hx rfl (hb hby d1_57) rfl ?_
    exact k)
  obtain ⟨T34, h34, ls34, X34, e34, N34, R34, st34⟩ := gPut X31 hx hZ hown (host := "") (Or.inl (hw _ (List.mem_of_getElem? (i := 35) rfl))) e31 N31 R31 0 3 rfl rfl (Or.inr ⟨(hw _ (List.mem_of_getElem? (i := 36) rfl)), rfl, hnm⟩) (hw _ (List.mem_of_getElem? (i := 1) rfl)) (ty := .int) (by decide) rfl rfl (g := (mkF m 59 #[.val (.ref ax), .val (.int iq), .val (.int oq), .val (.int cq), .val (.int rq)] [(.int rq), (.ref ax)])) rfl rfl (hb hby d1_59)
  replace R34 : Rep Z n20 h34 ((ax, Obj "com/example/sidetrack/sidetrack/codec/RedirectionInformation" [("redirectingIndicator", "I", (.int iq)), ("originalRedirectionReason", "I", (.int oq)), ("redirectionCounter", "I", (.int cq)), ("redirectingReason", "I", (.int rq))]) :: Rst) := R34
  have pre35 : ∀ t, Steps p.tables e below (T34.setTop (mkF m 62 #[.val (.ref ax), .val (.int iq), .val (.int oq), .val (.int cq), .val (.int rq)] [])) t → Steps p.tables e below (s₁.setTop (entryFrame m #[(.ref ax), (.int iq), (.int oq), (.int cq), (.int rq)] 5)) t := fun t k => pre33 t (st34 t k)
  obtain ⟨fs, hr, hrun, hended, hE⟩ := X34.leaveW (s := s) (vm₁ := T20.vm) hS20 (Nat.le_trans hk20 (by first | exact R34.1.2 | (rw [e34]; exact R34.1.2))) (v := none) (fun _ => rfl)
  refine ⟨_, _, pre35 _ ?_, hrun, hended, _, _, rfl, ?_, hE.1, hE.2.1, hE.2.2.1, hE.2.2.2.mono (by decide) (by decide)⟩
  · show Steps p.tables e below (T34.setTop (mkF m 62 #[.val (.ref ax), .val (.int iq), .val (.int oq), .val (.int cq), .val (.int rq)] [])) _
    exact X34.returnOut hx Bd.returns (hb hby d1_62) hr
  · show Q1 Z ax iq oq cq rq u0 u1 u2 u3 n0 Rst _ T34.heap _
    rw [e34]
    exact ⟨rfl, (by rw [← Qn20.1]; exact N34), (Rep.low R34 Qn20)⟩
theorem d5_0 : decode prog_45_method_3_code 0 = .ok (.iconst 2, 1) := by decide +kernel
theorem d5_1 : decode prog_45_method_3_code 1 = .ok (.newarray .byte, 2) := by decide +kernel
theorem d5_3 : decode prog_45_method_3_code 3 = .ok (.dup, 1) := by decide +kernel
theorem d5_4 : decode prog_45_method_3_code 4 = .ok (.iconst 0, 1) := by decide +kernel
theorem d5_5 : decode prog_45_method_3_code 5 = .ok (.aload_n 0, 1) := by decide +kernel
theorem d5_6 : decode prog_45_method_3_code 6 = .ok (.getfield 27, 3) := by decide +kernel
theorem d5_9 : decode prog_45_method_3_code 9 = .ok (.iconst 4, 1) := by decide +kernel
theorem d5_10 : decode prog_45_method_3_code 10 = .ok (.ishl, 1) := by decide +kernel
theorem d5_11 : decode prog_45_method_3_code 11 = .ok (.aload_n 0, 1) := by decide +kernel
theorem d5_12 : decode prog_45_method_3_code 12 = .ok (.getfield 23, 3) := by decide +kernel
theorem d5_15 : decode prog_45_method_3_code 15 = .ok (.ior, 1) := by decide +kernel
theorem d5_16 : decode prog_45_method_3_code 16 = .ok (.i2b, 1) := by decide +kernel
theorem d5_17 : decode prog_45_method_3_code 17 = .ok (.bastore, 1) := by decide +kernel
theorem d5_18 : decode prog_45_method_3_code 18 = .ok (.dup, 1) := by decide +kernel
theorem d5_19 : decode prog_45_method_3_code 19 = .ok (.iconst 1, 1) := by decide +kernel
theorem d5_20 : decode prog_45_method_3_code 20 = .ok (.aload_n 0, 1) := by decide +kernel
theorem d5_21 : decode prog_45_method_3_code 21 = .ok (.getfield 33, 3) := by decide +kernel
theorem d5_24 : decode prog_45_method_3_code 24 = .ok (.iconst 4, 1) := by decide +kernel
theorem d5_25 : decode prog_45_method_3_code 25 = .ok (.ishl, 1) := by decide +kernel
theorem d5_26 : decode prog_45_method_3_code 26 = .ok (.aload_n 0, 1) := by decide +kernel
theorem d5_27 : decode prog_45_method_3_code 27 = .ok (.getfield 30, 3) := by decide +kernel
theorem d5_30 : decode prog_45_method_3_code 30 = .ok (.ior, 1) := by decide +kernel
theorem d5_31 : decode prog_45_method_3_code 31 = .ok (.i2b, 1) := by decide +kernel
theorem d5_32 : decode prog_45_method_3_code 32 = .ok (.bastore, 1) := by decide +kernel
theorem d5_33 : decode prog_45_method_3_code 33 = .ok (.areturn, 1) := by decide +kernel
theorem ef_5 (m : MethodId) (x0 : Addr) : entryFrame m #[(.ref x0)] 1 = mkF m 0 #[.val (.ref x0)] [] := by first | (simp [entryFrame, mkF, argsToLocals, Value.category]; done) | rfl
def Q5 (Z : State) (ax : Addr) (iq : Int32) (oq : Int32) (cq : Int32) (rq : Int32) (n0 : Nat × Nat) (Rst : RL) (v : Option Value) (h : Heap) (L : List Loc) : Prop := ∃ bx : Addr, v = some (.ref bx) ∧ Fr n0.1 L ∧ Rep Z n0 h ((bx, Ar .byte [(.int ((((ishl oq (4 : Int32)) ||| iq).toInt8.toInt32).toInt8.toInt32)), (.int ((((ishl rq (4 : Int32)) ||| cq).toInt8.toInt32).toInt8.toInt32))]) :: (ax, Obj "com/example/sidetrack/sidetrack/codec/RedirectionInformation" [("redirectingIndicator", "I", (.int iq)), ("originalRedirectionReason", "I", (.int oq)), ("redirectionCounter", "I", (.int cq)), ("redirectingReason", "I", (.int rq))]) :: Rst)
set_option maxRecDepth 65536 in
set_option maxHeartbeats 40000000 in
theorem rm5 (l : Launch) (Z : State) (a0 : Array Value) (hw : ∀ d ∈ tables_1, d.before a0 Z = true) (ws : List Jvm.Cond) (ax : Addr) (iq : Int32) (oq : Int32) (cq : Int32) (rq : Int32) (h0 : Heap) (n0 : Nat × Nat) (Rst : RL) (R0 : Rep Z n0 h0 ((ax, Obj "com/example/sidetrack/sidetrack/codec/RedirectionInformation" [("redirectingIndicator", "I", (.int iq)), ("originalRedirectionReason", "I", (.int oq)), ("redirectionCounter", "I", (.int cq)), ("redirectingReason", "I", (.int rq))]) :: Rst)) :
    MetFree l (⟨"com/example/sidetrack/sidetrack/codec/RedirectionInformation", "encode", "()[B"⟩ : MethodName) (head1 (Jvm.Cond.code (⟨"com/example/sidetrack/sidetrack/codec/RedirectionInformation", "encode", "()[B"⟩ : MethodName) prog_45_method_3_code 1 (some (.array .byte)) :: ws) ({ frames := 0, cells := 1, slots := 2, locals := 0 } : Room)) (fun a U => a = #[(.ref ax)] ∧ Z.Warmed39 U.vm ∧ U.heap = h0) (fun _ _ _ _ _ => True) (fun _ U o U' => ∃ v L, o = .returned v ∧ Q5 Z ax iq oq cq rq n0 Rst v U'.heap L ∧ FrameEnd U o U' L ({ frames := 0, cells := 1, slots := 2, locals := 0 } : Room).cells ({ frames := 0, cells := 1, slots := 2, locals := 0 } : Room).slots) := by
  refine MetFree.of_bodySF (plainFor_of_name pn_com_example_sidetrack_sidetrack_codec_RedirectionInformation) hisR ?_
  intro p e s m args below meth c s₁ Bd hml0 hP hK
  obtain ⟨rfl, hZ, hh⟩ := hP
  have hx := Bd.exec
  have hby := Bd.bytes
  have hml : c.maxLocals = 1 := hml0
  have hown : s.vm.findClass "com/example/sidetrack/sidetrack/codec/RedirectionInformation" = some m.cls := findClass_of_methodNamed Bd.named
  have hnm := (name_of_methodNamed Bd.named Bd.method).1
  have X0 : Stand p l e ({ frames := 0, cells := 1, slots := 2, locals := 0 } : Room) s m #[(.ref ax)] below meth c s₁ [] 0 0 := Stand.of_body Bd
  have e0 : s₁.heap = h0 := by rw [← hh, Bd.state]; rfl
  have N0 := Fr.nil n0.1
  have pre0 : ∀ t, Steps p.tables e below (s₁.setTop (mkF m 0 #[.val (.ref ax)] [])) t → Steps p.tables e below (s₁.setTop (entryFrame m #[(.ref ax)] 1)) t := fun t k => castTop (ef_5 m ax) k
  have pre1 : ∀ t, Steps p.tables e below (s₁.setTop (mkF m 1 #[.val (.ref ax)] [(.int (2 : Int32))])) t → Steps p.tables e below (s₁.setTop (entryFrame m #[(.ref ax)] 1)) t := fun t k => pre0 t (by
    show Steps p.tables e below (s₁.setTop (mkF m 0 #[.val (.ref ax)] [])) _
    refine XS.iconst X0.here hx rfl (hb hby d5_0) ?_
    exact k)
  obtain ⟨T2, h2, b2, X2, e2, R2, st2⟩ := gNewP X0 hx hZ (hw _ (List.mem_of_getElem? (i := 17) rfl)) e0 R0 (g := (mkF m 1 #[.val (.ref ax)] [(.int (2 : Int32))])) rfl (hb hby d5_1) rfl (by decide) 2 (by decide) (by decide) (by decide) (by decide) (vs := [(.int (0 : Int32)), (.int (0 : Int32))]) rfl
  replace R2 : Rep Z n0 h2 ((b2, Ar .byte [(.int (0 : Int32)), (.int (0 : Int32))]) :: (ax, Obj "com/example/sidetrack/sidetrack/codec/RedirectionInformation" [("redirectingIndicator", "I", (.int iq)), ("originalRedirectionReason", "I", (.int oq)), ("redirectionCounter", "I", (.int cq)), ("redirectingReason", "I", (.int rq))]) :: Rst) := R2
  have pre3 : ∀ t, Steps p.tables e below (T2.setTop (mkF m 3 #[.val (.ref ax)] [(.ref b2)])) t → Steps p.tables e below (s₁.setTop (entryFrame m #[(.ref ax)] 1)) t := fun t k => pre1 t (st2 t k)
  have pre4 : ∀ t, Steps p.tables e below (T2.setTop (mkF m 6 #[.val (.ref ax)] [(.ref ax), (.int (0 : Int32)), (.ref b2), (.ref b2)])) t → Steps p.tables e below (s₁.setTop (entryFrame m #[(.ref ax)] 1)) t := fun t k => pre3 t (by
    show Steps p.tables e below (T2.setTop (mkF m 3 #[.val (.ref ax)] [(.ref b2)])) _
    refine XS.dup X2.here hx rfl (hb hby d5_3) rfl rfl ?_
    refine XS.iconst X2.here hx rfl (hb hby d5_4) ?_
    refine XS.aloadN X2.here hx rfl (hb hby d5_5) rfl rfl ?_
    exact k)
  obtain ⟨T5, X5, e5, st5⟩ := gGet X2 hx hZ hown (host := "") (Or.inl (hw _ (List.mem_of_getElem? (i := 31) rfl))) e2 R2 1 1 rfl rfl (g := (mkF m 6 #[.val (.ref ax)] [(.ref ax), (.int (0 : Int32)), (.ref b2), (.ref b2)])) rfl rfl (hb hby d5_6)
  have pre6 : ∀ t, Steps p.tables e below (T5.setTop (mkF m 9 #[.val (.ref ax)] [(.int oq), (.int (0 : Int32)), (.ref b2), (.ref b2)])) t → Steps p.tables e below (s₁.setTop (entryFrame m #[(.ref ax)] 1)) t := fun t k => pre4 t (st5 t k)
  have pre7 : ∀ t, Steps p.tables e below (T5.setTop (mkF m 12 #[.val (.ref ax)] [(.ref ax), (.int (ishl oq (4 : Int32))), (.int (0 : Int32)), (.ref b2), (.ref b2)])) t → Steps p.tables e below (s₁.setTop (entryFrame m #[(.ref ax)] 1)) t := fun t k => pre6 t (by
    show Steps p.tables e below (T5.setTop (mkF m 9 #[.val (.ref ax)] [(.int oq), (.int (0 : Int32)), (.ref b2), (.ref b2)])) _
    refine XS.iconst X5.here hx rfl (hb hby d5_9) ?_
    refine XS.ishl X5.here hx rfl (hb hby d5_10) rfl ?_
    refine XS.aloadN X5.here hx rfl (hb hby d5_11) rfl rfl ?_
    exact k)
  obtain ⟨T8, X8, e8, st8⟩ := gGet X5 hx hZ hown (host := "") (Or.inl (hw _ (List.mem_of_getElem? (i := 29) rfl))) e5 R2 1 0 rfl rfl (g := (mkF m 12 #[.val (.ref ax)] [(.ref ax), (.int (ishl oq (4 : Int32))), (.int (0 : Int32)), (.ref b2), (.ref b2)])) rfl rfl (hb hby d5_12)
  have pre9 : ∀ t, Steps p.tables e below (T8.setTop (mkF m 15 #[.val (.ref ax)] [(.int iq), (.int (ishl oq (4 : Int32))), (.int (0 : Int32)), (.ref b2), (.ref b2)])) t → Steps p.tables e below (s₁.setTop (entryFrame m #[(.ref ax)] 1)) t := fun t k => pre7 t (st8 t k)
  have pre10 : ∀ t, Steps p.tables e below (T8.setTop (mkF m 17 #[.val (.ref ax)] [(.int (((ishl oq (4 : Int32)) ||| iq).toInt8.toInt32)), (.int (0 : Int32)), (.ref b2), (.ref b2)])) t → Steps p.tables e below (s₁.setTop (entryFrame m #[(.ref ax)] 1)) t := fun t k => pre9 t (by
    show Steps p.tables e below (T8.setTop (mkF m 15 #[.val (.ref ax)] [(.int iq), (.int (ishl oq (4 : Int32))), (.int (0 : Int32)), (.ref b2), (.ref b2)])) _
    refine XS.ior X8.here hx rfl (hb hby d5_15) rfl ?_
    refine XS.i2b X8.here hx rfl (hb hby d5_16) rfl ?_
    exact k)
  obtain ⟨T11, h11, ls11, X11, e11, N11, R11, st11⟩ := gBst X8 hx hZ e8 N0 R2 0 rfl (j := (0 : Int32)) (by decide) (0) rfl (show (0 : Nat) < 2 by decide) (g := (mkF m 17 #[.val (.ref ax)] [(.int (((ishl oq (4 : Int32)) ||| iq).toInt8.toInt32)), (.int (0 : Int32)), (.ref b2), (.ref b2)])) rfl rfl (hb hby d5_17)
  replace R11 : Rep Z n0 h11 ((b2, Ar .byte [(.int ((((ishl oq (4 : Int32)) ||| iq).toInt8.toInt32).toInt8.toInt32)), (.int (0 : Int32))]) :: (ax, Obj "com/example/sidetrack/sidetrack/codec/RedirectionInformation" [("redirectingIndicator", "I", (.int iq)), ("originalRedirectionReason", "I", (.int oq)), ("redirectionCounter", "I", (.int cq)), ("redirectingReason", "I", (.int rq))]) :: Rst) := R11
  have pre12 : ∀ t, Steps p.tables e below (T11.setTop (mkF m 18 #[.val (.ref ax)] [(.ref b2)])) t → Steps p.tables e below (s₁.setTop (entryFrame m #[(.ref ax)] 1)) t := fun t k => pre10 t (st11 t k)
  have pre13 : ∀ t, Steps p.tables e below (T11.setTop (mkF m 21 #[.val (.ref ax)] [(.ref ax), (.int (1 : Int32)), (.ref b2), (.ref b2)])) t → Steps p.tables e below (s₁.setTop (entryFrame m #[(.ref ax)] 1)) t := fun t k => pre12 t (by
    show Steps p.tables e below (T11.setTop (mkF m 18 #[.val (.ref ax)] [(.ref b2)])) _
    refine XS.dup X11.here hx rfl (hb hby d5_18) rfl rfl ?_
    refine XS.iconst X11.here hx rfl (hb hby d5_19) ?_
    refine XS.aloadN X11.here hx rfl (hb hby d5_20) rfl rfl ?_
    exact k)
  obtain ⟨T14, X14, e14, st14⟩ := gGet X11 hx hZ hown (host := "") (Or.inl (hw _ (List.mem_of_getElem? (i := 35) rfl))) e11 R11 1 3 rfl rfl (g := (mkF m 21 #[.val (.ref ax)] [(.ref ax), (.int (1 : Int32)), (.ref b2), (.ref b2)])) rfl rfl (hb hby d5_21)
  have pre15 : ∀ t, Steps p.tables e below (T14.setTop (mkF m 24 #[.val (.ref ax)] [(.int rq), (.int (1 : Int32)), (.ref b2), (.ref b2)])) t → Steps p.tables e below (s₁.setTop (entryFrame m #[(.ref ax)] 1)) t := fun t k => pre13 t (st14 t k)
  have pre16 : ∀ t, Steps p.tables e below (T14.setTop (mkF m 27 #[.val (.ref ax)] [(.ref ax), (.int (ishl rq (4 : Int32))), (.int (1 : Int32)), (.ref b2), (.ref b2)])) t → Steps p.tables e below (s₁.setTop (entryFrame m #[(.ref ax)] 1)) t := fun t k => pre15 t (by
    show Steps p.tables e below (T14.setTop (mkF m 24 #[.val (.ref ax)] [(.int rq), (.int (1 : Int32)), (.ref b2), (.ref b2)])) _
    refine XS.iconst X14.here hx rfl (hb hby d5_24) ?_
    refine XS.ishl X14.here hx rfl (hb hby d5_25) rfl ?_
    refine XS.aloadN X14.here hx rfl (hb hby d5_26) rfl rfl ?_
    exact k)
  obtain ⟨T17, X17, e17, st17⟩ := gGet X14 hx hZ hown (host := "") (Or.inl (hw _ (List.mem_of_getElem? (i := 33) rfl))) e14 R11 1 2 rfl rfl (g := (mkF m 27 #[.val (.ref ax)] [(.ref ax), (.int (ishl rq (4 : Int32))), (.int (1 : Int32)), (.ref b2), (.ref b2)])) rfl rfl (hb hby d5_27)
  have pre18 : ∀ t, Steps p.tables e below (T17.setTop (mkF m 30 #[.val (.ref ax)] [(.int cq), (.int (ishl rq (4 : Int32))), (.int (1 : Int32)), (.ref b2), (.ref b2)])) t → Steps p.tables e below (s₁.setTop (entryFrame m #[(.ref ax)] 1)) t := fun t k => pre16 t (st17 t k)
  have pre19 : ∀ t, Steps p.tables e below (T17.setTop (mkF m 32 #[.val (.ref ax)] [(.int (((ishl rq (4 : Int32)) ||| cq).toInt8.toInt32)), (.int (1 : Int32)), (.ref b2), (.ref b2)])) t → Steps p.tables e below (s₁.setTop (entryFrame m #[(.ref ax)] 1)) t := fun t k => pre18 t (by
    show Steps p.tables e below (T17.setTop (mkF m 30 #[.val (.ref ax)] [(.int cq), (.int (ishl rq (4 : Int32))), (.int (1 : Int32)), (.ref b2), (.ref b2)])) _
    refine XS.ior X17.here hx rfl (hb hby d5_30) rfl ?_
    refine XS.i2b X17.here hx rfl (hb hby d5_31) rfl ?_
    exact k)
  obtain ⟨T20, h20, ls20, X20, e20, N20, R20, st20⟩ := gBst X17 hx hZ e17 N11 R11 0 rfl (j := (1 : Int32)) (by decide) (1) rfl (show (1 : Nat) < 2 by decide) (g := (mkF m 32 #[.val (.ref ax)] [(.int (((ishl rq (4 : Int32)) ||| cq).toInt8.toInt32)), (.int (1 : Int32)), (.ref b2), (.ref b2)])) rfl rfl (hb hby d5_32)
  replace R20 : Rep Z n0 h20 ((b2, Ar .byte [(.int ((((ishl oq (4 : Int32)) ||| iq).toInt8.toInt32).toInt8.toInt32)), (.int ((((ishl rq (4 : Int32)) ||| cq).toInt8.toInt32).toInt8.toInt32))]) :: (ax, Obj "com/example/sidetrack/sidetrack/codec/RedirectionInformation" [("redirectingIndicator", "I", (.int iq)), ("originalRedirectionReason", "I", (.int oq)), ("redirectionCounter", "I", (.int cq)), ("redirectingReason", "I", (.int rq))]) :: Rst) := R20
  have pre21 : ∀ t, Steps p.tables e below (T20.setTop (mkF m 33 #[.val (.ref ax)] [(.ref b2)])) t → Steps p.tables e below (s₁.setTop (entryFrame m #[(.ref ax)] 1)) t := fun t k => pre19 t (st20 t k)
  obtain ⟨fs, hr, hrun, hended, hW, hsame⟩ := X20.leave (v := some (.ref b2)) (fun h => by rw [Bd.returns] at h; cases h)
  refine ⟨_, _, pre21 _ ?_, hrun, hended, _, _, rfl, ?_, ⟨_, rfl⟩, hW, hsame.mono (by decide) (by decide)⟩
  · show Steps p.tables e below (T20.setTop (mkF m 33 #[.val (.ref ax)] [(.ref b2)])) _
    exact Jvm.Own.retA X20 hx (t := (.array .byte)) rfl Bd.returns (hb hby d5_33) hr
  · show Q5 Z ax iq oq cq rq n0 Rst _ T20.heap _
    rw [e20]
    exact ⟨b2, rfl, N20, R20⟩
theorem own_m {v k : Int32} (j : Nat) (hj : j < 5) (h : v = (k &&& (Int32.ofNat (2 ^ j - 1)))) : ∃ c : Nat, v = Int32.ofNat c ∧ c < 2 ^ j := by
  subst h
  have hp : 2 ^ j ≤ 16 := Nat.pow_le_pow_right (n := 2) (by decide) (show j ≤ 4 by omega)
  have e1 : ni (Int32.ofNat (2 ^ j - 1)) = 2 ^ j - 1 := by
    show (BitVec.ofNat 32 (2 ^ j - 1)).toNat = _
    rw [BitVec.toNat_ofNat]; omega
  have e : ni (k &&& (Int32.ofNat (2 ^ j - 1))) = ni k % 2 ^ j := by rw [ni_and, e1, mask_n]
  exact ⟨ni k % 2 ^ j, by rw [← e, ofni], Nat.mod_lt _ (Nat.two_pow_pos j)⟩
theorem own_7 {v k : Int32} (h : v = (k &&& (7 : Int32))) : ∃ c : Nat, v = Int32.ofNat c ∧ c < 8 := own_m 3 (by decide) h
theorem own_15 {v k : Int32} (h : v = (k &&& (15 : Int32))) : ∃ c : Nat, v = Int32.ofNat c ∧ c < 16 := own_m 4 (by decide) h
theorem own_a7 {v k : Int32} (h : v = (k &&& (7 : Int32))) : ¬ (v < (0 : Int32)) ∧ ¬ ((7 : Int32) < v) := by
  obtain ⟨c, rfl, hc⟩ := own_7 h
  exact (by decide +kernel : ∀ c : Fin 8, ¬ (Int32.ofNat c.1 < (0 : Int32)) ∧ ¬ ((7 : Int32) < Int32.ofNat c.1)) ⟨c, hc⟩
theorem own_a15 {v k : Int32} (h : v = (k &&& (15 : Int32))) : ¬ (v < (0 : Int32)) ∧ ¬ ((15 : Int32) < v) := by
  obtain ⟨c, rfl, hc⟩ := own_15 h
  exact (by decide +kernel : ∀ c : Fin 16, ¬ (Int32.ofNat c.1 < (0 : Int32)) ∧ ¬ ((15 : Int32) < Int32.ofNat c.1)) ⟨c, hc⟩
theorem own_oct {i o k j : Int32} (hi : i = (k &&& (7 : Int32))) (ho : o = (j &&& (15 : Int32))) : (((((ishl o (4 : Int32)) ||| i).toInt8.toInt32).toInt8.toInt32) &&& (255 : Int32)) = ((o * (16 : Int32)) + i) := by
  obtain ⟨a, rfl, ha⟩ := own_7 hi
  obtain ⟨b, rfl, hb⟩ := own_15 ho
  exact (by decide +kernel : ∀ a : Fin 8, ∀ b : Fin 16, (((((ishl (Int32.ofNat b.1) (4 : Int32)) ||| (Int32.ofNat a.1)).toInt8.toInt32).toInt8.toInt32) &&& (255 : Int32)) = (((Int32.ofNat b.1) * (16 : Int32)) + (Int32.ofNat a.1))) ⟨a, ha⟩ ⟨b, hb⟩
theorem pd__28IIII_29V : parseMethodDescriptor "(IIII)V" = some ⟨[.int, .int, .int, .int], none⟩ := by decide +kernel
theorem pd__28_29_5bB : parseMethodDescriptor "()[B" = some ⟨[], some (.array .byte)⟩ := by decide +kernel
theorem pn_com_example_sidetrack_sidetrack_codec_RedirectionInformationEncodePinLaw : plainName "com/example/sidetrack/sidetrack/codec/RedirectionInformationEncodePinLaw" = true := by first | (simp [plainName, overriddenIn]; done) | decide +kernel
theorem ef_0 (m : MethodId) (x0 : Int32) (x1 : Int32) (x2 : Int32) (x3 : Int32) : entryFrame m #[(.int x0), (.int x1), (.int x2), (.int x3)] maxLocals = mkF m 0 #[.val (.int x0), .val (.int x1), .val (.int x2), .val (.int x3), .unset, .unset, .unset, .unset, .unset, .unset, .unset, .unset] [] := by first | (simp [entryFrame, mkF, argsToLocals, Value.category, maxLocals]; done) | rfl
def Q0 (Z : State) (xa : Int32) (xb : Int32) (xc : Int32) (xd : Int32) (n0 : Nat × Nat) (Rst : RL) (v : Option Value) (h : Heap) (L : List Loc) : Prop := v = some (.int (1 : Int32)) ∧ Fr n0.1 L ∧ Rep Z n0 h (Rst)
set_option maxRecDepth 65536 in
set_option maxHeartbeats 40000000 in
theorem rm0 (l : Launch) (Z : State) (a0 : Array Value) (hw : ∀ d ∈ tables_1, d.before a0 Z = true) (ws : List Jvm.Cond) (xa : Int32) (xb : Int32) (xc : Int32) (xd : Int32) (h0 : Heap) (n0 : Nat × Nat) (R0 : Rep Z n0 h0 ([])) :
    MetFree l x (head1 (Jvm.Cond.code x code maxLocals ret :: ws) room_1) (fun a U => a = #[(.int xa), (.int xb), (.int xc), (.int xd)] ∧ Z.Warmed39 U.vm ∧ U.heap = h0) (fun _ _ _ _ _ => True) (fun _ U o U' => ∃ v L, o = .returned v ∧ Q0 Z xa xb xc xd n0 [] v U'.heap L ∧ ReturnedEndW U o U' L 24 4224) := by
  refine MetFree.of_bodySF (plainFor_of_name pn_com_example_sidetrack_sidetrack_codec_RedirectionInformationEncodePinLaw) hisR ?_
  intro p e s m args below meth c s₁ Bd hml0 hP hK
  obtain ⟨rfl, hZ, hh⟩ := hP
  have hx := Bd.exec
  have hby := Bd.bytes
  have hml : c.maxLocals = 12 := hml0
  have hown : s.vm.findClass "com/example/sidetrack/sidetrack/codec/RedirectionInformationEncodePinLaw" = some m.cls := findClass_of_methodNamed Bd.named
  have hnm := (name_of_methodNamed Bd.named Bd.method).1
  have X0 : Stand p l e room_1 s m #[(.int xa), (.int xb), (.int xc), (.int xd)] below meth c s₁ [] 0 0 := Stand.of_body Bd
  have e0 : s₁.heap = h0 := by rw [← hh, Bd.state]; rfl
  have N0 := Fr.nil n0.1
  have pre0 : ∀ t, Steps p.tables e below (s₁.setTop (mkF m 0 #[.val (.int xa), .val (.int xb), .val (.int xc), .val (.int xd), .unset, .unset, .unset, .unset, .unset, .unset, .unset, .unset] [])) t → Steps p.tables e below (s₁.setTop (entryFrame m #[(.int xa), (.int xb), (.int xc), (.int xd)] maxLocals)) t := fun t k => castTop (ef_0 m xa xb xc xd) k
  have pre2 : ∀ t, Steps p.tables e below (s₁.setTop (mkF m 6 #[.val (.int xa), .val (.int xb), .val (.int xc), .val (.int xd), .val (.int (xa &&& (7 : Int32))), .unset, .unset, .unset, .unset, .unset, .unset, .unset] [])) t → Steps p.tables e below (s₁.setTop (entryFrame m #[(.int xa), (.int xb), (.int xc), (.int xd)] maxLocals)) t := fun t k => pre0 t (by
    show Steps p.tables e below (s₁.setTop (mkF m 0 #[.val (.int xa), .val (.int xb), .val (.int xc), .val (.int xd), .unset, .unset, .unset, .unset, .unset, .unset, .unset, .unset] [])) _
    refine XS.iloadN X0.here hx rfl (hb hby at_0) rfl ?_
    refine XS.bipush X0.here hx rfl (hb hby at_1) ?_
    refine XS.iand X0.here hx rfl (hb hby at_3) rfl ?_
    refine XS.istore X0.here hx rfl (hb hby at_4) rfl (l' := #[.val (.int xa), .val (.int xb), .val (.int xc), .val (.int xd), .val (.int (xa &&& (7 : Int32))), .unset, .unset, .unset, .unset, .unset, .unset, .unset]) rfl ?_
    exact k)
  obtain ⟨v1, hv1⟩ : ∃ z : Int32, z = (xa &&& (7 : Int32)) := ⟨_, rfl⟩
  rw [← hv1] at pre2
  have pre4 : ∀ t, Steps p.tables e below (s₁.setTop (mkF m 12 #[.val (.int xa), .val (.int xb), .val (.int xc), .val (.int xd), .val (.int v1), .val (.int (xb &&& (15 : Int32))), .unset, .unset, .unset, .unset, .unset, .unset] [])) t → Steps p.tables e below (s₁.setTop (entryFrame m #[(.int xa), (.int xb), (.int xc), (.int xd)] maxLocals)) t := fun t k => pre2 t (by
    show Steps p.tables e below (s₁.setTop (mkF m 6 #[.val (.int xa), .val (.int xb), .val (.int xc), .val (.int xd), .val (.int v1), .unset, .unset, .unset, .unset, .unset, .unset, .unset] [])) _
    refine XS.iloadN X0.here hx rfl (hb hby at_6) rfl ?_
    refine XS.bipush X0.here hx rfl (hb hby at_7) ?_
    refine XS.iand X0.here hx rfl (hb hby at_9) rfl ?_
    refine XS.istore X0.here hx rfl (hb hby at_10) rfl (l' := #[.val (.int xa), .val (.int xb), .val (.int xc), .val (.int xd), .val (.int v1), .val (.int (xb &&& (15 : Int32))), .unset, .unset, .unset, .unset, .unset, .unset]) rfl ?_
    exact k)
  obtain ⟨v3, hv3⟩ : ∃ z : Int32, z = (xb &&& (15 : Int32)) := ⟨_, rfl⟩
  rw [← hv3] at pre4
  have pre6 : ∀ t, Steps p.tables e below (s₁.setTop (mkF m 18 #[.val (.int xa), .val (.int xb), .val (.int xc), .val (.int xd), .val (.int v1), .val (.int v3), .val (.int (xc &&& (7 : Int32))), .unset, .unset, .unset, .unset, .unset] [])) t → Steps p.tables e below (s₁.setTop (entryFrame m #[(.int xa), (.int xb), (.int xc), (.int xd)] maxLocals)) t := fun t k => pre4 t (by
    show Steps p.tables e below (s₁.setTop (mkF m 12 #[.val (.int xa), .val (.int xb), .val (.int xc), .val (.int xd), .val (.int v1), .val (.int v3), .unset, .unset, .unset, .unset, .unset, .unset] [])) _
    refine XS.iloadN X0.here hx rfl (hb hby at_12) rfl ?_
    refine XS.bipush X0.here hx rfl (hb hby at_13) ?_
    refine XS.iand X0.here hx rfl (hb hby at_15) rfl ?_
    refine XS.istore X0.here hx rfl (hb hby at_16) rfl (l' := #[.val (.int xa), .val (.int xb), .val (.int xc), .val (.int xd), .val (.int v1), .val (.int v3), .val (.int (xc &&& (7 : Int32))), .unset, .unset, .unset, .unset, .unset]) rfl ?_
    exact k)
  obtain ⟨v5, hv5⟩ : ∃ z : Int32, z = (xc &&& (7 : Int32)) := ⟨_, rfl⟩
  rw [← hv5] at pre6
  have pre8 : ∀ t, Steps p.tables e below (s₁.setTop (mkF m 24 #[.val (.int xa), .val (.int xb), .val (.int xc), .val (.int xd), .val (.int v1), .val (.int v3), .val (.int v5), .val (.int (xd &&& (15 : Int32))), .unset, .unset, .unset, .unset] [])) t → Steps p.tables e below (s₁.setTop (entryFrame m #[(.int xa), (.int xb), (.int xc), (.int xd)] maxLocals)) t := fun t k => pre6 t (by
    show Steps p.tables e below (s₁.setTop (mkF m 18 #[.val (.int xa), .val (.int xb), .val (.int xc), .val (.int xd), .val (.int v1), .val (.int v3), .val (.int v5), .unset, .unset, .unset, .unset, .unset] [])) _
    refine XS.iloadN X0.here hx rfl (hb hby at_18) rfl ?_
    refine XS.bipush X0.here hx rfl (hb hby at_19) ?_
    refine XS.iand X0.here hx rfl (hb hby at_21) rfl ?_
    refine XS.istore X0.here hx rfl (hb hby at_22) rfl (l' := #[.val (.int xa), .val (.int xb), .val (.int xc), .val (.int xd), .val (.int v1), .val (.int v3), .val (.int v5), .val (.int (xd &&& (15 : Int32))), .unset, .unset, .unset, .unset]) rfl ?_
    exact k)
  obtain ⟨v7, hv7⟩ : ∃ z : Int32, z = (xd &&& (15 : Int32)) := ⟨_, rfl⟩
  rw [← hv7] at pre8
  obtain ⟨T9, h9, b9, X9, e9, R9, st9⟩ := gNew X0 hx hZ hown (hw _ (List.mem_of_getElem? (i := 0) rfl)) (hw _ (List.mem_of_getElem? (i := 1) rfl)) (hw _ (List.mem_of_getElem? (i := 2) rfl)) e0 R0 (fs := [("redirectingIndicator", "I", (.int (0 : Int32))), ("originalRedirectionReason", "I", (.int (0 : Int32))), ("redirectionCounter", "I", (.int (0 : Int32))), ("redirectingReason", "I", (.int (0 : Int32)))]) ⟨⟨Or.inr (hw _ (List.mem_of_getElem? (i := 30) rfl)), .int, by decide, rfl⟩, ⟨⟨Or.inr (hw _ (List.mem_of_getElem? (i := 32) rfl)), .int, by decide, rfl⟩, ⟨⟨Or.inr (hw _ (List.mem_of_getElem? (i := 34) rfl)), .int, by decide, rfl⟩, ⟨⟨Or.inr (hw _ (List.mem_of_getElem? (i := 36) rfl)), .int, by decide, rfl⟩, trivial⟩⟩⟩⟩ (by decide) (g := (mkF m 24 #[.val (.int xa), .val (.int xb), .val (.int xc), .val (.int xd), .val (.int v1), .val (.int v3), .val (.int v5), .val (.int v7), .unset, .unset, .unset, .unset] [])) rfl (hb hby at_24) (by decide) (by decide)
  have pre10 : ∀ t, Steps p.tables e below (T9.setTop (mkF m 27 #[.val (.int xa), .val (.int xb), .val (.int xc), .val (.int xd), .val (.int v1), .val (.int v3), .val (.int v5), .val (.int v7), .unset, .unset, .unset, .unset] [(.ref b9)])) t → Steps p.tables e below (s₁.setTop (entryFrame m #[(.int xa), (.int xb), (.int xc), (.int xd)] maxLocals)) t := fun t k => pre8 t (st9 t k)
  have pre11 : ∀ t, Steps p.tables e below (T9.setTop (mkF m 36 #[.val (.int xa), .val (.int xb), .val (.int xc), .val (.int xd), .val (.int v1), .val (.int v3), .val (.int v5), .val (.int v7), .unset, .unset, .unset, .unset] [(.int v7), (.int v5), (.int v3), (.int v1), (.ref b9), (.ref b9)])) t → Steps p.tables e below (s₁.setTop (entryFrame m #[(.int xa), (.int xb), (.int xc), (.int xd)] maxLocals)) t := fun t k => pre10 t (by
    show Steps p.tables e below (T9.setTop (mkF m 27 #[.val (.int xa), .val (.int xb), .val (.int xc), .val (.int xd), .val (.int v1), .val (.int v3), .val (.int v5), .val (.int v7), .unset, .unset, .unset, .unset] [(.ref b9)])) _
    refine XS.dup X9.here hx rfl (hb hby at_27) rfl rfl ?_
    refine XS.iload X9.here hx rfl (hb hby at_28) rfl ?_
    refine XS.iload X9.here hx rfl (hb hby at_30) rfl ?_
    refine XS.iload X9.here hx rfl (hb hby at_32) rfl ?_
    refine XS.iload X9.here hx rfl (hb hby at_34) rfl ?_
    exact k)
  obtain ⟨_, _, ⟨T12, L12, k12, n12⟩, -, X12, hS12, hg12, ⟨Lc12, hQ12, l12, y12, z12⟩, st12⟩ := X9.specialBackS hx (y := (⟨"com/example/sidetrack/sidetrack/codec/RedirectionInformation", "<init>", "(IIII)V"⟩ : MethodName)) rfl hown (mvT hZ (hw _ (List.mem_of_getElem? (i := 3) rfl))) (mvT hZ (hw _ (List.mem_of_getElem? (i := 4) rfl))) (mvT hZ (hw _ (List.mem_of_getElem? (i := 5) rfl))) (by decide) (backOfS (W := 1) (rm1 l Z a0 hw [] b9 v1 v3 v5 v7 _ _ _ _ h9 n0 _ R9 ((own_a7 hv1).1) ((own_a7 hv1).2) ((own_a15 hv3).1) ((own_a15 hv3).2) ((own_a7 hv5).1) ((own_a7 hv5).2) ((own_a15 hv7).1) ((own_a15 hv7).2)) hZ (hw _ (List.mem_of_getElem? (i := 5) rfl)) (hw _ (List.mem_of_getElem? (i := 2) rfl)) (by decide) (by decide)) (g := (mkF m 36 #[.val (.int xa), .val (.int xb), .val (.int xc), .val (.int xd), .val (.int v1), .val (.int v3), .val (.int v5), .val (.int v7), .unset, .unset, .unset, .unset] [(.int v7), (.int v5), (.int v3), (.int v1), (.ref b9), (.ref b9)])) rfl (by rw [hml]; rfl) (Steps.refl _) (a := b9) (argsL := [(.int v1), (.int v3), (.int v5), (.int v7)]) (rest := [(.ref b9)]) (lenOf pd__28IIII_29V rfl) rfl (by show 2 * 0 + _ ≤ _; exact Nat.le_of_eq rfl) (hb hby at_36) (fun _ _ => ⟨rfl, e9, (by decide : 1 + 8 ≤ _), (by decide : 4 + 356 ≤ _)⟩)
  dsimp only [Pt.U, Pt.locs, Pt.cells, Pt.slots] at X12 l12 y12 z12 st12 hQ12
  subst y12 z12
  obtain ⟨rfl, N12q, R12⟩ := hQ12
  have N12 : Fr n0.1 L12 := by rw [l12]; exact Fr.app N0 N12q
  replace R12 : Rep Z n0 T12.heap ((b9, Obj "com/example/sidetrack/sidetrack/codec/RedirectionInformation" [("redirectingIndicator", "I", (.int v1)), ("originalRedirectionReason", "I", (.int v3)), ("redirectionCounter", "I", (.int v5)), ("redirectingReason", "I", (.int v7))]) :: []) := R12
  obtain ⟨nb12, Rr12, Nr12, Qn12, hk12⟩ := Rep.rise R12 N12
  replace hZ : Z.Warmed39 (s.setVm T12.vm).vm := State.Warmed39.trans (t := s) hZ hS12.1
  replace hown : (s.setVm T12.vm).vm.findClass "com/example/sidetrack/sidetrack/codec/RedirectionInformationEncodePinLaw" = some m.cls := by rw [show (s.setVm T12.vm).vm = T12.vm from rfl, hS12.1.alike.findClass]; exact hown
  have pre13 : ∀ t, Steps p.tables e below (T12.setTop (mkF m 39 #[.val (.int xa), .val (.int xb), .val (.int xc), .val (.int xd), .val (.int v1), .val (.int v3), .val (.int v5), .val (.int v7), .unset, .unset, .unset, .unset] [(.ref b9)])) t → Steps p.tables e below (s₁.setTop (entryFrame m #[(.int xa), (.int xb), (.int xc), (.int xd)] maxLocals)) t := fun t k => pre11 t (st12.trans k)
  have pre14 : ∀ t, Steps p.tables e below (T12.setTop (mkF m 43 #[.val (.int xa), .val (.int xb), .val (.int xc), .val (.int xd), .val (.int v1), .val (.int v3), .val (.int v5), .val (.int v7), .val (.ref b9), .unset, .unset, .unset] [(.ref b9)])) t → Steps p.tables e below (s₁.setTop (entryFrame m #[(.int xa), (.int xb), (.int xc), (.int xd)] maxLocals)) t := fun t k => pre13 t (by
    show Steps p.tables e below (T12.setTop (mkF m 39 #[.val (.int xa), .val (.int xb), .val (.int xc), .val (.int xd), .val (.int v1), .val (.int v3), .val (.int v5), .val (.int v7), .unset, .unset, .unset, .unset] [(.ref b9)])) _
    refine XS.astore X12.here hx rfl (hb hby at_39) rfl rfl (l' := #[.val (.int xa), .val (.int xb), .val (.int xc), .val (.int xd), .val (.int v1), .val (.int v3), .val (.int v5), .val (.int v7), .val (.ref b9), .unset, .unset, .unset]) rfl ?_
    refine XS.aload X12.here hx rfl (hb hby at_41) rfl rfl ?_
    exact k)
  obtain ⟨cq15, kq15, q15a, q15b, q15c⟩ := isOf hZ rfl (Rr12.exa (i := 0) rfl)
  obtain ⟨_, _, ⟨T15, L15, k15, n15⟩, -, X15, ⟨Lc15, hQ15, l15, y15, z15⟩, st15⟩ := X12.virtualBack hx (y := (⟨"com/example/sidetrack/sidetrack/codec/RedirectionInformation", "encode", "()[B"⟩ : MethodName)) (z := (⟨"com/example/sidetrack/sidetrack/codec/RedirectionInformation", "encode", "()[B"⟩ : MethodName)) hown (mvT hZ (hw _ (List.mem_of_getElem? (i := 37) rfl))) (mvT hZ (hw _ (List.mem_of_getElem? (i := 38) rfl))) (notFace_of_selects (args := #[]) (mvT hZ (hw _ (List.mem_of_getElem? (i := 40) rfl)))) (mvT hZ (hw _ (List.mem_of_getElem? (i := 40) rfl))) (mvT hZ (hw _ (List.mem_of_getElem? (i := 39) rfl))) (by decide) (backOf (W := 0) (rm5 l Z a0 hw [] b9 _ _ _ _ T12.heap nb12 _ Rr12 ) hZ (hw _ (List.mem_of_getElem? (i := 41) rfl)) (hw _ (List.mem_of_getElem? (i := 2) rfl)) (by decide) (by decide)) q15a q15c (g := (mkF m 43 #[.val (.int xa), .val (.int xb), .val (.int xc), .val (.int xd), .val (.int v1), .val (.int v3), .val (.int v5), .val (.int v7), .val (.ref b9), .unset, .unset, .unset] [(.ref b9)])) rfl (by rw [hml]; rfl) (Steps.refl _) (argsL := []) (rest := []) (lenOf pd__28_29_5bB rfl) rfl (by show 2 * 0 + _ ≤ _; exact Nat.le_of_eq rfl) (hb hby at_43) (fun _ _ => ⟨rfl, rfl, (by decide : 9 + 1 ≤ _), (by decide : 360 + 2 ≤ _)⟩)
  dsimp only [Pt.U, Pt.locs, Pt.cells, Pt.slots] at X15 l15 y15 z15 st15 hQ15
  subst y15 z15
  obtain ⟨bx15, rfl, N15q, R15⟩ := hQ15
  have N15 : Fr nb12.1 L15 := by rw [l15]; exact Fr.app Nr12 N15q
  replace R15 : Rep Z nb12 T15.heap ((bx15, Ar .byte [(.int ((((ishl v3 (4 : Int32)) ||| v1).toInt8.toInt32).toInt8.toInt32)), (.int ((((ishl v7 (4 : Int32)) ||| v5).toInt8.toInt32).toInt8.toInt32))]) :: (b9, Obj "com/example/sidetrack/sidetrack/codec/RedirectionInformation" [("redirectingIndicator", "I", (.int v1)), ("originalRedirectionReason", "I", (.int v3)), ("redirectionCounter", "I", (.int v5)), ("redirectingReason", "I", (.int v7))]) :: []) := R15
  have pre16 : ∀ t, Steps p.tables e below (T15.setTop (mkF m 46 #[.val (.int xa), .val (.int xb), .val (.int xc), .val (.int xd), .val (.int v1), .val (.int v3), .val (.int v5), .val (.int v7), .val (.ref b9), .unset, .unset, .unset] [(.ref bx15)])) t → Steps p.tables e below (s₁.setTop (entryFrame m #[(.int xa), (.int xb), (.int xc), (.int xd)] maxLocals)) t := fun t k => pre14 t (st15.trans k)
  have pre18 : ∀ t, Steps p.tables e below (T15.setTop (mkF m 57 #[.val (.int xa), .val (.int xb), .val (.int xc), .val (.int xd), .val (.int v1), .val (.int v3), .val (.int v5), .val (.int v7), .val (.ref b9), .val (.ref bx15), .unset, .unset] [(.int (2 : Int32)), (.int (2 : Int32))])) t → Steps p.tables e below (s₁.setTop (entryFrame m #[(.int xa), (.int xb), (.int xc), (.int xd)] maxLocals)) t := fun t k => pre16 t (by
    show Steps p.tables e below (T15.setTop (mkF m 46 #[.val (.int xa), .val (.int xb), .val (.int xc), .val (.int xd), .val (.int v1), .val (.int v3), .val (.int v5), .val (.int v7), .val (.ref b9), .unset, .unset, .unset] [(.ref bx15)])) _
    refine XS.astore X15.here hx rfl (hb hby at_46) rfl rfl (l' := #[.val (.int xa), .val (.int xb), .val (.int xc), .val (.int xd), .val (.int v1), .val (.int v3), .val (.int v5), .val (.int v7), .val (.ref b9), .val (.ref bx15), .unset, .unset]) rfl ?_
    refine XS.aload X15.here hx rfl (hb hby at_48) rfl rfl ?_
    refine XS.ifnullNo X15.here hx rfl (hb hby at_50) rfl ?_
    refine XS.aload X15.here hx rfl (hb hby at_53) rfl rfl ?_
    refine gLen X15 hx hZ rfl R15 0 rfl (g := (mkF m 55 #[.val (.int xa), .val (.int xb), .val (.int xc), .val (.int xd), .val (.int v1), .val (.int v3), .val (.int v5), .val (.int v7), .val (.ref b9), .val (.ref bx15), .unset, .unset] [(.ref bx15)])) rfl rfl (hb hby at_55) (z := (2 : Int32)) (rfl) _ ?_
    refine XS.iconst X15.here hx rfl (hb hby at_56) ?_
    exact k)
  have hb17 : (2 : Int32) = (2 : Int32) := (by decide)
  have pre20 : ∀ t, Steps p.tables e below (T15.setTop (mkF m 72 #[.val (.int xa), .val (.int xb), .val (.int xc), .val (.int xd), .val (.int v1), .val (.int v3), .val (.int v5), .val (.int v7), .val (.ref b9), .val (.ref bx15), .val (.int (((((ishl v3 (4 : Int32)) ||| v1).toInt8.toInt32).toInt8.toInt32) &&& (255 : Int32))), .unset] [])) t → Steps p.tables e below (s₁.setTop (entryFrame m #[(.int xa), (.int xb), (.int xc), (.int xd)] maxLocals)) t := fun t k => pre18 t (by
    show Steps p.tables e below (T15.setTop (mkF m 57 #[.val (.int xa), .val (.int xb), .val (.int xc), .val (.int xd), .val (.int v1), .val (.int v3), .val (.int v5), .val (.int v7), .val (.ref b9), .val (.ref bx15), .unset, .unset] [(.int (2 : Int32)), (.int (2 : Int32))])) _
    refine XS.icmpYes X15.here hx rfl (pc0 := 57) (pc' := 62) rfl (hb hby at_57) rfl (teq hb17).1 (by decide) (by decide) ?_
    refine XS.aload X15.here hx rfl (hb hby at_62) rfl rfl ?_
    refine XS.iconst X15.here hx rfl (hb hby at_64) ?_
    refine gBald X15 hx hZ rfl R15 0 rfl (j := (0 : Int32)) (v := (.int ((((ishl v3 (4 : Int32)) ||| v1).toInt8.toInt32).toInt8.toInt32))) (by decide) rfl (g := (mkF m 65 #[.val (.int xa), .val (.int xb), .val (.int xc), .val (.int xd), .val (.int v1), .val (.int v3), .val (.int v5), .val (.int v7), .val (.ref b9), .val (.ref bx15), .unset, .unset] [(.int (0 : Int32)), (.ref bx15)])) rfl rfl (hb hby at_65) _ ?_
    refine XS.sipush X15.here hx rfl (hb hby at_66) ?_
    refine XS.iand X15.here hx rfl (hb hby at_69) rfl ?_
    refine XS.istore X15.here hx rfl (hb hby at_70) rfl (l' := #[.val (.int xa), .val (.int xb), .val (.int xc), .val (.int xd), .val (.int v1), .val (.int v3), .val (.int v5), .val (.int v7), .val (.ref b9), .val (.ref bx15), .val (.int (((((ishl v3 (4 : Int32)) ||| v1).toInt8.toInt32).toInt8.toInt32) &&& (255 : Int32))), .unset]) rfl ?_
    exact k)
  obtain ⟨v19, hv19⟩ : ∃ z : Int32, z = (((((ishl v3 (4 : Int32)) ||| v1).toInt8.toInt32).toInt8.toInt32) &&& (255 : Int32)) := ⟨_, rfl⟩
  rw [← hv19] at pre20
  have pre22 : ∀ t, Steps p.tables e below (T15.setTop (mkF m 82 #[.val (.int xa), .val (.int xb), .val (.int xc), .val (.int xd), .val (.int v1), .val (.int v3), .val (.int v5), .val (.int v7), .val (.ref b9), .val (.ref bx15), .val (.int v19), .val (.int (((((ishl v7 (4 : Int32)) ||| v5).toInt8.toInt32).toInt8.toInt32) &&& (255 : Int32)))] [])) t → Steps p.tables e below (s₁.setTop (entryFrame m #[(.int xa), (.int xb), (.int xc), (.int xd)] maxLocals)) t := fun t k => pre20 t (by
    show Steps p.tables e below (T15.setTop (mkF m 72 #[.val (.int xa), .val (.int xb), .val (.int xc), .val (.int xd), .val (.int v1), .val (.int v3), .val (.int v5), .val (.int v7), .val (.ref b9), .val (.ref bx15), .val (.int v19), .unset] [])) _
    refine XS.aload X15.here hx rfl (hb hby at_72) rfl rfl ?_
    refine XS.iconst X15.here hx rfl (hb hby at_74) ?_
    refine gBald X15 hx hZ rfl R15 0 rfl (j := (1 : Int32)) (v := (.int ((((ishl v7 (4 : Int32)) ||| v5).toInt8.toInt32).toInt8.toInt32))) (by decide) rfl (g := (mkF m 75 #[.val (.int xa), .val (.int xb), .val (.int xc), .val (.int xd), .val (.int v1), .val (.int v3), .val (.int v5), .val (.int v7), .val (.ref b9), .val (.ref bx15), .val (.int v19), .unset] [(.int (1 : Int32)), (.ref bx15)])) rfl rfl (hb hby at_75) _ ?_
    refine XS.sipush X15.here hx rfl (hb hby at_76) ?_
    refine XS.iand X15.here hx rfl (hb hby at_79) rfl ?_
    refine XS.istore X15.here hx rfl (hb hby at_80) rfl (l' := #[.val (.int xa), .val (.int xb), .val (.int xc), .val (.int xd), .val (.int v1), .val (.int v3), .val (.int v5), .val (.int v7), .val (.ref b9), .val (.ref bx15), .val (.int v19), .val (.int (((((ishl v7 (4 : Int32)) ||| v5).toInt8.toInt32).toInt8.toInt32) &&& (255 : Int32)))]) rfl ?_
    exact k)
  obtain ⟨v21, hv21⟩ : ∃ z : Int32, z = (((((ishl v7 (4 : Int32)) ||| v5).toInt8.toInt32).toInt8.toInt32) &&& (255 : Int32)) := ⟨_, rfl⟩
  rw [← hv21] at pre22
  have pre24 : ∀ t, Steps p.tables e below (T15.setTop (mkF m 92 #[.val (.int xa), .val (.int xb), .val (.int xc), .val (.int xd), .val (.int v1), .val (.int v3), .val (.int v5), .val (.int v7), .val (.ref b9), .val (.ref bx15), .val (.int v19), .val (.int v21)] [(.int ((v3 * (16 : Int32)) + v1)), (.int v19)])) t → Steps p.tables e below (s₁.setTop (entryFrame m #[(.int xa), (.int xb), (.int xc), (.int xd)] maxLocals)) t := fun t k => pre22 t (by
    show Steps p.tables e below (T15.setTop (mkF m 82 #[.val (.int xa), .val (.int xb), .val (.int xc), .val (.int xd), .val (.int v1), .val (.int v3), .val (.int v5), .val (.int v7), .val (.ref b9), .val (.ref bx15), .val (.int v19), .val (.int v21)] [])) _
    refine XS.iload X15.here hx rfl (hb hby at_82) rfl ?_
    refine XS.iload X15.here hx rfl (hb hby at_84) rfl ?_
    refine XS.bipush X15.here hx rfl (hb hby at_86) ?_
    refine XS.imul X15.here hx rfl (hb hby at_88) rfl ?_
    refine XS.iload X15.here hx rfl (hb hby at_89) rfl ?_
    refine XS.iadd X15.here hx rfl (hb hby at_91) rfl ?_
    exact k)
  have hb23 : v19 = ((v3 * (16 : Int32)) + v1) := (by rw [hv19]; exact own_oct hv1 hv3)
  have pre26 : ∀ t, Steps p.tables e below (T15.setTop (mkF m 105 #[.val (.int xa), .val (.int xb), .val (.int xc), .val (.int xd), .val (.int v1), .val (.int v3), .val (.int v5), .val (.int v7), .val (.ref b9), .val (.ref bx15), .val (.int v19), .val (.int v21)] [(.int ((v7 * (16 : Int32)) + v5)), (.int v21)])) t → Steps p.tables e below (s₁.setTop (entryFrame m #[(.int xa), (.int xb), (.int xc), (.int xd)] maxLocals)) t := fun t k => pre24 t (by
    show Steps p.tables e below (T15.setTop (mkF m 92 #[.val (.int xa), .val (.int xb), .val (.int xc), .val (.int xd), .val (.int v1), .val (.int v3), .val (.int v5), .val (.int v7), .val (.ref b9), .val (.ref bx15), .val (.int v19), .val (.int v21)] [(.int ((v3 * (16 : Int32)) + v1)), (.int v19)])) _
    refine XS.icmpNo X15.here hx rfl (hb hby at_92) rfl (teq hb23).2 ?_
    refine XS.iload X15.here hx rfl (hb hby at_95) rfl ?_
    refine XS.iload X15.here hx rfl (hb hby at_97) rfl ?_
    refine XS.bipush X15.here hx rfl (hb hby at_99) ?_
    refine XS.imul X15.here hx rfl (hb hby at_101) rfl ?_
    refine XS.iload X15.here hx rfl (hb hby at_102) rfl ?_
    refine XS.iadd X15.here hx rfl (hb hby at_104) rfl ?_
    exact k)
  have hb25 : v21 = ((v7 * (16 : Int32)) + v5) := (by rw [hv21]; exact own_oct hv5 hv7)
  have pre27 : ∀ t, Steps p.tables e below (T15.setTop (mkF m 113 #[.val (.int xa), .val (.int xb), .val (.int xc), .val (.int xd), .val (.int v1), .val (.int v3), .val (.int v5), .val (.int v7), .val (.ref b9), .val (.ref bx15), .val (.int v19), .val (.int v21)] [(.int (1 : Int32))])) t → Steps p.tables e below (s₁.setTop (entryFrame m #[(.int xa), (.int xb), (.int xc), (.int xd)] maxLocals)) t := fun t k => pre26 t (by
    show Steps p.tables e below (T15.setTop (mkF m 105 #[.val (.int xa), .val (.int xb), .val (.int xc), .val (.int xd), .val (.int v1), .val (.int v3), .val (.int v5), .val (.int v7), .val (.ref b9), .val (.ref bx15), .val (.int v19), .val (.int v21)] [(.int ((v7 * (16 : Int32)) + v5)), (.int v21)])) _
    refine XS.icmpNo X15.here hx rfl (hb hby at_105) rfl (teq hb25).2 ?_
    refine XS.iconst X15.here hx rfl (hb hby at_108) ?_
    refine XS.goto X15.here hx rfl (pc0 := 109) (pc' := 113) rfl (hb hby at_109) (by decide) (by decide) ?_
    exact k)
  obtain ⟨fs, hr, hrun, hended, hE⟩ := X15.leaveW (s := s) (vm₁ := T12.vm) hS12 (Nat.le_trans hk12 (by first | exact R15.1.2 | (rw [rfl]; exact R15.1.2))) (v := some (.int (nar .boolean (1 : Int32)))) (fun h => by rw [Bd.returns] at h; cases h)
  refine ⟨_, _, pre27 _ ?_, hrun, hended, _, _, rfl, ?_, hE.1, hE.2.1, hE.2.2.1, hE.2.2.2.mono (by decide) (by decide)⟩
  · show Steps p.tables e below (T15.setTop (mkF m 113 #[.val (.int xa), .val (.int xb), .val (.int xc), .val (.int xd), .val (.int v1), .val (.int v3), .val (.int v5), .val (.int v7), .val (.ref b9), .val (.ref bx15), .val (.int v19), .val (.int v21)] [(.int (1 : Int32))])) _
    exact retN X15 hx (t := .boolean) Bd.returns (by simp) (hb hby at_113) hr
  · show Q0 Z xa xb xc xd n0 [] _ T15.heap _
    have R28 : Rep Z nb12 T15.heap ((b9, Obj "com/example/sidetrack/sidetrack/codec/RedirectionInformation" [("redirectingIndicator", "I", (.int v1)), ("originalRedirectionReason", "I", (.int v3)), ("redirectionCounter", "I", (.int v5)), ("redirectingReason", "I", (.int v7))]) :: []) := (R15.front 0 rfl rfl : Rep Z nb12 T15.heap ((bx15, Ar .byte [(.int ((((ishl v3 (4 : Int32)) ||| v1).toInt8.toInt32).toInt8.toInt32)), (.int ((((ishl v7 (4 : Int32)) ||| v5).toInt8.toInt32).toInt8.toInt32))]) :: (b9, Obj "com/example/sidetrack/sidetrack/codec/RedirectionInformation" [("redirectingIndicator", "I", (.int v1)), ("originalRedirectionReason", "I", (.int v3)), ("redirectionCounter", "I", (.int v5)), ("redirectingReason", "I", (.int v7))]) :: [])).tail
    have R29 : Rep Z nb12 T15.heap ([]) := (R28.front 0 rfl rfl : Rep Z nb12 T15.heap ((b9, Obj "com/example/sidetrack/sidetrack/codec/RedirectionInformation" [("redirectingIndicator", "I", (.int v1)), ("originalRedirectionReason", "I", (.int v3)), ("redirectionCounter", "I", (.int v5)), ("redirectingReason", "I", (.int v7))]) :: [])).tail
    exact ⟨(by rfl), (by rw [← Qn12.1]; exact N15), (Rep.low R29 Qn12)⟩
set_option maxRecDepth 65536 in
set_option maxHeartbeats 40000000 in
theorem comes_1 {Post : Tables → Env → Array Value → State → Outcome → State → Prop} (hpost : ∀ tb e args s v u, (limb_1_1.after args s (.returned v) u = true ∧ limb_1_2.after args s (.returned v) u = true ∧ True) → ReturnedEndW s (.returned v) u (Jvm.fieldLocs frame_1_writes args s ++ Jvm.arrayLocs frame_1_arrays args s ++ Jvm.staticLocs frame_1_statics s) 24 4224 → Post tb e args s (.returned v) u) :
    ArmFor flags0 classFile x code maxLocals ret World_1 tables_1 room_1 Calls_1 rest_1 Pre_1 Post := by
  intro l hfl _ _ p e ha hc hk s m args below hf hA hF happ hP
  obtain ⟨hcalls, hrest, hpre⟩ := hP
  obtain ⟨-, -, -, hnamed, -, -, -, hat⟩ := (Spec.applies_iff hf).mp happ
  obtain ⟨hg, hn⟩ := and_e (Cond.before_iff.mp (show (Jvm.Cond.and given_1 narrow_1).before args s = true from hpre))
  obtain ⟨hct, hg⟩ := and_e hg
  obtain ⟨hg0, hg⟩ := and_e hg
  obtain ⟨hg1, hg⟩ := and_e hg
  obtain ⟨hg2, hg⟩ := and_e hg
  have hg3 := hg
  obtain ⟨w0, w1, w2, w3, rfl⟩ : ∃ w0 w1 w2 w3 : Value, args = #[w0, w1, w2, w3] := by
    have hs : args.size = 4 := by simpa [Cond.value, given_1] using hct
    obtain ⟨L⟩ := args
    match L, hs with
    | [w0, w1, w2, w3], _ => exact ⟨w0, w1, w2, w3, rfl⟩
  have hw := fun d (hd : d ∈ tables_1) => atoms_spec (ws := Jvm.Cond.code x code maxLocals ret :: tables_1) hat d (List.mem_cons_of_mem _ hd)
  obtain ⟨i0, ei0⟩ := is_v hg0
  obtain rfl : w0 = (.int i0) := Option.some.inj ei0
  obtain ⟨i1, ei1⟩ := is_v hg1
  obtain rfl : w1 = (.int i1) := Option.some.inj ei1
  obtain ⟨i2, ei2⟩ := is_v hg2
  obtain rfl : w2 = (.int i2) := Option.some.inj ei2
  obtain ⟨i3, ei3⟩ := is_v hg3
  obtain rfl : w3 = (.int i3) := Option.some.inj ei3
  obtain ⟨n, o, h1, h2, h3, _, L, rfl, ⟨rfl, N, -⟩, hq⟩ := rm0 l s _ hw tables_1 i0 i1 i2 i3 s.heap (s.heap.size, s.heap.size) (Rep.nil _) p e ha hc hk s m _ below hf ((Spec.applies_iff_loose hf).mp happ).1 ⟨rfl, State.Warmed39.refl s, rfl⟩ trivial
  refine ⟨n, _, h1, h2, h3, hpost _ _ _ _ _ _ ⟨Cond.after_iff.mpr rfl, Cond.after_iff.mpr (eq_i res_at (Term.int_eval (1)) rfl), trivial⟩ ⟨hq.1, hq.2.1, hq.2.2.1, (hq.2.2.2.sift fun y hy => Or.inr (N y hy)).mono (by decide) (by decide)⟩⟩
theorem main_1_1 : Claimed_1_1 := comes_1 fun _ _ _ _ _ _ h hF => ⟨h.1, hF⟩
theorem main_1_2 : Claimed_1_2 := comes_1 fun _ _ _ _ _ _ h hF => ⟨h.2.1, hF⟩
end Jvm.Pilot.@@N@@
namespace Jvm.Pilot.@@N@@
open Jvm Jvm.ClassFile Sem Op Lib Jvm.Free Jvm.Stand Jvm.Pilot.@@N@@.Jvm.D
/-! MADE BY PROGRAM (witnessworld.py) out of the Statement's table words and the real class files: 16 classes; the members and pool entries that the words name. The judged class is class 1, her method 1. -/
namespace start1
open Jvm.ClassFile
def u (s : String) : CpInfo := .utf8 (stringToUtf16 s)
/-- a pool by its gaps: so many unusable entries, then the entry; so many at the end -/
def gap : Nat → List CpInfo → List CpInfo
  | 0, r => r
  | n + 1, r => .unusable :: gap n r
def poolList (es : List (Nat × CpInfo)) (last : Nat) : List CpInfo := es.foldr (fun e r => gap e.1 (e.2 :: r)) (gap last [])
def pool (es : List (Nat × CpInfo)) (last : Nat) : Array CpInfo := ⟨poolList es last⟩
def fileOf (pool : Array CpInfo) (this : Nat) (attrs : Array Attribute := #[]) (ms : Array MethodInfo := #[]) (fl : Nat := 33) (sup : Nat := 0) (ifs : Array Nat := #[]) (fds : Array FieldInfo := #[]) : ClassFile where
  minorVersion := 0
  majorVersion := 65
  constantPool := pool
  accessFlags := fl
  thisClass := this
  superClass := sup
  interfaces := ifs
  fields := fds
  methods := ms
  attributes := attrs
def plain (name : String) (sup : Option ClassId) : Class where
  name := name
  kind := .ordinary
  loader := none
  accessFlags := 33
  super := sup
  interfaces := #[]
  cf := none
  fields := #[]
  methods := #[]
  instanceTypes := #[]
  staticTypes := #[]
  resolved := #[]
  callSites := []
  init := .initialized
  statics := none
  mirror := none

def pool0 : Array CpInfo := pool [(5, u "<init>"), (0, u "()V"), (1, .class_ 10), (1, u "java/lang/Object")] 113

def k0c0 : Code := { maxStack := 0, maxLocals := 1, code := object_method_1_code, exceptionTable := #[], attributes := #[] }
def k0m0 : Method := { name := "<init>", desc := "()V", sig := { parameters := [], returnType := none }, accessFlags := 1, code := some k0c0 }
/-- java/lang/Object -/
def k0 : Class := { plain "java/lang/Object" none with
  accessFlags := 33
  interfaces := #[]
  cf := some (fileOf pool0 8 #[] #[{ accessFlags := 1, nameIndex := 5, descriptorIndex := 6, attributes := #[] }] 33 0 #[] #[])
  fields := #[]
  methods := #[k0m0]
  instanceTypes := #[]
  staticTypes := #[]
  resolved := Array.replicate 124 none
  statics := none }

def pool1 : Array CpInfo := pool [(2, .class_ 4), (1, u "java/lang/Object"), (0, u "<init>"), (0, u "()V"), (0, .class_ 8), (0, u "com/example/sidetrack/sidetrack/codec/RedirectionInformation"), (0, .methodref 7 10), (0, .nameAndType 5 11), (0, u "(IIII)V"), (0, .methodref 7 13), (0, .nameAndType 14 15), (0, u "encode"), (0, u "()[B"), (0, .class_ 17), (0, u "com/example/sidetrack/sidetrack/codec/RedirectionInformationEncodePinLaw"), (2, u "law"), (0, u "(IIII)Z")] 5

def k1m0 : Method := { name := "<init>", desc := "()V", sig := { parameters := [], returnType := none }, accessFlags := 2, code := none }
def k1c1 : Code := { maxStack := 6, maxLocals := 12, code := code, exceptionTable := #[], attributes := #[] }
def k1m1 : Method := { name := "law", desc := "(IIII)Z", sig := { parameters := [.int, .int, .int, .int], returnType := some .boolean }, accessFlags := 9, code := some k1c1 }
/-- com/example/sidetrack/sidetrack/codec/RedirectionInformationEncodePinLaw -/
def k1 : Class := { plain "com/example/sidetrack/sidetrack/codec/RedirectionInformationEncodePinLaw" (some 0) with
  accessFlags := 49
  interfaces := #[]
  cf := some (fileOf pool1 16 #[] #[{ accessFlags := 2, nameIndex := 5, descriptorIndex := 6, attributes := #[] }, { accessFlags := 9, nameIndex := 20, descriptorIndex := 21, attributes := #[] }] 49 2 #[] #[])
  fields := #[]
  methods := #[k1m0, k1m1]
  instanceTypes := #[]
  staticTypes := #[]
  resolved := Array.replicate 27 none
  statics := none }

def pool2 : Array CpInfo := pool [(1, .methodref 2 3), (0, .class_ 4), (0, .nameAndType 5 6), (0, u "java/lang/Object"), (0, u "<init>"), (0, u "()V"), (0, .class_ 8), (0, u "java/lang/Record")] 13

def k2c0 : Code := { maxStack := 1, maxLocals := 1, code := jdk_30_method_1_code, exceptionTable := #[], attributes := #[] }
def k2m0 : Method := { name := "<init>", desc := "()V", sig := { parameters := [], returnType := none }, accessFlags := 4, code := some k2c0 }
/-- java/lang/Record -/
def k2 : Class := { plain "java/lang/Record" (some 0) with
  accessFlags := 1057
  interfaces := #[]
  cf := some (fileOf pool2 7 #[] #[{ accessFlags := 4, nameIndex := 5, descriptorIndex := 6, attributes := #[] }] 1057 2 #[] #[])
  fields := #[]
  methods := #[k2m0]
  instanceTypes := #[]
  staticTypes := #[]
  resolved := Array.replicate 22 none
  statics := none }

def pool3 : Array CpInfo := pool [(1, .methodref 2 3), (0, .class_ 4), (0, .nameAndType 5 6), (0, u "java/lang/Record"), (0, u "<init>"), (0, u "()V"), (0, .class_ 8), (0, u "com/example/sidetrack/sidetrack/codec/RedirectionInformation"), (0, .string 10), (0, u "redirecting indicator"), (0, .methodref 12 13), (0, .class_ 14), (0, .nameAndType 15 16), (0, u "com/example/sidetrack/sidetrack/codec/IsupIndicators"), (0, u "checked"), (0, u "(IILjava/lang/String;)I"), (0, .string 18), (0, u "original redirection reason"), (0, .string 20), (0, u "redirection counter"), (0, .string 22), (0, u "redirecting reason"), (0, .fieldref 7 24), (0, .nameAndType 25 26), (0, u "redirectingIndicator"), (0, u "I"), (0, .fieldref 7 28), (0, .nameAndType 29 26), (0, u "originalRedirectionReason"), (0, .fieldref 7 31), (0, .nameAndType 32 26), (0, u "redirectionCounter"), (0, .fieldref 7 34), (0, .nameAndType 35 26), (0, u "redirectingReason"), (11, u "(IIII)V"), (12, u "CALL_DIVERTED"), (2, u "CALL_DIVERTED_ALL_RESTRICTED"), (1, u "UNKNOWN"), (1, u "USER_BUSY"), (1, u "NO_REPLY"), (1, u "UNCONDITIONAL"), (0, u "THREE_BITS"), (1, u "FOUR_BITS"), (1, u "HIGH_SHIFT"), (0, u "OCTETS"), (7, u "encode"), (0, u "()[B")] 34

def k3c0 : Code := { maxStack := 3, maxLocals := 5, code := prog_45_method_1_code, exceptionTable := #[], attributes := #[] }
def k3m0 : Method := { name := "<init>", desc := "(IIII)V", sig := { parameters := [.int, .int, .int, .int], returnType := none }, accessFlags := 1, code := some k3c0 }
def k3c1 : Code := { maxStack := 5, maxLocals := 1, code := prog_45_method_3_code, exceptionTable := #[], attributes := #[] }
def k3m1 : Method := { name := "encode", desc := "()[B", sig := { parameters := [], returnType := some (.array .byte) }, accessFlags := 1, code := some k3c1 }
/-- com/example/sidetrack/sidetrack/codec/RedirectionInformation -/
def k3 : Class := { plain "com/example/sidetrack/sidetrack/codec/RedirectionInformation" (some 2) with
  accessFlags := 49
  interfaces := #[]
  cf := some (fileOf pool3 7 #[] #[{ accessFlags := 1, nameIndex := 5, descriptorIndex := 47, attributes := #[] }, { accessFlags := 1, nameIndex := 85, descriptorIndex := 86, attributes := #[] }] 49 2 #[] #[{ accessFlags := 18, nameIndex := 25, descriptorIndex := 26, attributes := #[] }, { accessFlags := 18, nameIndex := 29, descriptorIndex := 26, attributes := #[] }, { accessFlags := 18, nameIndex := 32, descriptorIndex := 26, attributes := #[] }, { accessFlags := 18, nameIndex := 35, descriptorIndex := 26, attributes := #[] }, { accessFlags := 25, nameIndex := 60, descriptorIndex := 26, attributes := #[] }, { accessFlags := 25, nameIndex := 63, descriptorIndex := 26, attributes := #[] }, { accessFlags := 25, nameIndex := 65, descriptorIndex := 26, attributes := #[] }, { accessFlags := 25, nameIndex := 67, descriptorIndex := 26, attributes := #[] }, { accessFlags := 25, nameIndex := 69, descriptorIndex := 26, attributes := #[] }, { accessFlags := 25, nameIndex := 71, descriptorIndex := 26, attributes := #[] }, { accessFlags := 26, nameIndex := 72, descriptorIndex := 26, attributes := #[] }, { accessFlags := 26, nameIndex := 74, descriptorIndex := 26, attributes := #[] }, { accessFlags := 26, nameIndex := 76, descriptorIndex := 26, attributes := #[] }, { accessFlags := 26, nameIndex := 77, descriptorIndex := 26, attributes := #[] }])
  fields := #[{ name := "redirectingIndicator", type := .int, accessFlags := 18, slot := 0, constantValue := 0 }, { name := "originalRedirectionReason", type := .int, accessFlags := 18, slot := 1, constantValue := 0 }, { name := "redirectionCounter", type := .int, accessFlags := 18, slot := 2, constantValue := 0 }, { name := "redirectingReason", type := .int, accessFlags := 18, slot := 3, constantValue := 0 }, { name := "CALL_DIVERTED", type := .int, accessFlags := 25, slot := 0, constantValue := 0 }, { name := "CALL_DIVERTED_ALL_RESTRICTED", type := .int, accessFlags := 25, slot := 1, constantValue := 0 }, { name := "UNKNOWN", type := .int, accessFlags := 25, slot := 2, constantValue := 0 }, { name := "USER_BUSY", type := .int, accessFlags := 25, slot := 3, constantValue := 0 }, { name := "NO_REPLY", type := .int, accessFlags := 25, slot := 4, constantValue := 0 }, { name := "UNCONDITIONAL", type := .int, accessFlags := 25, slot := 5, constantValue := 0 }, { name := "THREE_BITS", type := .int, accessFlags := 26, slot := 6, constantValue := 0 }, { name := "FOUR_BITS", type := .int, accessFlags := 26, slot := 7, constantValue := 0 }, { name := "HIGH_SHIFT", type := .int, accessFlags := 26, slot := 8, constantValue := 0 }, { name := "OCTETS", type := .int, accessFlags := 26, slot := 9, constantValue := 0 }]
  methods := #[k3m0, k3m1]
  instanceTypes := #[.int, .int, .int, .int]
  staticTypes := #[.int, .int, .int, .int, .int, .int, .int, .int, .int, .int]
  resolved := Array.replicate 121 none
  statics := none }

def pool4 : Array CpInfo := pool [(1, .class_ 2), (0, u "java/io/Serializable"), (0, .class_ 4), (0, u "java/lang/Object")] 2

/-- java/io/Serializable -/
def k4 : Class := { plain "java/io/Serializable" (some 0) with
  accessFlags := 1537
  interfaces := #[]
  cf := some (fileOf pool4 1 #[] #[] 1537 3 #[] #[])
  fields := #[]
  methods := #[]
  instanceTypes := #[]
  staticTypes := #[]
  resolved := Array.replicate 7 none
  statics := none }

def pool5 : Array CpInfo := pool [(1, .class_ 2), (0, u "java/lang/Comparable"), (0, .class_ 4), (0, u "java/lang/Object")] 7

/-- java/lang/Comparable -/
def k5 : Class := { plain "java/lang/Comparable" (some 0) with
  accessFlags := 1537
  interfaces := #[]
  cf := some (fileOf pool5 1 #[] #[] 1537 3 #[] #[])
  fields := #[]
  methods := #[]
  instanceTypes := #[]
  staticTypes := #[]
  resolved := Array.replicate 12 none
  statics := none }

def pool6 : Array CpInfo := pool [(2, .class_ 4), (1, u "java/lang/CharSequence"), (42, .class_ 48), (0, u "java/lang/CharSequence$1CodePointIterator"), (10, .class_ 60), (0, u "java/lang/CharSequence$1CharIterator"), (5, .class_ 67), (0, u "java/lang/Object")] 63

/-- java/lang/CharSequence -/
def k6 : Class := { plain "java/lang/CharSequence" (some 0) with
  accessFlags := 1537
  interfaces := #[]
  cf := some (fileOf pool6 2 #[.nestMembers #[47, 59]] #[] 1537 66 #[] #[])
  fields := #[]
  methods := #[]
  instanceTypes := #[]
  staticTypes := #[]
  resolved := Array.replicate 131 none
  statics := none }

def pool7 : Array CpInfo := pool [(1, .class_ 2), (0, u "java/lang/constant/Constable"), (0, .class_ 4), (0, u "java/lang/Object")] 6

/-- java/lang/constant/Constable -/
def k7 : Class := { plain "java/lang/constant/Constable" (some 0) with
  accessFlags := 1537
  interfaces := #[]
  cf := some (fileOf pool7 1 #[] #[] 1537 3 #[] #[])
  fields := #[]
  methods := #[]
  instanceTypes := #[]
  staticTypes := #[]
  resolved := Array.replicate 11 none
  statics := none }

def pool8 : Array CpInfo := pool [(1, .class_ 2), (0, u "java/lang/constant/ConstantDesc"), (0, .class_ 4), (0, u "java/lang/Object")] 32

/-- java/lang/constant/ConstantDesc -/
def k8 : Class := { plain "java/lang/constant/ConstantDesc" (some 0) with
  accessFlags := 1537
  interfaces := #[]
  cf := some (fileOf pool8 1 #[] #[] 1537 3 #[] #[])
  fields := #[]
  methods := #[]
  instanceTypes := #[]
  staticTypes := #[]
  resolved := Array.replicate 37 none
  statics := none }

def pool9 : Array CpInfo := pool [(2, .class_ 4), (1, u "java/lang/Object"), (0, u "<init>"), (0, u "()V"), (3, .class_ 12), (1, u "java/lang/String"), (0, u "value"), (0, u "[B"), (2, u "coder"), (0, u "B"), (2, u "hash"), (0, u "I"), (2, u "hashIsZero"), (0, u "Z"), (13, u "COMPACT_STRINGS"), (534, .class_ 576), (0, u "java/lang/CharSequence"), (22, u "CASE_INSENSITIVE_ORDER"), (0, u "Ljava/util/Comparator;"), (500, u "serialPersistentFields"), (0, u "[Ljava/io/ObjectStreamField;"), (0, .class_ 1104), (0, u "java/lang/String$CaseInsensitiveComparator"), (1, .class_ 1107), (0, u "java/io/Serializable"), (0, .class_ 1109), (0, u "java/lang/Comparable"), (0, .class_ 1111), (0, u "java/lang/constant/Constable"), (0, .class_ 1113), (0, u "java/lang/constant/ConstantDesc"), (2, u "serialVersionUID"), (0, u "J"), (3, u "REPL"), (0, u "C"), (2, u "LATIN1"), (1, u "UTF16")] 323

def k9m0 : Method := { name := "<init>", desc := "()V", sig := { parameters := [], returnType := none }, accessFlags := 1, code := none }
/-- java/lang/String -/
def k9 : Class := { plain "java/lang/String" (some 0) with
  accessFlags := 49
  interfaces := #[4, 5, 6, 7, 8]
  cf := some (fileOf pool9 10 #[.nestMembers #[1103]] #[{ accessFlags := 1, nameIndex := 5, descriptorIndex := 6, attributes := #[] }] 49 2 #[1106, 1108, 575, 1110, 1112] #[{ accessFlags := 18, nameIndex := 13, descriptorIndex := 14, attributes := #[] }, { accessFlags := 18, nameIndex := 17, descriptorIndex := 18, attributes := #[] }, { accessFlags := 2, nameIndex := 21, descriptorIndex := 22, attributes := #[] }, { accessFlags := 2, nameIndex := 25, descriptorIndex := 26, attributes := #[] }, { accessFlags := 26, nameIndex := 1116, descriptorIndex := 1117, attributes := #[] }, { accessFlags := 24, nameIndex := 40, descriptorIndex := 26, attributes := #[] }, { accessFlags := 26, nameIndex := 1101, descriptorIndex := 1102, attributes := #[] }, { accessFlags := 26, nameIndex := 1121, descriptorIndex := 1122, attributes := #[] }, { accessFlags := 25, nameIndex := 599, descriptorIndex := 600, attributes := #[] }, { accessFlags := 24, nameIndex := 1125, descriptorIndex := 18, attributes := #[] }, { accessFlags := 24, nameIndex := 1127, descriptorIndex := 18, attributes := #[] }])
  fields := #[{ name := "value", type := (.array .byte), accessFlags := 18, slot := 0, constantValue := 0 }, { name := "coder", type := .byte, accessFlags := 18, slot := 1, constantValue := 0 }, { name := "hash", type := .int, accessFlags := 2, slot := 2, constantValue := 0 }, { name := "hashIsZero", type := .boolean, accessFlags := 2, slot := 3, constantValue := 0 }, { name := "serialVersionUID", type := .long, accessFlags := 26, slot := 0, constantValue := 0 }, { name := "COMPACT_STRINGS", type := .boolean, accessFlags := 24, slot := 1, constantValue := 0 }, { name := "serialPersistentFields", type := (.array (.object "java/io/ObjectStreamField")), accessFlags := 26, slot := 2, constantValue := 0 }, { name := "REPL", type := .char, accessFlags := 26, slot := 3, constantValue := 0 }, { name := "CASE_INSENSITIVE_ORDER", type := (.object "java/util/Comparator"), accessFlags := 25, slot := 4, constantValue := 0 }, { name := "LATIN1", type := .byte, accessFlags := 24, slot := 5, constantValue := 0 }, { name := "UTF16", type := .byte, accessFlags := 24, slot := 6, constantValue := 0 }]
  methods := #[k9m0]
  instanceTypes := #[(.array .byte), .byte, .int, .boolean]
  staticTypes := #[.long, .boolean, (.array (.object "java/io/ObjectStreamField")), .char, (.object "java/util/Comparator"), .byte, .byte]
  resolved := Array.replicate 1451 none
  statics := none }

def pool10 : Array CpInfo := pool [(1, .class_ 2), (0, u "com/example/sidetrack/sidetrack/codec/IsupIndicators"), (1, .class_ 6), (1, u "java/lang/Object"), (0, u "<init>"), (0, u "()V"), (4, u "checked"), (0, u "(IILjava/lang/String;)I"), (8, u "BASIC_SERVICES"), (0, u "Ljava/util/Map;"), (73, u "PREFERRED_ALL_THE_WAY"), (0, u "I"), (2, u "NOT_REQUIRED_ALL_THE_WAY"), (1, u "ORDINARY_CALLING_SUBSCRIBER"), (1, u "NO_INDICATION"), (0, u "SUBSCRIBER_FREE"), (0, u "ALERTING"), (0, u "PROGRESS"), (1, u "PRESENTATION_NOT_ALLOWED"), (0, u "PRESENTATION_WITH_REDIRECTION_NUMBER"), (0, u "PRESENTATION_WITHOUT_REDIRECTION_NUMBER"), (1, u "CALL_IS_DIVERTING"), (1, u "PUBLIC_NETWORK_SERVING_LOCAL_USER"), (0, u "USER_BUSY"), (1, u "NO_ANSWER_FROM_USER"), (1, u "CALL_REJECTED"), (1, u "NORMAL_UNSPECIFIED"), (3, u "PREFERENCE_SHIFT"), (1, u "PREFERENCE_BITS"), (1, u "ISUP_USED_ALL_THE_WAY"), (1, u "ORIGINATING_ISDN_ACCESS"), (0, u "STATUS_SHIFT"), (0, u "STATUS_BITS"), (1, u "ISUP_ALL_THE_WAY"), (1, u "ISDN_ACCESS"), (1, u "DIVERSION_MAY_OCCUR"), (0, u "EVENT_BITS"), (1, u "REASON_SHIFT"), (0, u "PRESENTATION_RESTRICTED"), (0, u "LAST_OCTET"), (1, u "LOCATION_BITS"), (1, u "CAUSE_VALUE_BITS")] 49

def k10m0 : Method := { name := "<init>", desc := "()V", sig := { parameters := [], returnType := none }, accessFlags := 2, code := none }
def k10c1 : Code := { maxStack := 5, maxLocals := 3, code := prog_25_method_19_code, exceptionTable := #[], attributes := #[] }
def k10m1 : Method := { name := "checked", desc := "(IILjava/lang/String;)I", sig := { parameters := [.int, .int, (.object "java/lang/String")], returnType := some .int }, accessFlags := 8, code := some k10c1 }
/-- com/example/sidetrack/sidetrack/codec/IsupIndicators -/
def k10 : Class := { plain "com/example/sidetrack/sidetrack/codec/IsupIndicators" (some 0) with
  accessFlags := 49
  interfaces := #[]
  cf := some (fileOf pool10 1 #[] #[{ accessFlags := 2, nameIndex := 7, descriptorIndex := 8, attributes := #[] }, { accessFlags := 8, nameIndex := 13, descriptorIndex := 14, attributes := #[] }] 49 4 #[] #[{ accessFlags := 25, nameIndex := 98, descriptorIndex := 99, attributes := #[] }, { accessFlags := 25, nameIndex := 102, descriptorIndex := 99, attributes := #[] }, { accessFlags := 25, nameIndex := 104, descriptorIndex := 99, attributes := #[] }, { accessFlags := 25, nameIndex := 106, descriptorIndex := 99, attributes := #[] }, { accessFlags := 25, nameIndex := 107, descriptorIndex := 99, attributes := #[] }, { accessFlags := 25, nameIndex := 108, descriptorIndex := 99, attributes := #[] }, { accessFlags := 25, nameIndex := 109, descriptorIndex := 99, attributes := #[] }, { accessFlags := 25, nameIndex := 111, descriptorIndex := 99, attributes := #[] }, { accessFlags := 25, nameIndex := 112, descriptorIndex := 99, attributes := #[] }, { accessFlags := 25, nameIndex := 113, descriptorIndex := 99, attributes := #[] }, { accessFlags := 25, nameIndex := 115, descriptorIndex := 99, attributes := #[] }, { accessFlags := 25, nameIndex := 117, descriptorIndex := 99, attributes := #[] }, { accessFlags := 25, nameIndex := 118, descriptorIndex := 99, attributes := #[] }, { accessFlags := 25, nameIndex := 120, descriptorIndex := 99, attributes := #[] }, { accessFlags := 25, nameIndex := 122, descriptorIndex := 99, attributes := #[] }, { accessFlags := 25, nameIndex := 124, descriptorIndex := 99, attributes := #[] }, { accessFlags := 26, nameIndex := 23, descriptorIndex := 24, attributes := #[] }, { accessFlags := 26, nameIndex := 128, descriptorIndex := 99, attributes := #[] }, { accessFlags := 26, nameIndex := 130, descriptorIndex := 99, attributes := #[] }, { accessFlags := 26, nameIndex := 132, descriptorIndex := 99, attributes := #[] }, { accessFlags := 26, nameIndex := 134, descriptorIndex := 99, attributes := #[] }, { accessFlags := 26, nameIndex := 135, descriptorIndex := 99, attributes := #[] }, { accessFlags := 26, nameIndex := 136, descriptorIndex := 99, attributes := #[] }, { accessFlags := 26, nameIndex := 138, descriptorIndex := 99, attributes := #[] }, { accessFlags := 26, nameIndex := 140, descriptorIndex := 99, attributes := #[] }, { accessFlags := 26, nameIndex := 142, descriptorIndex := 99, attributes := #[] }, { accessFlags := 26, nameIndex := 143, descriptorIndex := 99, attributes := #[] }, { accessFlags := 26, nameIndex := 145, descriptorIndex := 99, attributes := #[] }, { accessFlags := 26, nameIndex := 146, descriptorIndex := 99, attributes := #[] }, { accessFlags := 26, nameIndex := 147, descriptorIndex := 99, attributes := #[] }, { accessFlags := 26, nameIndex := 149, descriptorIndex := 99, attributes := #[] }, { accessFlags := 26, nameIndex := 151, descriptorIndex := 99, attributes := #[] }])
  fields := #[{ name := "PREFERRED_ALL_THE_WAY", type := .int, accessFlags := 25, slot := 0, constantValue := 0 }, { name := "NOT_REQUIRED_ALL_THE_WAY", type := .int, accessFlags := 25, slot := 1, constantValue := 0 }, { name := "ORDINARY_CALLING_SUBSCRIBER", type := .int, accessFlags := 25, slot := 2, constantValue := 0 }, { name := "NO_INDICATION", type := .int, accessFlags := 25, slot := 3, constantValue := 0 }, { name := "SUBSCRIBER_FREE", type := .int, accessFlags := 25, slot := 4, constantValue := 0 }, { name := "ALERTING", type := .int, accessFlags := 25, slot := 5, constantValue := 0 }, { name := "PROGRESS", type := .int, accessFlags := 25, slot := 6, constantValue := 0 }, { name := "PRESENTATION_NOT_ALLOWED", type := .int, accessFlags := 25, slot := 7, constantValue := 0 }, { name := "PRESENTATION_WITH_REDIRECTION_NUMBER", type := .int, accessFlags := 25, slot := 8, constantValue := 0 }, { name := "PRESENTATION_WITHOUT_REDIRECTION_NUMBER", type := .int, accessFlags := 25, slot := 9, constantValue := 0 }, { name := "CALL_IS_DIVERTING", type := .int, accessFlags := 25, slot := 10, constantValue := 0 }, { name := "PUBLIC_NETWORK_SERVING_LOCAL_USER", type := .int, accessFlags := 25, slot := 11, constantValue := 0 }, { name := "USER_BUSY", type := .int, accessFlags := 25, slot := 12, constantValue := 0 }, { name := "NO_ANSWER_FROM_USER", type := .int, accessFlags := 25, slot := 13, constantValue := 0 }, { name := "CALL_REJECTED", type := .int, accessFlags := 25, slot := 14, constantValue := 0 }, { name := "NORMAL_UNSPECIFIED", type := .int, accessFlags := 25, slot := 15, constantValue := 0 }, { name := "BASIC_SERVICES", type := (.object "java/util/Map"), accessFlags := 26, slot := 16, constantValue := 0 }, { name := "PREFERENCE_SHIFT", type := .int, accessFlags := 26, slot := 17, constantValue := 0 }, { name := "PREFERENCE_BITS", type := .int, accessFlags := 26, slot := 18, constantValue := 0 }, { name := "ISUP_USED_ALL_THE_WAY", type := .int, accessFlags := 26, slot := 19, constantValue := 0 }, { name := "ORIGINATING_ISDN_ACCESS", type := .int, accessFlags := 26, slot := 20, constantValue := 0 }, { name := "STATUS_SHIFT", type := .int, accessFlags := 26, slot := 21, constantValue := 0 }, { name := "STATUS_BITS", type := .int, accessFlags := 26, slot := 22, constantValue := 0 }, { name := "ISUP_ALL_THE_WAY", type := .int, accessFlags := 26, slot := 23, constantValue := 0 }, { name := "ISDN_ACCESS", type := .int, accessFlags := 26, slot := 24, constantValue := 0 }, { name := "DIVERSION_MAY_OCCUR", type := .int, accessFlags := 26, slot := 25, constantValue := 0 }, { name := "EVENT_BITS", type := .int, accessFlags := 26, slot := 26, constantValue := 0 }, { name := "REASON_SHIFT", type := .int, accessFlags := 26, slot := 27, constantValue := 0 }, { name := "PRESENTATION_RESTRICTED", type := .int, accessFlags := 26, slot := 28, constantValue := 0 }, { name := "LAST_OCTET", type := .int, accessFlags := 26, slot := 29, constantValue := 0 }, { name := "LOCATION_BITS", type := .int, accessFlags := 26, slot := 30, constantValue := 0 }, { name := "CAUSE_VALUE_BITS", type := .int, accessFlags := 26, slot := 31, constantValue := 0 }]
  methods := #[k10m0, k10m1]
  instanceTypes := #[]
  staticTypes := #[.int, .int, .int, .int, .int, .int, .int, .int, .int, .int, .int, .int, .int, .int, .int, .int, (.object "java/util/Map"), .int, .int, .int, .int, .int, .int, .int, .int, .int, .int, .int, .int, .int, .int, .int]
  resolved := Array.replicate 201 none
  statics := none }

def pool11 : Array CpInfo := pool [(1, u "java/lang/Cloneable"), (0, .class_ 1), (0, u "java/lang/Object"), (0, .class_ 3)] 3

/-- java/lang/Cloneable -/
def k11 : Class := { plain "java/lang/Cloneable" (some 0) with
  accessFlags := 1537
  interfaces := #[]
  cf := some (fileOf pool11 2 #[] #[] 1537 4 #[] #[])
  fields := #[]
  methods := #[]
  instanceTypes := #[]
  staticTypes := #[]
  resolved := Array.replicate 8 none
  statics := none }

/-- the primitive byte -/
def k12 : Class := { plain "byte" none with kind := .primitive 'B', accessFlags := 0x411 }
/-- [B -/
def k13 : Class := { plain "[B" (some 0) with kind := .array 12 .byte, interfaces := #[11, 4], accessFlags := 1041 }

/-- the primitive int -/
def k14 : Class := { plain "int" none with kind := .primitive 'I', accessFlags := 0x411 }
/-- [I -/
def k15 : Class := { plain "[I" (some 0) with kind := .array 14 .int, interfaces := #[11, 4], accessFlags := 1041 }

def heap : Heap := #[]
def classes : Array Class := #[k0, k1, k2, k3, k4, k5, k6, k7, k8, k9, k10, k11, k12, k13, k14, k15]
def interned : List (Array UInt16 × Addr) := []
def slotsUsed : Nat := 0
def theMethod : MethodId := ⟨1, 1⟩
def args0 : Array Value := #[.int 5, .int 6, .int 7, .int 8]
def aboutOver (below : List Frame) : State where
  vm := { classes := classes, interned := interned.toArray }
  heap := heap
  slotsUsed := slotsUsed
  threads := #[{ frames := .invoking theMethod args0 :: below }]
def below0 : List Frame := [.native { method := ⟨0, 0⟩, args := #[] }]
def about1 : State := aboutOver below0
def p0 : Program := .bare "" "" ""
def e0 : Env := launch0.env 0 0 0
theorem w_frames : about1.frames = Frame.invoking theMethod args0 :: below0 := rfl
set_option maxRecDepth 65536 in
theorem w_args : argsFit about1.vm theMethod args0 = true := by decide +kernel
set_option maxRecDepth 65536 in
theorem w_heap : heapFits about1 = true := by decide +kernel
set_option maxRecDepth 65536 in
theorem w_runnable : about1.curStatus? = some .runnable := by decide +kernel
set_option maxRecDepth 65536 in
theorem w_alone : about1.alone = true := by decide +kernel
set_option maxRecDepth 65536 in
theorem w_named : about1.methodNamed? x = some theMethod := by decide +kernel
set_option maxRecDepth 65536 in
theorem w_hears : about1.hears theMethod below0 = true := by decide +kernel
set_option maxRecDepth 65536 in
theorem w_ripe : about1.ripe theMethod args0 below0 = true := by decide +kernel
theorem w_running : about1.status = .running := rfl
set_option maxRecDepth 65536 in
theorem w_room : about1.hasRoom e0.platform room_1 = true :=
  launch0.hasRoom_least _ room_1 (by decide +kernel) (by decide +kernel) (by decide +kernel) (by decide +kernel) (by decide +kernel) (by decide +kernel)
theorem allAtoms_all (ts : List Jvm.Cond) (a : Array Jvm.Value) (st : Jvm.State) : (allAtoms ts).before a st = ts.all (fun c => c.before a st) := by
  induction ts with
  | nil => rfl
  | cons c t ih =>
    show (Jvm.Cond.and c (allAtoms t)).before a st = _
    rw [Jvm.Cond.before_and, ih, List.all_cons]
def words1 : List Jvm.Cond := Jvm.Cond.code x code maxLocals ret :: tables_1
/-- a 'code' word, met by the world's own term for the bytes: nothing is compared byte by byte -/
theorem code_word {y : MethodName} {bytes : ByteArray} {mx : Nat} {rt : Option FieldType} {a : Array Value} {s : State} {m : MethodId} {meth : Method} {c : Code} (h1 : s.methodNamed? y = some m) (h2 : s.vm.method? m = some meth) (h3 : meth.code = some c) (h4 : c.code = bytes)
    (h5 : (c.maxLocals == mx && c.exceptionTable.isEmpty && decide (c.maxStack ≤ mostOperands) && decide (meth.sig.returnType = rt) && !meth.locks && decide (parseMethodDescriptor y.desc = some meth.sig)) = true) : (Jvm.Cond.code y bytes mx rt).before a s = true := by
  simp only [Bool.and_eq_true, beq_iff_eq, Bool.not_eq_true', decide_eq_true_eq] at h5
  obtain ⟨⟨⟨⟨⟨g1, g2⟩, g3⟩, g4⟩, g5⟩, g6⟩ := h5
  simp [Cond.before, Cond.holds, Cond.value, h1, h2, h3, h4, g1, g2, g3, g4, g5, g6]
def isCode : Jvm.Cond → Bool
  | .code _ _ _ _ => true
  | _ => false
theorem all_split {L : List Jvm.Cond} {P : Jvm.Cond → Bool} (h1 : L.all (fun c => isCode c || P c) = true) (h2 : ∀ c ∈ L.filter isCode, P c = true) : L.all P = true := by
  refine List.all_eq_true.mpr fun c hc => ?_
  have h := List.all_eq_true.mp h1 c hc
  rcases Bool.eq_false_or_eq_true (isCode c) with hi | hi
  · exact h2 c (List.mem_filter.mpr ⟨hc, hi⟩)
  · simpa [hi] using h
set_option maxRecDepth 65536 in
theorem w_c0 : (Jvm.Cond.code x code maxLocals ret).before args0 about1 = true := code_word (m := ⟨1, 1⟩) (meth := k1m1) (c := k1c1) (by decide +kernel) rfl rfl rfl (by decide +kernel)
set_option maxRecDepth 65536 in
theorem w_c1 : (Jvm.Cond.code ({ cls := "com/example/sidetrack/sidetrack/codec/RedirectionInformation", name := "<init>", desc := "(IIII)V" } : Jvm.MethodName) prog_45_method_1_code (5 : Nat) (Option.none : Option Jvm.ClassFile.FieldType)).before args0 about1 = true := code_word (m := ⟨3, 0⟩) (meth := k3m0) (c := k3c0) (by decide +kernel) rfl rfl rfl (by decide +kernel)
set_option maxRecDepth 65536 in
theorem w_c2 : (Jvm.Cond.code ({ cls := "java/lang/Record", name := "<init>", desc := "()V" } : Jvm.MethodName) jdk_30_method_1_code (1 : Nat) (Option.none : Option Jvm.ClassFile.FieldType)).before args0 about1 = true := code_word (m := ⟨2, 0⟩) (meth := k2m0) (c := k2c0) (by decide +kernel) rfl rfl rfl (by decide +kernel)
set_option maxRecDepth 65536 in
theorem w_c3 : (Jvm.Cond.code ({ cls := "java/lang/Object", name := "<init>", desc := "()V" } : Jvm.MethodName) object_method_1_code (1 : Nat) (Option.none : Option Jvm.ClassFile.FieldType)).before args0 about1 = true := code_word (m := ⟨0, 0⟩) (meth := k0m0) (c := k0c0) (by decide +kernel) rfl rfl rfl (by decide +kernel)
set_option maxRecDepth 65536 in
theorem w_c4 : (Jvm.Cond.code ({ cls := "com/example/sidetrack/sidetrack/codec/IsupIndicators", name := "checked", desc := "(IILjava/lang/String;)I" } : Jvm.MethodName) prog_25_method_19_code (3 : Nat) (Option.some Jvm.ClassFile.FieldType.int)).before args0 about1 = true := code_word (m := ⟨10, 1⟩) (meth := k10m1) (c := k10c1) (by decide +kernel) rfl rfl rfl (by decide +kernel)
set_option maxRecDepth 65536 in
theorem w_c5 : (Jvm.Cond.code ({ cls := "com/example/sidetrack/sidetrack/codec/RedirectionInformation", name := "encode", desc := "()[B" } : Jvm.MethodName) prog_45_method_3_code (1 : Nat) (Option.some (Jvm.ClassFile.FieldType.array Jvm.ClassFile.FieldType.byte))).before args0 about1 = true := code_word (m := ⟨3, 1⟩) (meth := k3m1) (c := k3c1) (by decide +kernel) rfl rfl rfl (by decide +kernel)
def codes1 : List Jvm.Cond := [Jvm.Cond.code x code maxLocals ret, Jvm.Cond.code ({ cls := "com/example/sidetrack/sidetrack/codec/RedirectionInformation", name := "<init>", desc := "(IIII)V" } : Jvm.MethodName) prog_45_method_1_code (5 : Nat) (Option.none : Option Jvm.ClassFile.FieldType), Jvm.Cond.code ({ cls := "java/lang/Record", name := "<init>", desc := "()V" } : Jvm.MethodName) jdk_30_method_1_code (1 : Nat) (Option.none : Option Jvm.ClassFile.FieldType), Jvm.Cond.code ({ cls := "java/lang/Object", name := "<init>", desc := "()V" } : Jvm.MethodName) object_method_1_code (1 : Nat) (Option.none : Option Jvm.ClassFile.FieldType), Jvm.Cond.code ({ cls := "com/example/sidetrack/sidetrack/codec/IsupIndicators", name := "checked", desc := "(IILjava/lang/String;)I" } : Jvm.MethodName) prog_25_method_19_code (3 : Nat) (Option.some Jvm.ClassFile.FieldType.int), Jvm.Cond.code ({ cls := "com/example/sidetrack/sidetrack/codec/RedirectionInformation", name := "encode", desc := "()[B" } : Jvm.MethodName) prog_45_method_3_code (1 : Nat) (Option.some (Jvm.ClassFile.FieldType.array Jvm.ClassFile.FieldType.byte))]
set_option maxRecDepth 65536 in
theorem codes_eq : words1.filter isCode = codes1 := rfl
theorem w_codes : ∀ c ∈ words1.filter isCode, c.before args0 about1 = true := by
  rw [codes_eq]
  intro c hc
  simp only [codes1, List.mem_cons, List.not_mem_nil, or_false] at hc
  rcases hc with rfl | rfl | rfl | rfl | rfl | rfl
  · exact w_c0
  · exact w_c1
  · exact w_c2
  · exact w_c3
  · exact w_c4
  · exact w_c5
set_option maxRecDepth 65536 in
theorem w_t1 : (words1.take 24).all (fun c => isCode c || c.before args0 about1) = true := by decide +kernel
set_option maxRecDepth 65536 in
theorem w_t2 : (words1.drop 24).all (fun c => isCode c || c.before args0 about1) = true := by decide +kernel
theorem w_tables : (allAtoms (Jvm.Cond.code x code maxLocals ret :: tables_1)).before args0 about1 = true := by
  rw [allAtoms_all]
  show words1.all (fun c => c.before args0 about1) = true
  refine all_split ?_ w_codes
  rw [← List.take_append_drop 24 words1, List.all_append, w_t1, w_t2]
  rfl
set_option maxRecDepth 65536 in
theorem w_case : (Jvm.Cond.and given_1 narrow_1).before args0 about1 = true := by decide +kernel
theorem w_applies : (headSpec (Jvm.Cond.code x code maxLocals ret :: tables_1) room_1).applies x e0.platform about1 = true :=
  (Spec.applies_iff w_frames).mpr ⟨w_running, w_runnable, w_alone, w_named, w_hears, w_ripe, w_room, w_tables⟩
theorem atStart : AtStart classFile x code maxLocals ret World_1 tables_1 room_1 Calls_1 rest_1 Pre_1 launch0 p0 e0 about1 theMethod args0 below0 :=
  ⟨lists_1, trivial, launch0.admits_env _ _ _, launch0.least_env, fairChoices_fair.cas, fairChoices_fair.clock, w_frames, w_args, w_heap, w_applies, trivial, trivial, w_case⟩
end start1
theorem witness_1 : WitnessClaimed_1 := ⟨start1.p0, start1.e0, start1.about1, start1.theMethod, start1.args0, start1.below0, start1.atStart⟩
end Jvm.Pilot.@@N@@
