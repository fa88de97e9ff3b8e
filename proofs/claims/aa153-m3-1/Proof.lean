import JvmDerived
import JvmDerived.Pilot.@@N@@Statement
import JvmDerived.Pilot.@@N@@Code
set_option linter.unusedVariables false
set_option linter.unusedSimpArgs false
namespace Jvm.Own
open Jvm Jvm.ClassFile Sem Op Lib Jvm.Free Jvm.Stand Jvm.LawKit Jvm.RoadKit
/-! ## A heap told by a list: each new object or array by its address and what its cell is -/
abbrev Des : Type := State → Cell → Prop
abbrev RL : Type := List (Addr × Des)
/-- an object of class C, its fields (name, descriptor, value), all declared in C -/
def Obj (C : String) (fs : List (String × String × Value)) : Des := fun Z c =>
  Exa Z (#[c] : Heap) 0 C ∧ (∀ (j : Nat) (x : String × String × Value), fs[j]? = some x → Fld Z (#[c] : Heap) 0 C x.1 x.2.1 x.2.2) ∧
  ∀ (i j : Nat) (x y : String × String × Value), i ≠ j → fs[i]? = some x → fs[j]? = some y → Jvm.RoadKit.slotOf Z C x.1 x.2.1 ≠ Jvm.RoadKit.slotOf Z C y.1 y.2.1
/-- an array of ty, all its values -/
def Ar (ty : FieldType) (vs : List Value) : Des := fun Z c => Z.isArrayOf c ty ∧ c.vm ≠ .unknown ∧ c.slots.toList = vs ∧ (∀ v ∈ vs, fits ty v = true) ∧ Exa Z (#[c] : Heap) 0 ("[" ++ ty.toString)
/-- every one of L lies in h, at or behind n0, no two at one place -/
def Bd (n0 : Nat × Nat) (k : Nat) : Prop := n0.1 ≤ k ∧ n0.2 ≤ k
theorem Bd.mono {n0 : Nat × Nat} {k j : Nat} (h : Bd n0 k) (q : k ≤ j) : Bd n0 j := ⟨Nat.le_trans h.1 q, Nat.le_trans h.2 q⟩
def Rep (Z : State) (n0 : Nat × Nat) (h : Heap) (L : RL) : Prop := Bd n0 h.size ∧ (L.map (·.1)).Nodup ∧ ∀ x ∈ L, n0.1 ≤ x.1 ∧ ∃ c : Cell, h[x.1]? = some c ∧ x.2 Z c
section Facts
variable {Z : State} {n0 : Nat × Nat} {h h' : Heap} {L : RL} {a : Addr} {c : Cell} {C n d : String} {v w : Value} {i j : Nat} {fs : List (String × String × Value)} {P P' : Des} {ty : FieldType} {vs : List Value}
theorem one_eq {c c' : Cell} (q : (#[c] : Heap)[0]? = some c') : c' = c := by simpa using q.symm
theorem fld_of (hc : h[a]? = some c) (F : Fld Z (#[c] : Heap) 0 C n d v) : Fld Z h a C n d v := by
  obtain ⟨cell, cf, k, i, f, h1, r⟩ := F
  cases one_eq h1
  exact ⟨_, cf, k, i, f, hc, r⟩
theorem fld_to (hc : h[a]? = some c) (F : Fld Z h a C n d v) : Fld Z (#[c] : Heap) 0 C n d v := by
  obtain ⟨cell, cf, k, i, f, h1, r⟩ := F
  cases hc.symm.trans h1
  exact ⟨_, cf, k, i, f, rfl, r⟩
theorem exa_of (hc : h[a]? = some c) (F : Exa Z (#[c] : Heap) 0 C) : Exa Z h a C := by
  obtain ⟨cell, k, h1, r⟩ := F
  cases one_eq h1
  exact ⟨_, k, hc, r⟩
theorem exa_to (hc : h[a]? = some c) (F : Exa Z h a C) : Exa Z (#[c] : Heap) 0 C := by
  obtain ⟨cell, k, h1, r⟩ := F
  cases hc.symm.trans h1
  exact ⟨_, k, rfl, r⟩
theorem Rep.nil (h : Heap) : Rep Z (h.size, h.size) h [] := ⟨⟨Nat.le_refl _, Nat.le_refl _⟩, List.nodup_nil, fun _ q => nomatch q⟩
theorem Rep.at (R : Rep Z n0 h L) (hi : L[i]? = some (a, P)) : n0.1 ≤ a ∧ ∃ c : Cell, h[a]? = some c ∧ P Z c := R.2.2 _ (List.mem_of_getElem? hi)
theorem Rep.ge (R : Rep Z n0 h L) (hi : L[i]? = some (a, P)) : n0.1 ≤ a := (R.at hi).1
theorem Rep.fld (R : Rep Z n0 h L) (hi : L[i]? = some (a, Obj C fs)) (hj : fs[j]? = some (n, d, v)) : Fld Z h a C n d v := by
  obtain ⟨-, c, hc, -, F, -⟩ := R.at hi
  exact fld_of hc (F j _ hj)
theorem Rep.exa (R : Rep Z n0 h L) (hi : L[i]? = some (a, Obj C fs)) : Exa Z h a C := by
  obtain ⟨-, c, hc, E, -⟩ := R.at hi
  exact exa_of hc E
theorem Rep.arr (R : Rep Z n0 h L) (hi : L[i]? = some (a, Ar ty vs)) : ∃ cl : Cell, Arr Z h a cl ty ∧ cl.slots.toList = vs := by
  obtain ⟨-, c, hc, A, B, V, -⟩ := R.at hi
  exact ⟨c, ⟨hc, A, B⟩, V⟩
theorem Rep.arr' (R : Rep Z n0 h L) (hi : L[i]? = some (a, Ar ty vs)) : ∃ cl : Cell, Arr Z h a cl ty ∧ cl.slots.toList = vs ∧ (∀ v ∈ vs, fits ty v = true) ∧ Exa Z h a ("[" ++ ty.toString) := by
  obtain ⟨-, c, hc, A, B, V, F, E⟩ := R.at hi
  exact ⟨c, ⟨hc, A, B⟩, V, F, exa_of hc E⟩
theorem wr_one {sl : Nat} (hc : h[a]? = some c) (W : Wr h h' a sl v) : Wr (#[c] : Heap) (#[c.setSlot sl v] : Heap) 0 sl v := by
  obtain ⟨cell, h1, h2, h3, -⟩ := W
  cases hc.symm.trans h1
  exact ⟨_, rfl, h2, h3, rfl⟩
theorem Rep.upd {sl : Nat} (R : Rep Z n0 h L) (hi : L[i]? = some (a, P)) (W : Wr h h' a sl v) (hP : ∀ c : Cell, h[a]? = some c → P Z c → P' Z (c.setSlot sl v)) : Rep Z n0 h' (L.set i (a, P')) := by
  have em : (L.set i (a, P')).map (·.1) = L.map (·.1) := by
    rw [List.map_set]
    apply List.ext_getElem?
    intro k
    rw [List.getElem?_set]
    split
    · rename_i e; subst e
      split
      · simp [hi]
      · rename_i e; simp only [List.length_map] at e; simp [List.getElem?_eq_none (Nat.le_of_not_lt e)]
    · rfl
  have il : i < L.length := (List.getElem?_eq_some_iff.mp hi).1
  refine ⟨by rw [W.size]; exact R.1, by rw [em]; exact R.2.1, fun x hx => ?_⟩
  obtain ⟨k, hk⟩ := List.mem_iff_getElem?.mp hx
  rw [List.getElem?_set] at hk
  split at hk
  · rename_i e; subst e
    cases hk
    obtain ⟨g, c, hc, p⟩ := R.at hi
    obtain ⟨c', e1, -, -, -, -, -, e7⟩ := wr_at W hc
    exact ⟨g, c', e1, by rw [(e7 rfl).1]; exact hP c hc p⟩
  · rename_i e
    obtain ⟨g, c, hc, p⟩ := R.2.2 x (List.mem_of_getElem? hk)
    have ne : x.1 ≠ a := fun q => by
      refine e ((List.getElem?_inj (l := L.map (·.1)) (by simpa using il) R.2.1).mp ?_)
      simp [hi, hk, q]
    obtain ⟨c', e1, -, -, -, e5, -⟩ := wr_at W hc
    exact ⟨g, c', e1, by rw [e5 ne]; exact p⟩
theorem Rep.put (R : Rep Z n0 h L) (hi : L[i]? = some (a, Obj C fs)) (hj : fs[j]? = some (n, d, w)) (W : Wr h h' a (Jvm.RoadKit.slotOf Z C n d) v) : Rep Z n0 h' (L.set i (a, Obj C (fs.set j (n, d, v)))) := by
  refine R.upd hi W fun c hc ⟨E, F, S⟩ => ?_
  have W1 := wr_one hc W
  have jl : j < fs.length := (List.getElem?_eq_some_iff.mp hj).1
  have key : ∀ (k : Nat) (x : String × String × Value), (fs.set j (n, d, v))[k]? = some x → ∃ y, fs[k]? = some y ∧ y.1 = x.1 ∧ y.2.1 = x.2.1 ∧ (k ≠ j → y = x) ∧ (k = j → x = (n, d, v)) := by
    intro k x hk
    rw [List.getElem?_set] at hk
    split at hk
    · rename_i e; subst e
      have hx := (Option.some.inj hk).symm
      exact ⟨(n, d, w), hj, by rw [hx], by rw [hx], fun q => absurd rfl q, fun _ => hx⟩
    · rename_i e
      exact ⟨x, hk, rfl, rfl, fun _ => rfl, fun q => absurd q.symm e⟩
  refine ⟨E.wr W1, fun k x hk => ?_, fun k k' x y ne hk hk' => ?_⟩
  · obtain ⟨y, y1, y2, y3, y4, y5⟩ := key k x hk
    by_cases e : k = j
    · subst e
      have hx := y5 rfl
      rw [hx]
      exact (F _ _ hj).same W1
    · have hx := y4 e
      subst hx
      have s : Jvm.RoadKit.slotOf Z C y.1 y.2.1 ≠ Jvm.RoadKit.slotOf Z C n d := S k j y (n, d, w) e y1 hj
      exact Fld.other W1 (F k y y1) (Or.inr s)
  · have kx := key k x hk
    have ky := key k' y hk'
    obtain ⟨x', x1, x2, x3, _⟩ := kx
    obtain ⟨y', y1, y2, y3, _⟩ := ky
    have := S k k' x' y' ne x1 y1
    rw [x2, x3, y2, y3] at this
    exact this
theorem Rep.sto {k : Nat} (R : Rep Z n0 h L) (hi : L[i]? = some (a, Ar ty vs)) (W : Wr h h' a k v) (hf : fits ty v = true) : Rep Z n0 h' (L.set i (a, Ar ty (vs.set k v))) := by
  refine R.upd hi W fun c hc ⟨A, B, V, F, E⟩ => ⟨A, B, ?_, fun x hx => ?_, E.wr (wr_one hc W)⟩
  · show (c.slots.setIfInBounds k v).toList = _
    rw [Array.toList_setIfInBounds, V]
  · rcases List.mem_or_eq_of_mem_set hx with q | q
    · exact F x q
    · rw [q]; exact hf
theorem Rep.add (R : Rep Z n0 h L) (E : Ext h h') (g : a = h.size) (hc : h'[a]? = some c) (p : P Z c) : Rep Z n0 h' ((a, P) :: L) := by
  refine ⟨Bd.mono R.1 E.1, ?_, fun x hx => ?_⟩
  · rw [List.map_cons, List.nodup_cons]
    refine ⟨fun q => ?_, R.2.1⟩
    obtain ⟨x, hx, e⟩ := List.mem_map.mp q
    obtain ⟨-, c, hc, -⟩ := R.2.2 x hx
    have := (Array.getElem?_eq_some_iff.mp hc).1
    exact absurd (e.trans g) (Nat.ne_of_lt this)
  · rcases List.mem_cons.mp hx with rfl | hx
    · exact ⟨g ▸ R.1.1, c, hc, p⟩
    · obtain ⟨q, c, hc, p⟩ := R.2.2 x hx
      exact ⟨q, c, E.2 _ _ hc, p⟩
theorem Rep.ext (R : Rep Z n0 h L) (E : Ext h h') : Rep Z n0 h' L := ⟨Bd.mono R.1 E.1, R.2.1, fun x hx => by
  obtain ⟨q, c, hc, p⟩ := R.2.2 x hx
  exact ⟨q, c, E.2 _ _ hc, p⟩⟩
theorem perm_front {α : Type} : ∀ (L : List α) (i : Nat) (x : α), L[i]? = some x → (x :: L.eraseIdx i).Perm L
  | [], _, _, q => nomatch q
  | y :: t, 0, x, q => by cases q; exact List.Perm.refl _
  | y :: t, i + 1, x, q => by
    have ih := perm_front t i x (by simpa using q)
    exact (List.Perm.swap y x (t.eraseIdx i)).trans (ih.cons y)
theorem Rep.front {x : Addr × Des} {L' : RL} (R : Rep Z n0 h L) (i : Nat) (hi : L[i]? = some x) (e : L.eraseIdx i = L') : Rep Z n0 h (x :: L') := by
  subst e
  have pm : (x :: L.eraseIdx i).Perm L := perm_front L i x hi
  exact ⟨R.1, (pm.map _).nodup_iff.mpr R.2.1, fun y hy => R.2.2 y (pm.mem_iff.mp hy)⟩
theorem Rep.tail {x : Addr × Des} (R : Rep Z n0 h (x :: L)) : Rep Z n0 h L := ⟨R.1, (List.nodup_cons.mp (by simpa using R.2.1)).2, fun y hy => R.2.2 y (List.mem_cons_of_mem _ hy)⟩
/-- what the sheet says of the fields of a new object, one by one -/
def LaidAll (Z : State) (a0 : Array Value) (C : String) : List (String × String × Value) → Prop
  | [] => True
  | x :: r => (Laid Z a0 C C x.1 x.2.1 ∧ ∃ ty, parseFieldDescriptor x.2.1 = some ty ∧ x.2.2 = defaultValue ty) ∧ LaidAll Z a0 C r
theorem LaidAll.mem {a0 : Array Value} : ∀ {fs : List (String × String × Value)}, LaidAll Z a0 C fs → ∀ x ∈ fs, Laid Z a0 C C x.1 x.2.1 ∧ ∃ ty, parseFieldDescriptor x.2.1 = some ty ∧ x.2.2 = defaultValue ty
  | [], _, _, hx => nomatch hx
  | y :: r, q, x, hx => (List.mem_cons.mp hx).elim (fun e => e ▸ q.1) (LaidAll.mem q.2 x)
theorem Rep.newO {a0 : Array Value} (R : Rep Z n0 h L) (E : Ext h h') (g : a = h.size) (A : Exa Z h' a C) (D : ∀ {O nm d : String} {ty : FieldType}, Laid Z a0 C O nm d → parseFieldDescriptor d = some ty → Fld Z h' a O nm d (defaultValue ty)) (hl : LaidAll Z a0 C fs) (hn : (fs.map (·.1)).Nodup) : Rep Z n0 h' ((a, Obj C fs) :: L) := by
  obtain ⟨c, k, hc, r⟩ := id A
  refine R.add E g hc ⟨exa_to hc A, fun j x hx => ?_, fun i j x y ne hx hy e => ?_⟩
  · obtain ⟨l, ty, p, q⟩ := hl.mem x (List.mem_of_getElem? hx)
    rw [q]; exact fld_to hc (D l p)
  · obtain ⟨l, ty, p, q⟩ := hl.mem x (List.mem_of_getElem? hx)
    obtain ⟨l', ty', p', q'⟩ := hl.mem y (List.mem_of_getElem? hy)
    refine slot_ne l l' (fun en => ne ?_) p p' e
    refine (List.getElem?_inj (l := fs.map (·.1)) (by simpa using (List.getElem?_eq_some_iff.mp hx).1) hn).mp ?_
    simp [hx, hy, en]
theorem Rep.newAr {z : Int32} {k : ClassId} (R : Rep Z n0 h L) (E : Ext h h') (g : a = h.size) (A : Arr Z h' a (newA k ty z) ty) (X : Exa Z h' a ("[" ++ ty.toString)) (hf : fits ty (defaultValue ty) = true) (hv : List.replicate z.toNatClampNeg (defaultValue ty) = vs) : Rep Z n0 h' ((a, Ar ty vs) :: L) := by
  refine R.add E g A.1 ⟨A.2.1, A.2.2, ?_, fun v hq => ?_, exa_to A.1 X⟩
  · rw [← hv]; simp [newA]
  · rw [← hv] at hq; rw [List.eq_of_mem_replicate hq]; exact hf
theorem in_of {cl : Cell} {q : Int32} (V : cl.slots.toList = vs) (hq : ¬ q < 0) (hv : q.toNatClampNeg < vs.length) : ¬ (q < 0 ∨ cl.slots.size ≤ q.toNatClampNeg) := by
  rintro (q1 | q1)
  · exact hq q1
  · rw [← V, Array.length_toList] at hv; omega
theorem at_of {cl : Cell} {k : Nat} (V : cl.slots.toList = vs) (hv : vs[k]? = some v) : cl.slots[k]? = some v := by
  rw [← hv, ← V, Array.getElem?_toList]
theorem lt_of {k : Nat} (hv : vs[k]? = some v) : k < vs.length := (List.getElem?_eq_some_iff.mp hv).1
end Facts
/-! ## One law a step -/
section Steps
variable {p : Program} {l : Launch} {e : Env} {R : Room} {s : State} {m : MethodId} {args : Array Value} {below : List Frame} {meth : Method} {c : Code} {T : State} {locs : List Loc} {cells slots : Nat} {Z : State} {a0 : Array Value} {h : Heap} {n0 : Nat × Nat} {L : RL}
theorem gGet (X : Stand p l e R s m args below meth c T locs cells slots) (hx : p.tables.exec = Jvm.exec) (hZ : Z.Warmed39 s.vm) {own C n d host : String} {index : Nat} (hown : s.vm.findClass own = some m.cls) (w : (Cond.fieldLink own index C n d).before a0 Z = true ∨ (Cond.fieldLinkNest own index C n d host).before a0 Z = true)
    (eT : T.heap = h) (Q : Rep Z n0 h L) (i j : Nat) {a : Addr} {fs : List (String × String × Value)} {v : Value} (hi : L[i]? = some (a, Obj C fs)) (hj : fs[j]? = some (n, d, v)) {g : JFrame} (hg : g.method = m) {rest : List Value} (hs : g.stack = .ref a :: rest) (hd : decode c.code g.pc = .ok (.getfield index, 3)) :
    ∃ T', Stand p l e R s m args below meth c T' locs cells slots ∧ T'.heap = h ∧ ∀ target, Steps p.tables e below (T'.setTop { g with pc := g.pc + 3, stack := v :: rest }) target → Steps p.tables e below (T.setTop g) target :=
  getF X hx hZ hown w Via.refl eT (Q.fld hi hj) hg hs hd
theorem gPut (X : Stand p l e R s m args below meth c T locs cells slots) (hx : p.tables.exec = Jvm.exec) (hZ : Z.Warmed39 s.vm) {own C n d host : String} {index kk : Nat} {ty : FieldType} (hown : s.vm.findClass own = some m.cls) (w : (Cond.fieldLink own index C n d).before a0 Z = true ∨ (Cond.fieldLinkNest own index C n d host).before a0 Z = true)
    (eT : T.heap = h) (N : Fr n0.1 locs) (Q : Rep Z n0 h L) (i j : Nat) {a : Addr} {fs : List (String × String × Value)} {v old : Value} (hi : L[i]? = some (a, Obj C fs)) (hj : fs[j]? = some (n, d, old))
    (Lw : (Cond.lays C C n d).before a0 Z = true ∨ ((Cond.laysFinal C C n d).before a0 Z = true ∧ own = C ∧ meth.name = "<init>")) (wi : (Cond.instantiable C kk).before a0 Z = true)
    (hty : parseFieldDescriptor d = some ty) (hn : narrow ty v = v) (hf : fits ty v = true) {g : JFrame} (hg : g.method = m) {rest : List Value} (hs : g.stack = v :: .ref a :: rest) (hd : decode c.code g.pc = .ok (.putfield index, 3)) :
    ∃ T' h' locs', Stand p l e R s m args below meth c T' locs' cells slots ∧ T'.heap = h' ∧ Fr n0.1 locs' ∧ Rep Z n0 h' (L.set i (a, Obj C (fs.set j (n, d, v)))) ∧ ∀ target, Steps p.tables e below (T'.setTop { g with pc := g.pc + 3, stack := rest }) target → Steps p.tables e below (T.setTop g) target := by
  obtain ⟨T', h', X', e', W, st⟩ := putF X hx hZ hown w Via.refl eT (Q.fld hi hj) (Q.exa hi) Lw wi hty hn hf hg hs hd
  exact ⟨T', h', _, X', e', Fr.snoc X' N (Q.ge hi), Q.put hi hj W, st⟩
theorem gNew (X : Stand p l e R s m args below meth c T locs cells slots) (hx : p.tables.exec = Jvm.exec) (hZ : Z.Warmed39 s.vm) {own C : String} {index n : Nat} (hown : s.vm.findClass own = some m.cls) (w : (Cond.classLink own index C).before a0 Z = true) (wi : (Cond.instantiable C n).before a0 Z = true) (wz : (Cond.initialized C).before a0 Z = true)
    (eT : T.heap = h) (Q : Rep Z n0 h L) {fs : List (String × String × Value)} (hl : LaidAll Z a0 C fs) (hn : (fs.map (·.1)).Nodup) {g : JFrame} (hg : g.method = m) (hd : decode c.code g.pc = .ok (.new index, 3)) (hc : cells + 1 ≤ R.cells) (hs : slots + n ≤ R.slots) :
    ∃ T' h' a, Stand p l e R s m args below meth c T' locs (cells + 1) (slots + n) ∧ T'.heap = h' ∧ Rep Z n0 h' ((a, Obj C fs) :: L) ∧ ∀ target, Steps p.tables e below (T'.setTop { g with pc := g.pc + 3, stack := .ref a :: g.stack }) target → Steps p.tables e below (T.setTop g) target := by
  obtain ⟨T', h', X', e', E, A, D, -, st⟩ := newO X hx hZ hown w wi wz eT hg hd hc hs
  exact ⟨T', h', _, X', e', Q.newO E rfl A D hl hn, st⟩
theorem gNewP (X : Stand p l e R s m args below meth c T locs cells slots) (hx : p.tables.exec = Jvm.exec) (hZ : Z.Warmed39 s.vm) {aty : ArrayType} (w : (Cond.arrayClass (newarray.typeOf aty)).before a0 Z = true)
    (eT : T.heap = h) (Q : Rep Z n0 h L) {g : JFrame} (hg : g.method = m) (hd : decode c.code g.pc = .ok (.newarray aty, 2)) {n : Int32} {rest : List Value} (hs : g.stack = .int n :: rest) (hn : ¬ n < 0) (cap : Nat) (hcap : n.toNatClampNeg ≤ cap) (hb : cap * 8 ≤ 536870912) (hc : cells + 1 ≤ R.cells) (hl : slots + cap ≤ R.slots)
    {vs : List Value} (hv : List.replicate n.toNatClampNeg (defaultValue (newarray.typeOf aty)) = vs) :
    ∃ T' h' a, Stand p l e R s m args below meth c T' locs (cells + 1) (slots + cap) ∧ T'.heap = h' ∧ Rep Z n0 h' ((a, Ar (newarray.typeOf aty) vs) :: L) ∧ ∀ target, Steps p.tables e below (T'.setTop { g with pc := g.pc + 2, stack := .ref a :: rest }) target → Steps p.tables e below (T.setTop g) target := by
  obtain ⟨T', h', cA, X', e', E, A, EX, st⟩ := newPE X hx hZ w eT hg hd hs hn hcap hb hc hl rfl
  exact ⟨T', h', _, X', e', Q.newAr E rfl A EX (by cases aty <;> rfl) hv, st⟩
theorem gLen (X : Stand p l e R s m args below meth c T locs cells slots) (hx : p.tables.exec = Jvm.exec) (hZ : Z.Warmed39 s.vm) (eT : T.heap = h) (Q : Rep Z n0 h L) (i : Nat) {a : Addr} {ty : FieldType} {vs : List Value} (hi : L[i]? = some (a, Ar ty vs))
    {g : JFrame} (hg : g.method = m) {rest : List Value} (hs : g.stack = .ref a :: rest) (hd : decode c.code g.pc = .ok (.arraylength, 1)) {z : Int32} (hz : Int32.ofNat vs.length = z) :
    ∀ target, Steps p.tables e below (T.setTop { g with pc := g.pc + 1, stack := .int z :: rest }) target → Steps p.tables e below (T.setTop g) target := by
  obtain ⟨cl, A, V⟩ := Q.arr hi
  intro target k
  refine X.arraylength hx (cell := cl) (by rw [eT]; exact A.1) (State.isArrayOf_alike hZ.alike A.2.1) hg hs hd _ ?_
  have q : cl.slots.size.toInt32 = z := by rw [← hz, ← V, Array.length_toList]
  rw [q]; exact k
theorem gIald (X : Stand p l e R s m args below meth c T locs cells slots) (hx : p.tables.exec = Jvm.exec) (hZ : Z.Warmed39 s.vm) (eT : T.heap = h) (Q : Rep Z n0 h L) (i : Nat) {a : Addr} {vs : List Value} (hi : L[i]? = some (a, Ar .int vs))
    {j : Int32} {v : Value} (hj : ¬ j < 0) (hv : vs[j.toNatClampNeg]? = some v) {g : JFrame} (hg : g.method = m) {rest : List Value} (hs : g.stack = .int j :: .ref a :: rest) (hd : decode c.code g.pc = .ok (.iaload, 1)) :
    ∀ target, Steps p.tables e below (T.setTop { g with pc := g.pc + 1, stack := v :: rest }) target → Steps p.tables e below (T.setTop g) target := by
  obtain ⟨cl, A, V⟩ := Q.arr hi
  intro target k
  exact X.iaload hx (by rw [eT]; exact A.1) (State.isArrayOf_alike hZ.alike A.2.1) A.2.2 (in_of V hj (lt_of hv)) (at_of V hv) hg hs hd _ k
theorem gLald (X : Stand p l e R s m args below meth c T locs cells slots) (hx : p.tables.exec = Jvm.exec) (hZ : Z.Warmed39 s.vm) (eT : T.heap = h) (Q : Rep Z n0 h L) (i : Nat) {a : Addr} {vs : List Value} (hi : L[i]? = some (a, Ar .long vs))
    {j : Int32} {v : Value} (hj : ¬ j < 0) (hv : vs[j.toNatClampNeg]? = some v) {g : JFrame} (hg : g.method = m) {rest : List Value} (hs : g.stack = .int j :: .ref a :: rest) (hd : decode c.code g.pc = .ok (.laload, 1)) :
    ∀ target, Steps p.tables e below (T.setTop { g with pc := g.pc + 1, stack := v :: rest }) target → Steps p.tables e below (T.setTop g) target := by
  obtain ⟨cl, A, V⟩ := Q.arr hi
  intro target k
  exact X.laload hx (by rw [eT]; exact A.1) (State.isArrayOf_alike hZ.alike A.2.1) A.2.2 (in_of V hj (lt_of hv)) (at_of V hv) hg hs hd _ k
theorem gBald (X : Stand p l e R s m args below meth c T locs cells slots) (hx : p.tables.exec = Jvm.exec) (hZ : Z.Warmed39 s.vm) (eT : T.heap = h) (Q : Rep Z n0 h L) (i : Nat) {a : Addr} {vs : List Value} (hi : L[i]? = some (a, Ar .byte vs))
    {j : Int32} {v : Value} (hj : ¬ j < 0) (hv : vs[j.toNatClampNeg]? = some v) {g : JFrame} (hg : g.method = m) {rest : List Value} (hs : g.stack = .int j :: .ref a :: rest) (hd : decode c.code g.pc = .ok (.baload, 1)) :
    ∀ target, Steps p.tables e below (T.setTop { g with pc := g.pc + 1, stack := v :: rest }) target → Steps p.tables e below (T.setTop g) target := by
  obtain ⟨cl, A, V⟩ := Q.arr hi
  intro target k
  exact X.baloadBytes hx (by rw [eT]; exact A.1) (State.isArrayOf_alike hZ.alike A.2.1) A.2.2 (in_of V hj (lt_of hv)) (at_of V hv) hg hs hd _ k
theorem gIst (X : Stand p l e R s m args below meth c T locs cells slots) (hx : p.tables.exec = Jvm.exec) (hZ : Z.Warmed39 s.vm) (eT : T.heap = h) (N : Fr n0.1 locs) (Q : Rep Z n0 h L) (i : Nat) {a : Addr} {vs : List Value} (hi : L[i]? = some (a, Ar .int vs))
    {j x : Int32} (hj : ¬ j < 0) (k : Nat) (hk : j.toNatClampNeg = k) (hv : k < vs.length) {g : JFrame} (hg : g.method = m) {rest : List Value} (hs : g.stack = .int x :: .int j :: .ref a :: rest) (hd : decode c.code g.pc = .ok (.iastore, 1)) :
    ∃ T' h' locs', Stand p l e R s m args below meth c T' locs' cells slots ∧ T'.heap = h' ∧ Fr n0.1 locs' ∧ Rep Z n0 h' (L.set i (a, Ar .int (vs.set k (.int x)))) ∧ ∀ target, Steps p.tables e below (T'.setTop { g with pc := g.pc + 1, stack := rest }) target → Steps p.tables e below (T.setTop g) target := by
  obtain ⟨cl, A, V⟩ := Q.arr hi
  subst hk
  obtain ⟨T', h', X', e', W, st⟩ := stI X hx hZ eT A (j := j) (x := x) (in_of V hj hv) hg hs hd
  exact ⟨T', h', _, X', e', Fr.snoc X' N (Q.ge hi), Q.sto hi W rfl, st⟩
theorem gLst (X : Stand p l e R s m args below meth c T locs cells slots) (hx : p.tables.exec = Jvm.exec) (hZ : Z.Warmed39 s.vm) (eT : T.heap = h) (N : Fr n0.1 locs) (Q : Rep Z n0 h L) (i : Nat) {a : Addr} {vs : List Value} (hi : L[i]? = some (a, Ar .long vs))
    {j : Int32} {x : Int64} (hj : ¬ j < 0) (k : Nat) (hk : j.toNatClampNeg = k) (hv : k < vs.length) {g : JFrame} (hg : g.method = m) {rest : List Value} (hs : g.stack = .long x :: .int j :: .ref a :: rest) (hd : decode c.code g.pc = .ok (.lastore, 1)) :
    ∃ T' h' locs', Stand p l e R s m args below meth c T' locs' cells slots ∧ T'.heap = h' ∧ Fr n0.1 locs' ∧ Rep Z n0 h' (L.set i (a, Ar .long (vs.set k (.long x)))) ∧ ∀ target, Steps p.tables e below (T'.setTop { g with pc := g.pc + 1, stack := rest }) target → Steps p.tables e below (T.setTop g) target := by
  obtain ⟨cl, A, V⟩ := Q.arr hi
  subst hk
  obtain ⟨T', h', X', e', W, st⟩ := stJ X hx hZ eT A (j := j) (x := x) (in_of V hj hv) hg hs hd
  exact ⟨T', h', _, X', e', Fr.snoc X' N (Q.ge hi), Q.sto hi W rfl, st⟩
theorem gBst (X : Stand p l e R s m args below meth c T locs cells slots) (hx : p.tables.exec = Jvm.exec) (hZ : Z.Warmed39 s.vm) (eT : T.heap = h) (N : Fr n0.1 locs) (Q : Rep Z n0 h L) (i : Nat) {a : Addr} {vs : List Value} (hi : L[i]? = some (a, Ar .byte vs))
    {j x : Int32} (hj : ¬ j < 0) (k : Nat) (hk : j.toNatClampNeg = k) (hv : k < vs.length) {g : JFrame} (hg : g.method = m) {rest : List Value} (hs : g.stack = .int x :: .int j :: .ref a :: rest) (hd : decode c.code g.pc = .ok (.bastore, 1)) :
    ∃ T' h' locs', Stand p l e R s m args below meth c T' locs' cells slots ∧ T'.heap = h' ∧ Fr n0.1 locs' ∧ Rep Z n0 h' (L.set i (a, Ar .byte (vs.set k (.int x.toInt8.toInt32)))) ∧ ∀ target, Steps p.tables e below (T'.setTop { g with pc := g.pc + 1, stack := rest }) target → Steps p.tables e below (T.setTop g) target := by
  obtain ⟨cl, A, V⟩ := Q.arr hi
  subst hk
  obtain ⟨T', h', X', e', W, st⟩ := stB X hx hZ eT A (j := j) (x := x) (in_of V hj hv) hg hs hd
  exact ⟨T', h', _, X', e', Fr.snoc X' N (Q.ge hi), Q.sto hi W (fits_nar_byte x), st⟩
theorem gClone (X : Stand p l e R s m args below meth c T locs cells slots) (hx : p.tables.exec = Jvm.exec) (hZ : Z.Warmed39 s.vm) {own ad : String} {index : Nat} (hown : s.vm.findClass own = some m.cls)
    (w1 : (Cond.methodLink own index ⟨ad, "clone", "()Ljava/lang/Object;"⟩).before a0 Z = true) (w2 : (Cond.sameMethod ad "java/lang/Object" "clone" "()Ljava/lang/Object;").before a0 Z = true) (w3 : (Cond.native ⟨"java/lang/Object", "clone", "()Ljava/lang/Object;"⟩).before a0 Z = true)
    (w4 : (Cond.instanceMethod ⟨"java/lang/Object", "clone", "()Ljava/lang/Object;"⟩).before a0 Z = true) (w5 : (Cond.selects ad ⟨ad, "clone", "()Ljava/lang/Object;"⟩ ⟨"java/lang/Object", "clone", "()Ljava/lang/Object;"⟩).before a0 Z = true) (w6 : (Cond.castable ad "java/lang/Cloneable").before a0 Z = true)
    (eT : T.heap = h) (Q : Rep Z n0 h L) (i : Nat) {a : Addr} {ty : FieldType} {vs : List Value} (hi : L[i]? = some (a, Ar ty vs)) (had : "[" ++ ty.toString = ad) {g : JFrame} (hg : g.method = m) (hsize : g.locals.size = c.maxLocals) {rest : List Value} (hs : g.stack = .ref a :: rest) (hd : decode c.code g.pc = .ok (.invokevirtual index, 3))
    (hf : 1 ≤ R.frames) {W : Nat} (cap : Nat) (hW : 2 * g.monitorRoom + (rest.map fun v => v.category).sum ≤ W) (hl : W + 14 ≤ R.locals) (hcap : vs.length ≤ cap) (hc : cells + 1 ≤ R.cells) (hsl : slots + cap ≤ R.slots) :
    ∃ T' h' b, Stand p l e R s m args below meth c T' locs (cells + 1) (slots + cap) ∧ T'.heap = h' ∧ Rep Z n0 h' ((b, Ar ty vs) :: L) ∧ Exa Z h' b ad ∧
      ∀ target, Steps p.tables e below (T'.setTop { g with pc := g.pc + 3, stack := .ref b :: rest }) target → Steps p.tables e below (T.setTop g) target := by
  subst had
  obtain ⟨cl, A, V, F, E⟩ := Q.arr' hi
  have FC : FitC Z cl := fitC_of A fun k hk v hv => F v (by rw [← V]; exact Array.mem_toList_iff.mpr (Array.mem_of_getElem? hv))
  obtain ⟨T', h', X', e', ex, A', E', st⟩ := cloneA X hx hZ hown w1 w2 w3 w4 w5 w6 eT A E FC hg hsize hs hd hf hW hl (by rw [← V, Array.length_toList] at hcap; exact hcap) hc hsl
  exact ⟨T', h', _, X', e', Q.add ex rfl A'.1 ⟨A'.2.1, A'.2.2, V, F, exa_to A'.1 E'⟩, E', st⟩
theorem gCast (X : Stand p l e R s m args below meth c T locs cells slots) (hx : p.tables.exec = Jvm.exec) (hZ : Z.Warmed39 s.vm) {own K : String} {index : Nat} (hown : s.vm.findClass own = some m.cls) (w : (Cond.classLink own index K).before a0 Z = true) (eT : T.heap = h) {a : Addr} (E : Exa Z h a K)
    {g : JFrame} (hg : g.method = m) {rest : List Value} (hs : g.stack = .ref a :: rest) (hd : decode c.code g.pc = .ok (.checkcast index, 3)) : ∃ T', Stand p l e R s m args below meth c T' locs cells slots ∧ T'.heap = h ∧ ∀ target, Steps p.tables e below (T'.setTop { g with pc := g.pc + 3 }) target → Steps p.tables e below (T.setTop g) target :=
  castY X hx hZ hown w eT (Ins.self E) hg hs hd
theorem arv_of {a : Addr} {ty : FieldType} {vs : List Value} {dv : Value} {cl : Cell} (A : Arr Z h a cl ty) (V : cl.slots.toList = vs) (F : ∀ v ∈ vs, fits ty v = true) (hl : vs.length < 2 ^ 31) : Arv Z h a cl.cls ty (Int32.ofNat vs.length) vs dv := by
  have q : (Int32.ofNat vs.length).toNatClampNeg = vs.length := by
    rw [Int32.toNatClampNeg, Int32.toInt_ofNat_of_lt hl]; rfl
  have S : cl.slots.size = vs.length := by rw [← V, Array.length_toList]
  have G : ∀ k, k < cl.slots.size → cl.slots[k]? = some (vs.getD k dv) := fun k hk => by
    rw [← Array.getElem?_toList, V, List.getD_eq_getElem?_getD, List.getElem?_eq_getElem (by omega)]; rfl
  refine ⟨cl, A, rfl, by rw [q, S], ?_, G, fun k hk => ?_⟩
  · rw [Int32.lt_iff_toInt_lt, Int32.toInt_ofNat_of_lt hl, show (0 : Int32).toInt = 0 from rfl]; omega
  · rw [List.getD_eq_getElem?_getD, List.getElem?_eq_getElem (by omega)]
    exact F _ (List.getElem_mem _)
theorem Rep.kept {h' : Heap} {i : Nat} {b : Addr} {P P' : Des} {cb : Cell} (Q : Rep Z n0 h L) (hi : L[i]? = some (b, P)) (K : Keep h h' [b]) (hc : h'[b]? = some cb) (p : P' Z cb) : Rep Z n0 h' (L.set i (b, P')) := by
  have em : (L.set i (b, P')).map (·.1) = L.map (·.1) := by
    rw [List.map_set]
    apply List.ext_getElem?
    intro k
    rw [List.getElem?_set]
    split
    · rename_i e; subst e
      split
      · simp [hi]
      · rename_i e; simp only [List.length_map] at e; simp [List.getElem?_eq_none (Nat.le_of_not_lt e)]
    · rfl
  have il : i < L.length := (List.getElem?_eq_some_iff.mp hi).1
  refine ⟨Bd.mono Q.1 K.1, by rw [em]; exact Q.2.1, fun x hx => ?_⟩
  obtain ⟨k, hk⟩ := List.mem_iff_getElem?.mp hx
  rw [List.getElem?_set] at hk
  split at hk
  · rename_i e; subst e
    cases hk
    exact ⟨Q.ge hi, cb, hc, p⟩
  · rename_i e
    obtain ⟨g, c, hc', p'⟩ := Q.2.2 x (List.mem_of_getElem? hk)
    have ne : x.1 ≠ b := fun q => by
      refine e ((List.getElem?_inj (l := L.map (·.1)) (by simpa using il) Q.2.1).mp ?_)
      simp [hi, hk, q]
    exact ⟨g, c, K.2.1 _ _ hc' (by simpa using ne), p'⟩
theorem gCopy (X : Stand p l e R s m args below meth c T locs cells slots) (hx : p.tables.exec = Jvm.exec) (hZ : Z.Warmed39 s.vm) {own : String} {index : Nat} (hown : s.vm.findClass own = some m.cls)
    (w1 : (Cond.methodLink own index Jvm.Stand.acN).before a0 Z = true) (w2 : (Cond.native Jvm.Stand.acN).before a0 Z = true) (w3 : (Cond.static Jvm.Stand.acN).before a0 Z = true) (w4 : (Cond.initialized "java/lang/System").before a0 Z = true) (eT : T.heap = h) (N : Fr n0.1 locs) (Q : Rep Z n0 h L) (i j : Nat)
    {a b : Addr} {ty : FieldType} {vs vd : List Value} (hi : L[i]? = some (a, Ar ty vs)) (hj : L[j]? = some (b, Ar ty vd)) (hty : refKind ty = false) (l1 : vs.length < 2 ^ 31) (l2 : vd.length < 2 ^ 31) {sp dp nn : Int32} (h1 : ¬ sp < 0) (h2 : ¬ dp < 0) (h3 : ¬ nn < 0) (si di ni : Nat) (es : sp.toNatClampNeg = si) (ed : dp.toNatClampNeg = di) (en : nn.toNatClampNeg = ni)
    (h4 : si + ni ≤ vs.length) (h5 : di + ni ≤ vd.length)
    {g : JFrame} (hg : g.method = m) (hsize : g.locals.size = c.maxLocals) {rest : List Value} (hs : g.stack = .int nn :: .int dp :: .ref b :: .int sp :: .ref a :: rest) (hd : decode c.code g.pc = .ok (.invokestatic index, 3))
    (hf : 1 ≤ R.frames) {W : Nat} (hW : 2 * g.monitorRoom + (rest.map fun v => v.category).sum ≤ W) (hlo : W + (nativeFrameWords "java/lang/System" "arraycopy" 5 + 11) ≤ R.locals) :
    ∃ T' h' L', Stand p l e R s m args below meth c T' L' cells slots ∧ T'.heap = h' ∧ Fr n0.1 L' ∧ Rep Z n0 h' (L.set j (b, Ar ty (vd.take di ++ (vs.drop si).take ni ++ vd.drop (di + ni)))) ∧
      ∀ target, Steps p.tables e below (T'.setTop { g with pc := g.pc + 3, stack := rest }) target → Steps p.tables e below (T.setTop g) target := by
  subst es ed en
  obtain ⟨ca, A, Va, Fa, Ea⟩ := Q.arr' hi
  obtain ⟨cb, B, Vb, Fb, Eb⟩ := Q.arr' hj
  have za : (Int32.ofNat vs.length).toNatClampNeg = vs.length := by rw [Int32.toNatClampNeg, Int32.toInt_ofNat_of_lt l1]; rfl
  have zb : (Int32.ofNat vd.length).toNatClampNeg = vd.length := by rw [Int32.toNatClampNeg, Int32.toInt_ofNat_of_lt l2]; rfl
  have hus : (vs.drop sp.toNatClampNeg).take nn.toNatClampNeg = (List.range nn.toNatClampNeg).map fun k => vs.getD (sp.toNatClampNeg + k) .null := by
    apply List.ext_getElem?
    intro k
    rw [List.getElem?_take, List.getElem?_drop, List.getElem?_map]
    by_cases q : k < nn.toNatClampNeg
    · rw [if_pos q, List.getElem?_range q, List.getElem?_eq_getElem (by omega)]
      simp [List.getD_eq_getElem?_getD, List.getElem?_eq_getElem (show sp.toNatClampNeg + k < vs.length by omega)]
    · rw [if_neg q, List.getElem?_eq_none (by simpa using q)]; rfl
  obtain ⟨T', h', L', X', e', N', K, ⟨c', A', -, S', -, H', G'⟩, st⟩ := cpA X hx hZ hown w1 w2 w3 w4 eT (arv_of (dv := .null) A Va Fa l1) (arv_of (dv := .null) B Vb Fb l2) (Or.inl ⟨rfl, hty⟩) h1 h2 h3 (by rw [za]; exact h4) (by rw [zb]; exact h5) hus h5 N (Q.ge hj) hg hsize hs hd hf hW hlo
  refine ⟨T', h', L', X', e', N', Q.kept hj K A'.1 ⟨A'.2.1, A'.2.2, ?_, fun v hv => ?_, exa_to A'.1 (Eb.keep K)⟩, st⟩
  · apply List.ext_getElem?
    intro k
    rw [Array.getElem?_toList]
    by_cases q : k < c'.slots.size
    · rw [H' k q, List.getD_eq_getElem?_getD, List.getElem?_eq_getElem]
      · rfl
      · rw [S', zb] at q; simp only [List.length_append, List.length_take, List.length_drop]; omega
    · rw [Array.getElem?_eq_none (by omega), List.getElem?_eq_none]
      rw [S', zb] at q; simp only [List.length_append, List.length_take, List.length_drop]; omega
  · rcases List.mem_append.mp hv with hv | hv
    · rcases List.mem_append.mp hv with hv | hv
      · exact Fb v (List.mem_of_mem_take hv)
      · exact Fa v (List.mem_of_mem_drop (List.mem_of_mem_take hv))
    · exact Fb v (List.mem_of_mem_drop hv)
theorem gMono (X : Stand p l e R s m args below meth c T locs cells slots) {cells' slots' : Nat} (h1 : cells ≤ cells') (h2 : slots ≤ slots') : Stand p l e R s m args below meth c T locs cells' slots' := { X with same := X.same.mono h1 h2 }
theorem retI (X : Stand p l e R s m args below meth c T locs cells slots) (hx : p.tables.exec = Jvm.exec) {pc : Nat} {Ls : Array Slot} {z : Int32} {rest : List Value} (hret : meth.sig.returnType = some .int) (hd : decode c.code pc = .ok (.ireturn, 1)) {fs : List Frame}
    (hl : ∀ (f : JFrame) (acts : List Action), f.method = m → f.locked = none → f.entered = [] → (doReturn e (T.setTop f) acts (some (.int z))).1 = T.setFrames fs) : Steps p.tables e below (T.setTop (mkF m pc Ls (.int z :: rest))) (T.setFrames fs) := by
  have hm' : T.vm.method? m = some meth := X.method'
  have hn : narrow .int (.int z) = .int z := rfl
  show Steps p.tables e below (T.setTop { method := m, pc := pc, locals := Ls, stack := _ :: rest, locked := none }) _
  jvm_step X.here [X.here.top, hx, hd, hm', hret, hn]
  first | (intro acts; rw [hl _ acts rfl rfl rfl]) | rw [hl _ _ rfl rfl rfl]
  exact Steps.refl _
theorem retL (X : Stand p l e R s m args below meth c T locs cells slots) (hx : p.tables.exec = Jvm.exec) {pc : Nat} {Ls : Array Slot} {z : Int64} {rest : List Value} (hret : meth.sig.returnType = some .long) (hd : decode c.code pc = .ok (.lreturn, 1)) {fs : List Frame}
    (hl : ∀ (f : JFrame) (acts : List Action), f.method = m → f.locked = none → f.entered = [] → (doReturn e (T.setTop f) acts (some (.long z))).1 = T.setFrames fs) : Steps p.tables e below (T.setTop (mkF m pc Ls (.long z :: rest))) (T.setFrames fs) := by
  have hm' : T.vm.method? m = some meth := X.method'
  have hn : narrow .long (.long z) = .long z := rfl
  show Steps p.tables e below (T.setTop { method := m, pc := pc, locals := Ls, stack := _ :: rest, locked := none }) _
  jvm_step X.here [X.here.top, hx, hd, hm', hret, hn]
  first | (intro acts; rw [hl _ acts rfl rfl rfl]) | rw [hl _ _ rfl rfl rfl]
  exact Steps.refl _
theorem retA (X : Stand p l e R s m args below meth c T locs cells slots) (hx : p.tables.exec = Jvm.exec) {pc : Nat} {Ls : Array Slot} {a : Addr} {rest : List Value} {t : FieldType} (ht : t.isReference = true) (hret : meth.sig.returnType = some t) (hd : decode c.code pc = .ok (.areturn, 1)) {fs : List Frame}
    (hl : ∀ (f : JFrame) (acts : List Action), f.method = m → f.locked = none → f.entered = [] → (doReturn e (T.setTop f) acts (some (.ref a))).1 = T.setFrames fs) : Steps p.tables e below (T.setTop (mkF m pc Ls (.ref a :: rest))) (T.setFrames fs) := by
  have hm' : T.vm.method? m = some meth := X.method'
  show Steps p.tables e below (T.setTop { method := m, pc := pc, locals := Ls, stack := _ :: rest, locked := none }) _
  jvm_step X.here [X.here.top, hx, hd, hm', hret, ht, Value.isRef]
  first | (intro acts; rw [hl _ acts rfl rfl rfl]) | rw [hl _ _ rfl rfl rfl]
  exact Steps.refl _
end Steps
abbrev iushr (x y : Int32) : Int32 := (x.toUInt32 >>> (y &&& 31).toUInt32).toInt32
abbrev lushr (x : Int64) (y : Int32) : Int64 := (x.toUInt64 >>> (y &&& 0x3f).toInt64.toUInt64).toInt64
abbrev ishl (x y : Int32) : Int32 := x <<< (y &&& 31)
abbrev ishr (x y : Int32) : Int32 := x >>> (y &&& 31)
abbrev lshl (x : Int64) (y : Int32) : Int64 := x <<< (y &&& 0x3f).toInt64
abbrev lshr (x : Int64) (y : Int32) : Int64 := x >>> (y &&& 0x3f).toInt64
/-- a boolean told by a condition, as an int of the machine's -/
abbrev bz (P : Prop) [Decidable P] : Int32 := if P then 1 else 0
theorem nar_b (P : Prop) [Decidable P] : nar .boolean (bz P) = bz P := by unfold bz; split <;> rfl
theorem bz_t {P : Prop} [Decidable P] (h : P) : bz P = 1 := if_pos h
theorem bz_congr {P Q : Prop} [Decidable P] [Decidable Q] (h : P ↔ Q) : bz P = bz Q := by
  by_cases q : Q
  · rw [bz, bz, if_pos q, if_pos (h.mpr q)]
  · rw [bz, bz, if_neg q, if_neg (fun p => q (h.mp p))]
theorem bz_one {P : Prop} [Decidable P] (h : P ↔ True) : bz P = 1 := if_pos (h.mpr trivial)
theorem bz_zero {P : Prop} [Decidable P] (h : P ↔ False) : bz P = 0 := if_neg h.mp
theorem ow_bne_t {P : Prop} [Decidable P] (h : P) : ifCond.holds .ne (bz P) = true := by rw [if0, bz_t h]; decide
theorem ow_bne_f {P : Prop} [Decidable P] (h : ¬ P) : ifCond.holds .ne (bz P) = false := by rw [if0, bz, if_neg h]; decide
theorem ow_beq_t {P : Prop} [Decidable P] (h : ¬ P) : ifCond.holds .eq (bz P) = true := by rw [if0, bz, if_neg h]; decide
theorem ow_beq_f {P : Prop} [Decidable P] (h : P) : ifCond.holds .eq (bz P) = false := by rw [if0, bz_t h]; decide
theorem bz_f {P : Prop} [Decidable P] (h : ¬ P) : bz P = 0 := if_neg h
theorem ite_or_t {α : Type} {c d : Prop} [Decidable c] [Decidable d] {a y : α} (h : c) : (if c ∨ d then a else y) = a := if_pos (Or.inl h)
theorem ite_or_f {α : Type} {c d : Prop} [Decidable c] [Decidable d] {a y : α} (h : ¬ c) : (if c ∨ d then a else y) = (if d then a else y) := by
  by_cases q : d
  · rw [if_pos q, if_pos (Or.inr q)]
  · rw [if_neg q, if_neg (fun z => z.elim h q)]
theorem ite_and_t {α : Type} {c d : Prop} [Decidable c] [Decidable d] {a y : α} (h : c) : (if c ∧ d then a else y) = (if d then a else y) := by
  by_cases q : d
  · rw [if_pos q, if_pos ⟨h, q⟩]
  · rw [if_neg q, if_neg (fun z => q z.2)]
theorem ite_and_f {α : Type} {c d : Prop} [Decidable c] [Decidable d] {a y : α} (h : ¬ c) : (if c ∧ d then a else y) = y := if_neg fun q => h q.1
theorem xDup2 {tb : Tables} [Ours tb] {e : Env} {below : List Frame} {T target : State} {m : MethodId} {c : Code} {g : JFrame} (h : At T m c below) (hx : tb.exec = Jvm.exec) (hg : g.method = m) {x y : Value} {rest : List Value} (hd : decode c.code g.pc = .ok (.dup2, 1)) (hs : g.stack = x :: y :: rest) (hc : x.category = 1) (hc' : y.category = 1)
    (hr : Steps tb e below (T.setTop { g with pc := g.pc + 1, stack := x :: y :: x :: y :: rest }) target) : Steps tb e below (T.setTop g) target := by
  subst hg
  jvm_step h [h.top, hx, hd, hs, hc, hc']
  exact hr
theorem xDupX2 {tb : Tables} [Ours tb] {e : Env} {below : List Frame} {T target : State} {m : MethodId} {c : Code} {g : JFrame} (h : At T m c below) (hx : tb.exec = Jvm.exec) (hg : g.method = m) {x y z : Value} {rest : List Value} (hd : decode c.code g.pc = .ok (.dup_x2, 1)) (hs : g.stack = x :: y :: z :: rest) (hc : x.category = 1) (hc' : y.category = 1) (hc'' : z.category = 1)
    (hr : Steps tb e below (T.setTop { g with pc := g.pc + 1, stack := x :: y :: z :: x :: rest }) target) : Steps tb e below (T.setTop g) target := by
  subst hg
  jvm_step h [h.top, hx, hd, hs, hc, hc', hc'']
  exact hr
theorem ow_fin {P : Prop} [Decidable P] (h : P) : some (Value.int (nar .boolean (bz P))) = some (Value.int (1 : Int32)) := by rw [bz_t h]; rfl
theorem ow_fin' {P : Prop} [Decidable P] (h : P) : some (Value.int (bz P)) = some (Value.int (1 : Int32)) := by rw [bz_t h]
end Jvm.Own
namespace Jvm.Own
open Jvm Jvm.RoadKit
/-! ## Longs and ints as natural numbers -/
def nj (x : Int64) : Nat := x.toBitVec.toNat
def ni (x : Int32) : Nat := x.toBitVec.toNat
theorem nj_lt (x : Int64) : nj x < 18446744073709551616 := x.toBitVec.isLt
theorem ni_lt (x : Int32) : ni x < 4294967296 := x.toBitVec.isLt
theorem nj_inj {x y : Int64} (h : nj x = nj y) : x = y := Int64.toBitVec_inj.mp (BitVec.eq_of_toNat_eq h)
theorem ni_inj {x y : Int32} (h : ni x = ni y) : x = y := Int32.toBitVec_inj.mp (BitVec.eq_of_toNat_eq h)
theorem nj_int (x : Int64) : x.toInt = if nj x < 9223372036854775808 then (nj x : Int) else (nj x : Int) - 18446744073709551616 := by
  show x.toBitVec.toInt = _
  rw [BitVec.toInt_eq_toNat_cond]
  show (if 2 * nj x < 2 ^ 64 then (nj x : Int) else (nj x : Int) - (2 ^ 64 : Nat)) = _
  split <;> split <;> omega
theorem ni_int (x : Int32) : x.toInt = if ni x < 2147483648 then (ni x : Int) else (ni x : Int) - 4294967296 := by
  show x.toBitVec.toInt = _
  rw [BitVec.toInt_eq_toNat_cond]
  show (if 2 * ni x < 2 ^ 32 then (ni x : Int) else (ni x : Int) - (2 ^ 32 : Nat)) = _
  split <;> split <;> omega
theorem nj_and (x y : Int64) : nj (x &&& y) = nj x &&& nj y := by show (x.toBitVec &&& y.toBitVec).toNat = _; rw [BitVec.toNat_and]; rfl
theorem nj_or (x y : Int64) : nj (x ||| y) = nj x ||| nj y := by show (x.toBitVec ||| y.toBitVec).toNat = _; rw [BitVec.toNat_or]; rfl
theorem nj_xor (x y : Int64) : nj (x ^^^ y) = nj x ^^^ nj y := by show (x.toBitVec ^^^ y.toBitVec).toNat = _; rw [BitVec.toNat_xor]; rfl
theorem nj_add (x y : Int64) : nj (x + y) = (nj x + nj y) % 18446744073709551616 := by show (x.toBitVec + y.toBitVec).toNat = _; rw [BitVec.toNat_add]; rfl
theorem nj_sub (x y : Int64) : nj (x - y) = (18446744073709551616 - nj y + nj x) % 18446744073709551616 := by show (x.toBitVec - y.toBitVec).toNat = _; rw [BitVec.toNat_sub]; rfl
theorem ni_and (x y : Int32) : ni (x &&& y) = ni x &&& ni y := by show (x.toBitVec &&& y.toBitVec).toNat = _; rw [BitVec.toNat_and]; rfl
theorem nj_lushr (x : Int64) (q : Int32) (k : Nat) (hk : ni q % 64 = k) : nj (lushr x q) = nj x / 2 ^ k := by
  show (x.toBitVec >>> ((q &&& 0x3f).toInt64.toBitVec % 64)).toNat = x.toBitVec.toNat / 2 ^ k
  have h5 := (sm64 q k hk).2
  rw [BitVec.ushiftRight_eq', BitVec.toNat_ushiftRight, Nat.shiftRight_eq_div_pow, BitVec.toNat_umod, (sm64 q k hk).1, BitVec.toNat_ofNat]; congr 2; show k % 2 ^ 64 % 64 = k; omega
theorem nj_lshl (x : Int64) (q : Int32) (k : Nat) (hk : ni q % 64 = k) : nj (lshl x q) = nj x * 2 ^ k % 18446744073709551616 := by
  show (x.toBitVec <<< ((q &&& 0x3f).toInt64.toBitVec.smod 64)).toNat = _
  rw [BitVec.shiftLeft_eq', (sm64 q k hk).1, smod64 k (sm64 q k hk).2, BitVec.toNat_shiftLeft, Nat.shiftLeft_eq]; rfl
theorem ni_l2i (x : Int64) : ni x.toInt32 = nj x % 4294967296 := by
  show (x.toBitVec.signExtend 32).toNat = _
  rw [BitVec.signExtend_eq_setWidth_of_le _ (by decide), BitVec.toNat_setWidth]; rfl
theorem nj_i2l (x : Int32) (h : ni x < 2147483648) : nj x.toInt64 = ni x := by
  have e := nj_int x.toInt64
  rw [Int32.toInt_toInt64, ni_int, if_pos h] at e
  have := nj_lt x.toInt64
  split at e <;> omega
theorem mask_n (x k : Nat) : x &&& (2 ^ k - 1) = x % 2 ^ k := Nat.and_two_pow_sub_one_eq_mod x k
theorem lt64 {x y : Int64} : x < y ↔ x.toInt < y.toInt := Int64.lt_iff_toInt_lt
theorem lt32 {x y : Int32} : x < y ↔ x.toInt < y.toInt := Int32.lt_iff_toInt_lt
/-- the byte at place k of a long, as javac reads it into an int -/
theorem byteI (w : Int64) (q : Int32) (k : Nat) (hk : ni q % 64 = k) : ((lushr w q).toInt32 &&& (255 : Int32)) = Int32.ofNat (nj w / 2 ^ k % 256) := by
  apply ni_inj
  rw [ni_and, ni_l2i, nj_lushr w q k hk, show ni (255 : Int32) = 2 ^ 8 - 1 from rfl, mask_n]
  show _ = (BitVec.ofNat 32 _).toNat
  rw [BitVec.toNat_ofNat]
  omega
theorem byteJ (w : Int64) (q : Int32) (k : Nat) (hk : ni q % 64 = k) : ((lushr w q) &&& (255 : Int64)) = Int64.ofNat (nj w / 2 ^ k % 256) := by
  apply nj_inj
  rw [nj_and, nj_lushr w q k hk, show nj (255 : Int64) = 2 ^ 8 - 1 from rfl, mask_n]
  show _ = (BitVec.ofNat 64 _).toNat
  rw [BitVec.toNat_ofNat]
  omega
theorem all8 {P : Int8 → Prop} (h : ∀ n : Fin 256, P (Int8.ofNat n.1)) (y : Int8) : P y := by
  have q := h ⟨y.toBitVec.toNat, y.toBitVec.isLt⟩
  have e : Int8.ofNat y.toBitVec.toNat = y := by
    apply Int8.toBitVec_inj.mp
    show BitVec.ofNat 8 y.toBitVec.toNat = y.toBitVec
    rw [BitVec.ofNat_toNat]; simp
  rw [e] at q; exact q
/-- an int told by its natural number -/
theorem ofni (x : Int32) : Int32.ofNat (ni x) = x := by
  apply ni_inj
  show (BitVec.ofNat 32 x.toBitVec.toNat).toNat = x.toBitVec.toNat
  rw [BitVec.toNat_ofNat, Nat.mod_eq_of_lt x.toBitVec.isLt]
/-- (x & 0x7fffffff) % m for a small m -/
theorem remN (x : Int32) (m : Int32) (k : Nat) (hm : ni m = k) (h0 : 0 < k) (h1 : k < 2147483648) : ∃ n : Nat, n < k ∧ ((x &&& (2147483647 : Int32)) % m) = Int32.ofNat n := by
  have e1 : ni (x &&& (2147483647 : Int32)) = ni x % 2147483648 := by rw [ni_and, show ni (2147483647 : Int32) = 2 ^ 31 - 1 from rfl, mask_n]
  have m1 : m.toInt = k := by rw [ni_int, if_pos (by omega), hm]
  have a1 : (x &&& (2147483647 : Int32)).toInt = (ni x % 2147483648 : Nat) := by rw [ni_int, if_pos (by omega), e1]
  obtain ⟨p, -⟩ := c_irem (x &&& (2147483647 : Int32)) m k m1
  have r := p (by omega)
  refine ⟨ni x % 2147483648 % k, Nat.mod_lt _ h0, ?_⟩
  have q : ni x % 2147483648 % k < k := Nat.mod_lt _ h0
  apply Int32.toInt_inj.mp
  rw [r, a1, Int32.toInt_ofNat_of_lt (by omega)]; rfl
end Jvm.Own
namespace Jvm.Own
open Jvm Jvm.ClassFile Jvm.RoadKit
/-! ## Arrays of small natural numbers -/
def nv (x : Nat) : Value := .int (Int32.ofNat x)
def nl (xs : List Nat) : List Value := xs.map nv
theorem nl_len (xs : List Nat) : (nl xs).length = xs.length := by simp [nl]
theorem n_int {i : Nat} (h : i < 1000) : (Int32.ofNat i).toInt = i := Int32.toInt_ofNat_of_lt (by omega)
theorem n_nn {i : Nat} (h : i < 1000) : ¬ Int32.ofNat i < 0 := by rw [Int32.lt_iff_toInt_lt, n_int h, show (0 : Int32).toInt = 0 from rfl]; omega
theorem n_ix {i : Nat} (h : i < 1000) : (Int32.ofNat i).toNatClampNeg = i := by rw [Int32.toNatClampNeg, n_int h]; rfl
theorem nl_get {xs : List Nat} {i : Nat} (h : i < xs.length) : (nl xs)[i]? = some (.int (Int32.ofNat (xs.getD i 0))) := by
  simp [nl, nv, List.getD_eq_getElem?_getD, h]
theorem nl_at {xs : List Nat} {i : Nat} (h : i < xs.length) (b : i < 1000) : (nl xs)[(Int32.ofNat i).toNatClampNeg]? = some (.int (Int32.ofNat (xs.getD i 0))) := by rw [n_ix b]; exact nl_get h
theorem nl_lt {xs : List Nat} {i : Nat} (h : i < xs.length) : i < (nl xs).length := by rw [nl_len]; exact h
theorem nl_set (xs : List Nat) (i v : Nat) : (nl xs).set i (.int (Int32.ofNat v)) = nl (xs.set i v) := by simp [nl, nv, List.map_set]
theorem n_one (i : Nat) : Int32.ofNat i + (1 : Int32) = Int32.ofNat (i + 1) := (Int32.ofNat_add i 1).symm
theorem n_add (a b : Nat) : Int32.ofNat a + Int32.ofNat b = Int32.ofNat (a + b) := (Int32.ofNat_add a b).symm
theorem n_pred {i : Nat} (h : 1 ≤ i) : Int32.ofNat i - (1 : Int32) = Int32.ofNat (i - 1) := by
  obtain ⟨j, rfl⟩ : ∃ j, i = j + 1 := ⟨i - 1, by omega⟩
  rw [← n_one, show j + 1 - 1 = j from rfl]
  apply Int32.toBitVec_inj.mp
  show (Int32.ofNat j).toBitVec + 1#32 - 1#32 = _
  exact BitVec.add_sub_cancel _ _
theorem n_lt {i n : Nat} (h : i < n) (b : n < 1000) : Int32.ofNat i < Int32.ofNat n := by rw [Int32.lt_iff_toInt_lt, n_int b, n_int (by omega)]; omega
theorem n_nlt {i n : Nat} (h : n ≤ i) (b : i < 1000) : ¬ Int32.ofNat i < Int32.ofNat n := by rw [Int32.lt_iff_toInt_lt, n_int b, n_int (by omega)]; omega
theorem n_inj {i n : Nat} (h : Int32.ofNat i = Int32.ofNat n) (b : i < 1000) (b' : n < 1000) : i = n := by
  have := congrArg Int32.toInt h
  rw [n_int b, n_int b'] at this; omega
theorem n_rep (k : Nat) : List.replicate k (Value.int (0 : Int32)) = nl (List.replicate k 0) := by simp [nl, nv]
def One1 (s : Slot) : Prop := s = .unset ∨ ∃ w, s = .val w ∧ w.category = 1
theorem One1.v {w : Value} (h : w.category = 1) : One1 (.val w) := Or.inr ⟨w, rfl, h⟩
theorem One1.u : One1 .unset := Or.inl rfl
end Jvm.Own
namespace Jvm.Own
open Jvm Jvm.ClassFile Sem Op Lib Jvm.Free Jvm.Stand Jvm.LawKit Jvm.RoadKit
/-! ## A String constant may be made and interned: the base's second number tells how great the heap is at least -/
section Wide
variable {Z : State} {n0 : Nat × Nat} {h : Heap} {L : RL}
theorem Rep.rise {ls : List Loc} (R : Rep Z n0 h L) (N : Fr n0.1 ls) : ∃ n1 : Nat × Nat, Rep Z n1 h L ∧ Fr n1.1 ls ∧ (n1.1 = n0.1 ∧ n0.2 ≤ n1.2) ∧ h.size ≤ n1.2 :=
  ⟨(n0.1, h.size), ⟨⟨R.1.1, Nat.le_refl _⟩, R.2⟩, N, ⟨rfl, R.1.2⟩, Nat.le_refl _⟩
theorem Rep.low {n1 : Nat × Nat} (R : Rep Z n1 h L) (q : n1.1 = n0.1 ∧ n0.2 ≤ n1.2) : Rep Z n0 h L :=
  ⟨⟨by rw [← q.1]; exact R.1.1, Nat.le_trans q.2 R.1.2⟩, R.2.1, fun x hx => ⟨by rw [← q.1]; exact (R.2.2 x hx).1, (R.2.2 x hx).2⟩⟩
theorem gLdcS {p : Program} {l : Launch} {e : Env} {R : Room} {s : State} {vm0 : Vm} {m : MethodId} {args : Array Value} {below : List Frame} {meth : Method} {c : Code} {T : State} {locs : List Loc} {cells slots : Nat} {a0 : Array Value} {own text : String} {index k0 : Nat}
    (X : Stand p l e R (s.setVm vm0) m args below meth c T locs cells slots) (hx : p.tables.exec = Jvm.exec) (hZ : Z.Warmed39 vm0) (hown : vm0.findClass own = some m.cls) (w : (Cond.stringLink own index text).before a0 Z = true) (wS : ∀ a ∈ Bundle.stringAtoms, a.before a0 Z = true)
    (eT : T.heap = h) (N : Fr n0.1 locs) (Q : Rep Z n0 h L) (hS : s.Since vm0 k0) (hk : k0 ≤ n0.2) {g : JFrame} (hg : g.method = m) (hd : decode c.code g.pc = .ok (.ldc index, 2)) (n : Nat) (hn : 4 * text.toList.length ≤ n) (hbig : n ≤ 536870912) (hc : cells + 2 ≤ R.cells) (hl : slots + (n + 4) ≤ R.slots) :
    ∃ (a : Addr) (T' : State) (h' : Heap) (k1 : Nat) (n1 : Nat × Nat), Stand p l e R (s.setVm T'.vm) m args below meth c T' locs (cells + 2) (slots + (n + 4)) ∧ T'.heap = h' ∧ Fr n1.1 locs ∧ Rep Z n1 h' L ∧ (n1.1 = n0.1 ∧ n0.2 ≤ n1.2) ∧ s.Since T'.vm k1 ∧ k1 ≤ n1.2 ∧ Z.Warmed39 (s.setVm T'.vm).vm ∧ (s.setVm T'.vm).vm.findClass own = some m.cls ∧
      ∀ target, Steps p.tables e below (T'.setTop { g with pc := g.pc + 2, stack := .ref a :: g.stack }) target → Steps p.tables e below (T.setTop g) target := by
  obtain ⟨a, T', h', k1, X', e', E, s1, s2, z, o, st⟩ := ldcS X hx hZ hown w wS eT hS (Nat.le_trans hk Q.1.2) hg hd hn hbig hc hl
  exact ⟨a, T', h', k1, (n0.1, h'.size), X', e', N, ⟨⟨(Q.ext E).1.1, Nat.le_refl _⟩, (Q.ext E).2⟩, ⟨rfl, (Q.ext E).1.2⟩, s1, s2, z, o, st⟩
theorem sel_priv {s : State} {args : Array Value} {y y' : MethodName} {C : String} (w : (Cond.selects C y' y').before args s = true) (hc : y'.cls = y.cls) (hpriv : s.PrivateAt y) (hinst : (Cond.instanceMethod y).before args s = true) (hy : y.cls ≠ "java/lang/invoke/MethodHandle" ∧ y.cls ≠ "java/lang/invoke/VarHandle") : (Cond.selects y.cls y y).before args s = true := by
  obtain ⟨c2, r2, m2, -, -, q3, -, kP, hkP, hkPi⟩ := Cond.selects_spec w
  exact selects_self_of_private (by rw [← hc]; exact findClass_of_methodNamed q3) hkP hkPi hpriv hinst hy
end Wide
end Jvm.Own
namespace Jvm.Pilot.@@N@@
open Jvm Jvm.ClassFile Sem Op Lib Jvm.Free Jvm.Stand Jvm.LawKit Jvm.RoadKit Bundle Jvm.Own Jvm.Pilot.@@N@@.Jvm.D
theorem own_wS {Z : State} {a0 : Array Value} (hw : ∀ d ∈ tables_1, d.before a0 Z = true) : ∀ a ∈ Bundle.stringAtoms, a.before a0 Z = true := by
  intro d hd
  simp only [Bundle.stringAtoms, List.mem_cons, List.not_mem_nil, or_false] at hd
  rcases hd with rfl | rfl | rfl | rfl | rfl | rfl | rfl
  · exact (hw _ (List.mem_of_getElem? (i := 22) rfl))
  · exact (hw _ (List.mem_of_getElem? (i := 23) rfl))
  · exact (hw _ (List.mem_of_getElem? (i := 0) rfl))
  · exact (hw _ (List.mem_of_getElem? (i := 24) rfl))
  · exact (hw _ (List.mem_of_getElem? (i := 25) rfl))
  · exact (hw _ (List.mem_of_getElem? (i := 26) rfl))
  · exact (hw _ (List.mem_of_getElem? (i := 27) rfl))
theorem d8_0 : decode jdk_30_method_1_code 0 = .ok (.aload_n 0, 1) := by decide +kernel
theorem d8_1 : decode jdk_30_method_1_code 1 = .ok (.invokespecial 1, 3) := by decide +kernel
theorem d8_4 : decode jdk_30_method_1_code 4 = .ok (.return_, 1) := by decide +kernel
theorem pn_java_lang_Record : plainName "java/lang/Record" = true := by first | (simp [plainName, overriddenIn]; done) | decide +kernel
theorem ef_8 (m : MethodId) (x0 : Addr) : entryFrame m #[(.ref x0)] 1 = mkF m 0 #[.val (.ref x0)] [] := by first | (simp [entryFrame, mkF, argsToLocals, Value.category]; done) | rfl
def Q8 (Z : State) (ax : Addr) (n0 : Nat × Nat) (Rst : RL) (v : Option Value) (h : Heap) (L : List Loc) : Prop := v = none ∧ Fr n0.1 L ∧ Rep Z n0 h (Rst)
set_option maxRecDepth 65536 in
set_option maxHeartbeats 40000000 in
theorem rm8 (l : Launch) (Z : State) (a0 : Array Value) (hw : ∀ d ∈ tables_1, d.before a0 Z = true) (ws : List Jvm.Cond) (ax : Addr) (h0 : Heap) (n0 : Nat × Nat) (Rst : RL) (R0 : Rep Z n0 h0 (Rst)) :
    MetFree l (⟨"java/lang/Record", "<init>", "()V"⟩ : MethodName) (head1 (Jvm.Cond.code (⟨"java/lang/Record", "<init>", "()V"⟩ : MethodName) jdk_30_method_1_code 1 none :: ws) ({ frames := 1, cells := 0, slots := 0, locals := 12 } : Room)) (fun a U => a = #[(.ref ax)] ∧ Z.Warmed39 U.vm ∧ U.heap = h0) (fun _ _ _ _ _ => True) (fun _ U o U' => ∃ v L, o = .returned v ∧ Q8 Z ax n0 Rst v U'.heap L ∧ FrameEnd U o U' L ({ frames := 1, cells := 0, slots := 0, locals := 12 } : Room).cells ({ frames := 1, cells := 0, slots := 0, locals := 12 } : Room).slots) := by
  refine MetFree.of_bodySF (plainFor_of_name pn_java_lang_Record) hisR ?_
  intro p e s m args below meth c s₁ Bd hml0 hP hK
  obtain ⟨rfl, hZ, hh⟩ := hP
  have hx := Bd.exec
  have hby := Bd.bytes
  have hml : c.maxLocals = 1 := hml0
  have hown : s.vm.findClass "java/lang/Record" = some m.cls := findClass_of_methodNamed Bd.named
  have hnm := (name_of_methodNamed Bd.named Bd.method).1
  have X0 : Stand p l e ({ frames := 1, cells := 0, slots := 0, locals := 12 } : Room) s m #[(.ref ax)] below meth c s₁ [] 0 0 := Stand.of_body Bd
  have e0 : s₁.heap = h0 := by rw [← hh, Bd.state]; rfl
  have N0 := Fr.nil n0.1
  have pre0 : ∀ t, Steps p.tables e below (s₁.setTop (mkF m 0 #[.val (.ref ax)] [])) t → Steps p.tables e below (s₁.setTop (entryFrame m #[(.ref ax)] 1)) t := fun t k => castTop (ef_8 m ax) k
  have pre1 : ∀ t, Steps p.tables e below (s₁.setTop (mkF m 1 #[.val (.ref ax)] [(.ref ax)])) t → Steps p.tables e below (s₁.setTop (entryFrame m #[(.ref ax)] 1)) t := fun t k => pre0 t (by
    show Steps p.tables e below (s₁.setTop (mkF m 0 #[.val (.ref ax)] [])) _
    refine XS.aloadN X0.here hx rfl (hb hby d8_0) rfl rfl ?_
    exact k)
  obtain ⟨T2, X2, e2, st2⟩ := initO X0 hx hZ hown (hw _ (List.mem_of_getElem? (i := 56) rfl)) (hw _ (List.mem_of_getElem? (i := 8) rfl)) (hw _ (List.mem_of_getElem? (i := 9) rfl)) e0 (g := (mkF m 1 #[.val (.ref ax)] [(.ref ax)])) rfl (by rw [hml]; rfl) rfl (hb hby d8_1) (by decide) (W := 0) (by show 2 * 0 + _ ≤ _; exact Nat.le_of_eq rfl) (by decide)
  have pre3 : ∀ t, Steps p.tables e below (T2.setTop (mkF m 4 #[.val (.ref ax)] [])) t → Steps p.tables e below (s₁.setTop (entryFrame m #[(.ref ax)] 1)) t := fun t k => pre1 t (st2 t k)
  obtain ⟨fs, hr, hrun, hended, hW, hsame⟩ := X2.leave (v := none) (fun _ => rfl)
  refine ⟨_, _, pre3 _ ?_, hrun, hended, _, _, rfl, ?_, ⟨_, rfl⟩, hW, hsame.mono (by decide) (by decide)⟩
  · show Steps p.tables e below (T2.setTop (mkF m 4 #[.val (.ref ax)] [])) _
    exact X2.returnOut hx Bd.returns (hb hby d8_4) hr
  · show Q8 Z ax n0 Rst _ T2.heap _
    rw [e2]
    exact ⟨rfl, N0, R0⟩
theorem d1_0 : decode prog_13_method_1_code 0 = .ok (.aload_n 0, 1) := by decide +kernel
theorem d1_1 : decode prog_13_method_1_code 1 = .ok (.invokespecial 1, 3) := by decide +kernel
theorem d1_4 : decode prog_13_method_1_code 4 = .ok (.aload_n 0, 1) := by decide +kernel
theorem d1_5 : decode prog_13_method_1_code 5 = .ok (.aload_n 1, 1) := by decide +kernel
theorem d1_6 : decode prog_13_method_1_code 6 = .ok (.putfield 7, 3) := by decide +kernel
theorem d1_9 : decode prog_13_method_1_code 9 = .ok (.aload_n 0, 1) := by decide +kernel
theorem d1_10 : decode prog_13_method_1_code 10 = .ok (.iload_n 2, 1) := by decide +kernel
theorem d1_11 : decode prog_13_method_1_code 11 = .ok (.putfield 13, 3) := by decide +kernel
theorem d1_14 : decode prog_13_method_1_code 14 = .ok (.aload_n 0, 1) := by decide +kernel
theorem d1_15 : decode prog_13_method_1_code 15 = .ok (.iload_n 3, 1) := by decide +kernel
theorem d1_16 : decode prog_13_method_1_code 16 = .ok (.putfield 17, 3) := by decide +kernel
theorem d1_19 : decode prog_13_method_1_code 19 = .ok (.return_, 1) := by decide +kernel
theorem pn_com_example_sidetrack_sidetrack_codec_BerReader : plainName "com/example/sidetrack/sidetrack/codec/BerReader" = true := by first | (simp [plainName, overriddenIn]; done) | decide +kernel
theorem ef_1 (m : MethodId) (x0 : Addr) (x1 : Addr) (x2 : Int32) (x3 : Int32) : entryFrame m #[(.ref x0), (.ref x1), (.int x2), (.int x3)] 4 = mkF m 0 #[.val (.ref x0), .val (.ref x1), .val (.int x2), .val (.int x3)] [] := by first | (simp [entryFrame, mkF, argsToLocals, Value.category]; done) | rfl
def Q1 (Z : State) (ax : Addr) (bx : Addr) (pq : Int32) (zq : Int32) (u1 : Value) (u2 : Value) (u3 : Value) (n0 : Nat × Nat) (Rst : RL) (v : Option Value) (h : Heap) (L : List Loc) : Prop := v = none ∧ Fr n0.1 L ∧ Rep Z n0 h ((ax, Obj "com/example/sidetrack/sidetrack/codec/BerReader" [("bytes", "[B", (.ref bx)), ("position", "I", (.int pq)), ("end", "I", (.int zq))]) :: Rst)
set_option maxRecDepth 65536 in
set_option maxHeartbeats 40000000 in
theorem rm1 (l : Launch) (Z : State) (a0 : Array Value) (hw : ∀ d ∈ tables_1, d.before a0 Z = true) (ws : List Jvm.Cond) (ax : Addr) (bx : Addr) (pq : Int32) (zq : Int32) (u1 : Value) (u2 : Value) (u3 : Value) (h0 : Heap) (n0 : Nat × Nat) (Rst : RL) (R0 : Rep Z n0 h0 ((ax, Obj "com/example/sidetrack/sidetrack/codec/BerReader" [("bytes", "[B", u1), ("position", "I", u2), ("end", "I", u3)]) :: Rst)) :
    MetFree l (⟨"com/example/sidetrack/sidetrack/codec/BerReader", "<init>", "([BII)V"⟩ : MethodName) (head1 (Jvm.Cond.code (⟨"com/example/sidetrack/sidetrack/codec/BerReader", "<init>", "([BII)V"⟩ : MethodName) prog_13_method_1_code 4 none :: ws) ({ frames := 1, cells := 0, slots := 0, locals := 12 } : Room)) (fun a U => a = #[(.ref ax), (.ref bx), (.int pq), (.int zq)] ∧ Z.Warmed39 U.vm ∧ U.heap = h0) (fun _ _ _ _ _ => True) (fun _ U o U' => ∃ v L, o = .returned v ∧ Q1 Z ax bx pq zq u1 u2 u3 n0 Rst v U'.heap L ∧ FrameEnd U o U' L ({ frames := 1, cells := 0, slots := 0, locals := 12 } : Room).cells ({ frames := 1, cells := 0, slots := 0, locals := 12 } : Room).slots) := by
  refine MetFree.of_bodySF (plainFor_of_name pn_com_example_sidetrack_sidetrack_codec_BerReader) hisR ?_
  intro p e s m args below meth c s₁ Bd hml0 hP hK
  obtain ⟨rfl, hZ, hh⟩ := hP
  have hx := Bd.exec
  have hby := Bd.bytes
  have hml : c.maxLocals = 4 := hml0
  have hown : s.vm.findClass "com/example/sidetrack/sidetrack/codec/BerReader" = some m.cls := findClass_of_methodNamed Bd.named
  have hnm := (name_of_methodNamed Bd.named Bd.method).1
  have X0 : Stand p l e ({ frames := 1, cells := 0, slots := 0, locals := 12 } : Room) s m #[(.ref ax), (.ref bx), (.int pq), (.int zq)] below meth c s₁ [] 0 0 := Stand.of_body Bd
  have e0 : s₁.heap = h0 := by rw [← hh, Bd.state]; rfl
  have N0 := Fr.nil n0.1
  have pre0 : ∀ t, Steps p.tables e below (s₁.setTop (mkF m 0 #[.val (.ref ax), .val (.ref bx), .val (.int pq), .val (.int zq)] [])) t → Steps p.tables e below (s₁.setTop (entryFrame m #[(.ref ax), (.ref bx), (.int pq), (.int zq)] 4)) t := fun t k => castTop (ef_1 m ax bx pq zq) k
  have pre1 : ∀ t, Steps p.tables e below (s₁.setTop (mkF m 1 #[.val (.ref ax), .val (.ref bx), .val (.int pq), .val (.int zq)] [(.ref ax)])) t → Steps p.tables e below (s₁.setTop (entryFrame m #[(.ref ax), (.ref bx), (.int pq), (.int zq)] 4)) t := fun t k => pre0 t (by
    show Steps p.tables e below (s₁.setTop (mkF m 0 #[.val (.ref ax), .val (.ref bx), .val (.int pq), .val (.int zq)] [])) _
    refine XS.aloadN X0.here hx rfl (hb hby d1_0) rfl rfl ?_
    exact k)
  obtain ⟨T2, X2, e2, st2⟩ := initO X0 hx hZ hown (hw _ (List.mem_of_getElem? (i := 7) rfl)) (hw _ (List.mem_of_getElem? (i := 8) rfl)) (hw _ (List.mem_of_getElem? (i := 9) rfl)) e0 (g := (mkF m 1 #[.val (.ref ax), .val (.ref bx), .val (.int pq), .val (.int zq)] [(.ref ax)])) rfl (by rw [hml]; rfl) rfl (hb hby d1_1) (by decide) (W := 0) (by show 2 * 0 + _ ≤ _; exact Nat.le_of_eq rfl) (by decide)
  have pre3 : ∀ t, Steps p.tables e below (T2.setTop (mkF m 4 #[.val (.ref ax), .val (.ref bx), .val (.int pq), .val (.int zq)] [])) t → Steps p.tables e below (s₁.setTop (entryFrame m #[(.ref ax), (.ref bx), (.int pq), (.int zq)] 4)) t := fun t k => pre1 t (st2 t k)
  have pre4 : ∀ t, Steps p.tables e below (T2.setTop (mkF m 6 #[.val (.ref ax), .val (.ref bx), .val (.int pq), .val (.int zq)] [(.ref bx), (.ref ax)])) t → Steps p.tables e below (s₁.setTop (entryFrame m #[(.ref ax), (.ref bx), (.int pq), (.int zq)] 4)) t := fun t k => pre3 t (by
    show Steps p.tables e below (T2.setTop (mkF m 4 #[.val (.ref ax), .val (.ref bx), .val (.int pq), .val (.int zq)] [])) _
    refine XS.aloadN X2.here hx rfl (hb hby d1_4) rfl rfl ?_
    refine XS.aloadN X2.here hx rfl (hb hby d1_5) rfl rfl ?_
    exact k)
  obtain ⟨T5, h5, ls5, X5, e5, N5, R5, st5⟩ := gPut X2 hx hZ hown (host := "") (Or.inl (hw _ (List.mem_of_getElem? (i := 10) rfl))) e2 N0 R0 0 0 rfl rfl (Or.inr ⟨(hw _ (List.mem_of_getElem? (i := 11) rfl)), rfl, hnm⟩) (hw _ (List.mem_of_getElem? (i := 2) rfl)) (ty := (.array .byte)) (by decide) rfl rfl (g := (mkF m 6 #[.val (.ref ax), .val (.ref bx), .val (.int pq), .val (.int zq)] [(.ref bx), (.ref ax)])) rfl rfl (hb hby d1_6)
  replace R5 : Rep Z n0 h5 ((ax, Obj "com/example/sidetrack/sidetrack/codec/BerReader" [("bytes", "[B", (.ref bx)), ("position", "I", u2), ("end", "I", u3)]) :: Rst) := R5
  have pre6 : ∀ t, Steps p.tables e below (T5.setTop (mkF m 9 #[.val (.ref ax), .val (.ref bx), .val (.int pq), .val (.int zq)] [])) t → Steps p.tables e below (s₁.setTop (entryFrame m #[(.ref ax), (.ref bx), (.int pq), (.int zq)] 4)) t := fun t k => pre4 t (st5 t k)
  have pre7 : ∀ t, Steps p.tables e below (T5.setTop (mkF m 11 #[.val (.ref ax), .val (.ref bx), .val (.int pq), .val (.int zq)] [(.int pq), (.ref ax)])) t → Steps p.tables e below (s₁.setTop (entryFrame m #[(.ref ax), (.ref bx), (.int pq), (.int zq)] 4)) t := fun t k => pre6 t (by
    show Steps p.tables e below (T5.setTop (mkF m 9 #[.val (.ref ax), .val (.ref bx), .val (.int pq), .val (.int zq)] [])) _
    refine XS.aloadN X5.here hx rfl (hb hby d1_9) rfl rfl ?_
    refine XS.iloadN X5.here hx rfl (hb hby d1_10) rfl ?_
    exact k)
  obtain ⟨T8, h8, ls8, X8, e8, N8, R8, st8⟩ := gPut X5 hx hZ hown (host := "") (Or.inl (hw _ (List.mem_of_getElem? (i := 12) rfl))) e5 N5 R5 0 1 rfl rfl (Or.inl (hw _ (List.mem_of_getElem? (i := 13) rfl))) (hw _ (List.mem_of_getElem? (i := 2) rfl)) (ty := .int) (by decide) rfl rfl (g := (mkF m 11 #[.val (.ref ax), .val (.ref bx), .val (.int pq), .val (.int zq)] [(.int pq), (.ref ax)])) rfl rfl (hb hby d1_11)
  replace R8 : Rep Z n0 h8 ((ax, Obj "com/example/sidetrack/sidetrack/codec/BerReader" [("bytes", "[B", (.ref bx)), ("position", "I", (.int pq)), ("end", "I", u3)]) :: Rst) := R8
  have pre9 : ∀ t, Steps p.tables e below (T8.setTop (mkF m 14 #[.val (.ref ax), .val (.ref bx), .val (.int pq), .val (.int zq)] [])) t → Steps p.tables e below (s₁.setTop (entryFrame m #[(.ref ax), (.ref bx), (.int pq), (.int zq)] 4)) t := fun t k => pre7 t (st8 t k)
  have pre10 : ∀ t, Steps p.tables e below (T8.setTop (mkF m 16 #[.val (.ref ax), .val (.ref bx), .val (.int pq), .val (.int zq)] [(.int zq), (.ref ax)])) t → Steps p.tables e below (s₁.setTop (entryFrame m #[(.ref ax), (.ref bx), (.int pq), (.int zq)] 4)) t := fun t k => pre9 t (by
    show Steps p.tables e below (T8.setTop (mkF m 14 #[.val (.ref ax), .val (.ref bx), .val (.int pq), .val (.int zq)] [])) _
    refine XS.aloadN X8.here hx rfl (hb hby d1_14) rfl rfl ?_
    refine XS.iloadN X8.here hx rfl (hb hby d1_15) rfl ?_
    exact k)
  obtain ⟨T11, h11, ls11, X11, e11, N11, R11, st11⟩ := gPut X8 hx hZ hown (host := "") (Or.inl (hw _ (List.mem_of_getElem? (i := 14) rfl))) e8 N8 R8 0 2 rfl rfl (Or.inr ⟨(hw _ (List.mem_of_getElem? (i := 15) rfl)), rfl, hnm⟩) (hw _ (List.mem_of_getElem? (i := 2) rfl)) (ty := .int) (by decide) rfl rfl (g := (mkF m 16 #[.val (.ref ax), .val (.ref bx), .val (.int pq), .val (.int zq)] [(.int zq), (.ref ax)])) rfl rfl (hb hby d1_16)
  replace R11 : Rep Z n0 h11 ((ax, Obj "com/example/sidetrack/sidetrack/codec/BerReader" [("bytes", "[B", (.ref bx)), ("position", "I", (.int pq)), ("end", "I", (.int zq))]) :: Rst) := R11
  have pre12 : ∀ t, Steps p.tables e below (T11.setTop (mkF m 19 #[.val (.ref ax), .val (.ref bx), .val (.int pq), .val (.int zq)] [])) t → Steps p.tables e below (s₁.setTop (entryFrame m #[(.ref ax), (.ref bx), (.int pq), (.int zq)] 4)) t := fun t k => pre10 t (st11 t k)
  obtain ⟨fs, hr, hrun, hended, hW, hsame⟩ := X11.leave (v := none) (fun _ => rfl)
  refine ⟨_, _, pre12 _ ?_, hrun, hended, _, _, rfl, ?_, ⟨_, rfl⟩, hW, hsame.mono (by decide) (by decide)⟩
  · show Steps p.tables e below (T11.setTop (mkF m 19 #[.val (.ref ax), .val (.ref bx), .val (.int pq), .val (.int zq)] [])) _
    exact X11.returnOut hx Bd.returns (hb hby d1_19) hr
  · show Q1 Z ax bx pq zq u1 u2 u3 n0 Rst _ T11.heap _
    rw [e11]
    exact ⟨rfl, N11, R11⟩
theorem d3_0 : decode prog_13_method_2_code 0 = .ok (.aload_n 0, 1) := by decide +kernel
theorem d3_1 : decode prog_13_method_2_code 1 = .ok (.getfield 13, 3) := by decide +kernel
theorem d3_4 : decode prog_13_method_2_code 4 = .ok (.aload_n 0, 1) := by decide +kernel
theorem d3_5 : decode prog_13_method_2_code 5 = .ok (.getfield 17, 3) := by decide +kernel
theorem d3_8 : decode prog_13_method_2_code 8 = .ok (.if_icmp .lt 7, 3) := by decide +kernel
theorem d3_15 : decode prog_13_method_2_code 15 = .ok (.iconst 0, 1) := by decide +kernel
theorem d3_11 : decode prog_13_method_2_code 11 = .ok (.iconst 1, 1) := by decide +kernel
theorem d3_12 : decode prog_13_method_2_code 12 = .ok (.goto 4, 3) := by decide +kernel
theorem d3_16 : decode prog_13_method_2_code 16 = .ok (.ireturn, 1) := by decide +kernel
theorem ef_3 (m : MethodId) (x0 : Addr) : entryFrame m #[(.ref x0)] 1 = mkF m 0 #[.val (.ref x0)] [] := by first | (simp [entryFrame, mkF, argsToLocals, Value.category]; done) | rfl
def F3 (pq : Int32) (zq : Int32) : Int32 :=
  (bz (¬ (pq < zq)))
def Q3 (Z : State) (ax : Addr) (u1 : Value) (pq : Int32) (zq : Int32) (n0 : Nat × Nat) (Rst : RL) (v : Option Value) (h : Heap) (L : List Loc) : Prop := v = some (.int (F3 pq zq)) ∧ Fr n0.1 L ∧ Rep Z n0 h ((ax, Obj "com/example/sidetrack/sidetrack/codec/BerReader" [("bytes", "[B", u1), ("position", "I", (.int pq)), ("end", "I", (.int zq))]) :: Rst)
set_option maxRecDepth 65536 in
set_option maxHeartbeats 40000000 in
theorem rm3 (l : Launch) (Z : State) (a0 : Array Value) (hw : ∀ d ∈ tables_1, d.before a0 Z = true) (ws : List Jvm.Cond) (ax : Addr) (u1 : Value) (pq : Int32) (zq : Int32) (h0 : Heap) (n0 : Nat × Nat) (Rst : RL) (R0 : Rep Z n0 h0 ((ax, Obj "com/example/sidetrack/sidetrack/codec/BerReader" [("bytes", "[B", u1), ("position", "I", (.int pq)), ("end", "I", (.int zq))]) :: Rst)) :
    MetFree l (⟨"com/example/sidetrack/sidetrack/codec/BerReader", "atEnd", "()Z"⟩ : MethodName) (head1 (Jvm.Cond.code (⟨"com/example/sidetrack/sidetrack/codec/BerReader", "atEnd", "()Z"⟩ : MethodName) prog_13_method_2_code 1 (some .boolean) :: ws) ({ frames := 0, cells := 0, slots := 0, locals := 0 } : Room)) (fun a U => a = #[(.ref ax)] ∧ Z.Warmed39 U.vm ∧ U.heap = h0) (fun _ _ _ _ _ => True) (fun _ U o U' => ∃ v L, o = .returned v ∧ Q3 Z ax u1 pq zq n0 Rst v U'.heap L ∧ FrameEnd U o U' L ({ frames := 0, cells := 0, slots := 0, locals := 0 } : Room).cells ({ frames := 0, cells := 0, slots := 0, locals := 0 } : Room).slots) := by
  refine MetFree.of_bodySF (plainFor_of_name pn_com_example_sidetrack_sidetrack_codec_BerReader) hisR ?_
  intro p e s m args below meth c s₁ Bd hml0 hP hK
  obtain ⟨rfl, hZ, hh⟩ := hP
  have hx := Bd.exec
  have hby := Bd.bytes
  have hml : c.maxLocals = 1 := hml0
  have hown : s.vm.findClass "com/example/sidetrack/sidetrack/codec/BerReader" = some m.cls := findClass_of_methodNamed Bd.named
  have hnm := (name_of_methodNamed Bd.named Bd.method).1
  have X0 : Stand p l e ({ frames := 0, cells := 0, slots := 0, locals := 0 } : Room) s m #[(.ref ax)] below meth c s₁ [] 0 0 := Stand.of_body Bd
  have e0 : s₁.heap = h0 := by rw [← hh, Bd.state]; rfl
  have N0 := Fr.nil n0.1
  have pre0 : ∀ t, Steps p.tables e below (s₁.setTop (mkF m 0 #[.val (.ref ax)] [])) t → Steps p.tables e below (s₁.setTop (entryFrame m #[(.ref ax)] 1)) t := fun t k => castTop (ef_3 m ax) k
  have pre1 : ∀ t, Steps p.tables e below (s₁.setTop (mkF m 1 #[.val (.ref ax)] [(.ref ax)])) t → Steps p.tables e below (s₁.setTop (entryFrame m #[(.ref ax)] 1)) t := fun t k => pre0 t (by
    show Steps p.tables e below (s₁.setTop (mkF m 0 #[.val (.ref ax)] [])) _
    refine XS.aloadN X0.here hx rfl (hb hby d3_0) rfl rfl ?_
    exact k)
  obtain ⟨T2, X2, e2, st2⟩ := gGet X0 hx hZ hown (host := "") (Or.inl (hw _ (List.mem_of_getElem? (i := 12) rfl))) e0 R0 0 1 rfl rfl (g := (mkF m 1 #[.val (.ref ax)] [(.ref ax)])) rfl rfl (hb hby d3_1)
  have pre3 : ∀ t, Steps p.tables e below (T2.setTop (mkF m 4 #[.val (.ref ax)] [(.int pq)])) t → Steps p.tables e below (s₁.setTop (entryFrame m #[(.ref ax)] 1)) t := fun t k => pre1 t (st2 t k)
  have pre4 : ∀ t, Steps p.tables e below (T2.setTop (mkF m 5 #[.val (.ref ax)] [(.ref ax), (.int pq)])) t → Steps p.tables e below (s₁.setTop (entryFrame m #[(.ref ax)] 1)) t := fun t k => pre3 t (by
    show Steps p.tables e below (T2.setTop (mkF m 4 #[.val (.ref ax)] [(.int pq)])) _
    refine XS.aloadN X2.here hx rfl (hb hby d3_4) rfl rfl ?_
    exact k)
  obtain ⟨T5, X5, e5, st5⟩ := gGet X2 hx hZ hown (host := "") (Or.inl (hw _ (List.mem_of_getElem? (i := 14) rfl))) e2 R0 0 2 rfl rfl (g := (mkF m 5 #[.val (.ref ax)] [(.ref ax), (.int pq)])) rfl rfl (hb hby d3_5)
  have pre6 : ∀ t, Steps p.tables e below (T5.setTop (mkF m 8 #[.val (.ref ax)] [(.int zq), (.int pq)])) t → Steps p.tables e below (s₁.setTop (entryFrame m #[(.ref ax)] 1)) t := fun t k => pre4 t (st5 t k)
  have tl8 : ∀ t, Steps p.tables e below (T5.setTop (mkF m 16 #[.val (.ref ax)] [(.int (bz (¬ (pq < zq))))])) t → Steps p.tables e below (T5.setTop (mkF m 8 #[.val (.ref ax)] [(.int zq), (.int pq)])) t := fun t k => by
    by_cases hb7 : pq < zq
    · refine XS.icmpYes X5.here hx rfl (pc0 := 8) (pc' := 15) rfl (hb hby d3_8) rfl (tlt hb7).1 (by decide) (by decide) ?_
      rw [bz_zero (P := (¬ (pq < zq))) (iff_false_intro (not_not_intro hb7))] at k
      show Steps p.tables e below (T5.setTop (mkF m 15 #[.val (.ref ax)] [])) _
      refine XS.iconst X5.here hx rfl (hb hby d3_15) ?_
      exact k
    · refine XS.icmpNo X5.here hx rfl (hb hby d3_8) rfl (flt hb7).1 ?_
      rw [bz_one (P := (¬ (pq < zq))) (iff_true_intro hb7)] at k
      show Steps p.tables e below (T5.setTop (mkF m 11 #[.val (.ref ax)] [])) _
      refine XS.iconst X5.here hx rfl (hb hby d3_11) ?_
      refine XS.goto X5.here hx rfl (pc0 := 12) (pc' := 16) rfl (hb hby d3_12) (by decide) (by decide) ?_
      exact k
  have pre9 : ∀ t, Steps p.tables e below (T5.setTop (mkF m 16 #[.val (.ref ax)] [(.int (bz (¬ (pq < zq))))])) t → Steps p.tables e below (s₁.setTop (entryFrame m #[(.ref ax)] 1)) t := fun t k => pre6 t (by
    exact tl8 t k)
  obtain ⟨fs, hr, hrun, hended, hW, hsame⟩ := X5.leave (v := some (.int (nar .boolean (bz (¬ (pq < zq)))))) (fun h => by rw [Bd.returns] at h; cases h)
  refine ⟨_, _, pre9 _ ?_, hrun, hended, _, _, rfl, ?_, ⟨_, rfl⟩, hW, hsame.mono (by decide) (by decide)⟩
  · show Steps p.tables e below (T5.setTop (mkF m 16 #[.val (.ref ax)] [(.int (bz (¬ (pq < zq))))])) _
    exact retN X5 hx (t := .boolean) Bd.returns (by simp) (hb hby d3_16) hr
  · show Q3 Z ax u1 pq zq n0 Rst _ T5.heap _
    rw [e5]
    exact ⟨(by exact congrArg (fun z => some (Value.int z)) (by simp only [F3] <;> first | rfl | exact nar_b _ | decide)), N0, R0⟩
theorem d5_0 : decode prog_13_method_3_code 0 = .ok (.aload_n 0, 1) := by decide +kernel
theorem d5_1 : decode prog_13_method_3_code 1 = .ok (.getfield 7, 3) := by decide +kernel
theorem d5_4 : decode prog_13_method_3_code 4 = .ok (.aload_n 0, 1) := by decide +kernel
theorem d5_5 : decode prog_13_method_3_code 5 = .ok (.getfield 13, 3) := by decide +kernel
theorem d5_8 : decode prog_13_method_3_code 8 = .ok (.baload, 1) := by decide +kernel
theorem d5_9 : decode prog_13_method_3_code 9 = .ok (.sipush 255, 3) := by decide +kernel
theorem d5_12 : decode prog_13_method_3_code 12 = .ok (.iand, 1) := by decide +kernel
theorem d5_13 : decode prog_13_method_3_code 13 = .ok (.ireturn, 1) := by decide +kernel
theorem ef_5 (m : MethodId) (x0 : Addr) : entryFrame m #[(.ref x0)] 1 = mkF m 0 #[.val (.ref x0)] [] := by first | (simp [entryFrame, mkF, argsToLocals, Value.category]; done) | rfl
def Q5 (Z : State) (ax : Addr) (bx : Addr) (u3 : Value) (lv : Int32) (n0 : Nat × Nat) (Rst : RL) (v : Option Value) (h : Heap) (L : List Loc) : Prop := v = some (.int (4 : Int32)) ∧ Fr n0.1 L ∧ Rep Z n0 h ((ax, Obj "com/example/sidetrack/sidetrack/codec/BerReader" [("bytes", "[B", (.ref bx)), ("position", "I", (.int (0 : Int32))), ("end", "I", u3)]) :: (bx, Ar .byte [(.int (4 : Int32)), (.int lv), (.int (0 : Int32)), (.int (0 : Int32)), (.int (0 : Int32)), (.int (0 : Int32))]) :: Rst)
set_option maxRecDepth 65536 in
set_option maxHeartbeats 40000000 in
theorem rm5 (l : Launch) (Z : State) (a0 : Array Value) (hw : ∀ d ∈ tables_1, d.before a0 Z = true) (ws : List Jvm.Cond) (ax : Addr) (bx : Addr) (u3 : Value) (lv : Int32) (h0 : Heap) (n0 : Nat × Nat) (Rst : RL) (R0 : Rep Z n0 h0 ((ax, Obj "com/example/sidetrack/sidetrack/codec/BerReader" [("bytes", "[B", (.ref bx)), ("position", "I", (.int (0 : Int32))), ("end", "I", u3)]) :: (bx, Ar .byte [(.int (4 : Int32)), (.int lv), (.int (0 : Int32)), (.int (0 : Int32)), (.int (0 : Int32)), (.int (0 : Int32))]) :: Rst)) :
    MetFree l (⟨"com/example/sidetrack/sidetrack/codec/BerReader", "peekTag", "()I"⟩ : MethodName) (head1 (Jvm.Cond.code (⟨"com/example/sidetrack/sidetrack/codec/BerReader", "peekTag", "()I"⟩ : MethodName) prog_13_method_3_code 1 (some .int) :: ws) ({ frames := 0, cells := 0, slots := 0, locals := 0 } : Room)) (fun a U => a = #[(.ref ax)] ∧ Z.Warmed39 U.vm ∧ U.heap = h0) (fun _ _ _ _ _ => True) (fun _ U o U' => ∃ v L, o = .returned v ∧ Q5 Z ax bx u3 lv n0 Rst v U'.heap L ∧ FrameEnd U o U' L ({ frames := 0, cells := 0, slots := 0, locals := 0 } : Room).cells ({ frames := 0, cells := 0, slots := 0, locals := 0 } : Room).slots) := by
  refine MetFree.of_bodySF (plainFor_of_name pn_com_example_sidetrack_sidetrack_codec_BerReader) hisR ?_
  intro p e s m args below meth c s₁ Bd hml0 hP hK
  obtain ⟨rfl, hZ, hh⟩ := hP
  have hx := Bd.exec
  have hby := Bd.bytes
  have hml : c.maxLocals = 1 := hml0
  have hown : s.vm.findClass "com/example/sidetrack/sidetrack/codec/BerReader" = some m.cls := findClass_of_methodNamed Bd.named
  have hnm := (name_of_methodNamed Bd.named Bd.method).1
  have X0 : Stand p l e ({ frames := 0, cells := 0, slots := 0, locals := 0 } : Room) s m #[(.ref ax)] below meth c s₁ [] 0 0 := Stand.of_body Bd
  have e0 : s₁.heap = h0 := by rw [← hh, Bd.state]; rfl
  have N0 := Fr.nil n0.1
  have pre0 : ∀ t, Steps p.tables e below (s₁.setTop (mkF m 0 #[.val (.ref ax)] [])) t → Steps p.tables e below (s₁.setTop (entryFrame m #[(.ref ax)] 1)) t := fun t k => castTop (ef_5 m ax) k
  have pre1 : ∀ t, Steps p.tables e below (s₁.setTop (mkF m 1 #[.val (.ref ax)] [(.ref ax)])) t → Steps p.tables e below (s₁.setTop (entryFrame m #[(.ref ax)] 1)) t := fun t k => pre0 t (by
    show Steps p.tables e below (s₁.setTop (mkF m 0 #[.val (.ref ax)] [])) _
    refine XS.aloadN X0.here hx rfl (hb hby d5_0) rfl rfl ?_
    exact k)
  obtain ⟨T2, X2, e2, st2⟩ := gGet X0 hx hZ hown (host := "") (Or.inl (hw _ (List.mem_of_getElem? (i := 10) rfl))) e0 R0 0 0 rfl rfl (g := (mkF m 1 #[.val (.ref ax)] [(.ref ax)])) rfl rfl (hb hby d5_1)
  have pre3 : ∀ t, Steps p.tables e below (T2.setTop (mkF m 4 #[.val (.ref ax)] [(.ref bx)])) t → Steps p.tables e below (s₁.setTop (entryFrame m #[(.ref ax)] 1)) t := fun t k => pre1 t (st2 t k)
  have pre4 : ∀ t, Steps p.tables e below (T2.setTop (mkF m 5 #[.val (.ref ax)] [(.ref ax), (.ref bx)])) t → Steps p.tables e below (s₁.setTop (entryFrame m #[(.ref ax)] 1)) t := fun t k => pre3 t (by
    show Steps p.tables e below (T2.setTop (mkF m 4 #[.val (.ref ax)] [(.ref bx)])) _
    refine XS.aloadN X2.here hx rfl (hb hby d5_4) rfl rfl ?_
    exact k)
  obtain ⟨T5, X5, e5, st5⟩ := gGet X2 hx hZ hown (host := "") (Or.inl (hw _ (List.mem_of_getElem? (i := 12) rfl))) e2 R0 0 1 rfl rfl (g := (mkF m 5 #[.val (.ref ax)] [(.ref ax), (.ref bx)])) rfl rfl (hb hby d5_5)
  have pre6 : ∀ t, Steps p.tables e below (T5.setTop (mkF m 8 #[.val (.ref ax)] [(.int (0 : Int32)), (.ref bx)])) t → Steps p.tables e below (s₁.setTop (entryFrame m #[(.ref ax)] 1)) t := fun t k => pre4 t (st5 t k)
  have pre7 : ∀ t, Steps p.tables e below (T5.setTop (mkF m 13 #[.val (.ref ax)] [(.int (4 : Int32))])) t → Steps p.tables e below (s₁.setTop (entryFrame m #[(.ref ax)] 1)) t := fun t k => pre6 t (by
    show Steps p.tables e below (T5.setTop (mkF m 8 #[.val (.ref ax)] [(.int (0 : Int32)), (.ref bx)])) _
    refine gBald X5 hx hZ e5 R0 1 rfl (j := (0 : Int32)) (v := (.int (4 : Int32))) (by decide) rfl (g := (mkF m 8 #[.val (.ref ax)] [(.int (0 : Int32)), (.ref bx)])) rfl rfl (hb hby d5_8) _ ?_
    refine XS.sipush X5.here hx rfl (hb hby d5_9) ?_
    refine XS.iand X5.here hx rfl (hb hby d5_12) rfl ?_
    exact k)
  obtain ⟨fs, hr, hrun, hended, hW, hsame⟩ := X5.leave (v := some (.int (4 : Int32))) (fun h => by rw [Bd.returns] at h; cases h)
  refine ⟨_, _, pre7 _ ?_, hrun, hended, _, _, rfl, ?_, ⟨_, rfl⟩, hW, hsame.mono (by decide) (by decide)⟩
  · show Steps p.tables e below (T5.setTop (mkF m 13 #[.val (.ref ax)] [(.int (4 : Int32))])) _
    exact Jvm.Own.retI X5 hx Bd.returns (hb hby d5_13) hr
  · show Q5 Z ax bx u3 lv n0 Rst _ T5.heap _
    rw [e5]
    exact ⟨rfl, N0, R0⟩
theorem d14_0 : decode jdk_29_method_69_code 0 = .ok (.iload_n 0, 1) := by decide +kernel
theorem d14_1 : decode jdk_29_method_69_code 1 = .ok (.iload_n 1, 1) := by decide +kernel
theorem d14_2 : decode jdk_29_method_69_code 2 = .ok (.if_icmp .gt 7, 3) := by decide +kernel
theorem d14_9 : decode jdk_29_method_69_code 9 = .ok (.iload_n 1, 1) := by decide +kernel
theorem d14_5 : decode jdk_29_method_69_code 5 = .ok (.iload_n 0, 1) := by decide +kernel
theorem d14_6 : decode jdk_29_method_69_code 6 = .ok (.goto 4, 3) := by decide +kernel
theorem d14_10 : decode jdk_29_method_69_code 10 = .ok (.ireturn, 1) := by decide +kernel
theorem ef_14 (m : MethodId) (x0 : Int32) (x1 : Int32) : entryFrame m #[(.int x0), (.int x1)] 2 = mkF m 0 #[.val (.int x0), .val (.int x1)] [] := by first | (simp [entryFrame, mkF, argsToLocals, Value.category]; done) | rfl
def F14 (ux : Int32) (wx : Int32) : Int32 :=
  (if wx < ux then wx else ux)
def Q14 (Z : State) (ux : Int32) (wx : Int32) (n0 : Nat × Nat) (Rst : RL) (v : Option Value) (h : Heap) (L : List Loc) : Prop := v = some (.int (F14 ux wx)) ∧ Fr n0.1 L ∧ Rep Z n0 h (Rst)
set_option maxRecDepth 65536 in
set_option maxHeartbeats 40000000 in
theorem rm14 (l : Launch) (Z : State) (a0 : Array Value) (hw : ∀ d ∈ tables_1, d.before a0 Z = true) (ws : List Jvm.Cond) (ux : Int32) (wx : Int32) (h0 : Heap) (n0 : Nat × Nat) (Rst : RL) (R0 : Rep Z n0 h0 (Rst)) :
    MetFree l (⟨"java/lang/Math", "min", "(II)I"⟩ : MethodName) (head1 (Jvm.Cond.code (⟨"java/lang/Math", "min", "(II)I"⟩ : MethodName) jdk_29_method_69_code 2 (some .int) :: ws) ({ frames := 0, cells := 0, slots := 0, locals := 0 } : Room)) (fun a U => a = #[(.int ux), (.int wx)] ∧ Z.Warmed39 U.vm ∧ U.heap = h0) (fun _ _ _ _ _ => True) (fun _ U o U' => ∃ v L, o = .returned v ∧ Q14 Z ux wx n0 Rst v U'.heap L ∧ FrameEnd U o U' L ({ frames := 0, cells := 0, slots := 0, locals := 0 } : Room).cells ({ frames := 0, cells := 0, slots := 0, locals := 0 } : Room).slots) := by
  refine MetFree.of_bodySF (Jvm.Free.JP.mathPlain rfl (by decide +kernel)) hisR ?_
  intro p e s m args below meth c s₁ Bd hml0 hP hK
  obtain ⟨rfl, hZ, hh⟩ := hP
  have hx := Bd.exec
  have hby := Bd.bytes
  have hml : c.maxLocals = 2 := hml0
  have hown : s.vm.findClass "java/lang/Math" = some m.cls := findClass_of_methodNamed Bd.named
  have hnm := (name_of_methodNamed Bd.named Bd.method).1
  have X0 : Stand p l e ({ frames := 0, cells := 0, slots := 0, locals := 0 } : Room) s m #[(.int ux), (.int wx)] below meth c s₁ [] 0 0 := Stand.of_body Bd
  have e0 : s₁.heap = h0 := by rw [← hh, Bd.state]; rfl
  have N0 := Fr.nil n0.1
  have pre0 : ∀ t, Steps p.tables e below (s₁.setTop (mkF m 0 #[.val (.int ux), .val (.int wx)] [])) t → Steps p.tables e below (s₁.setTop (entryFrame m #[(.int ux), (.int wx)] 2)) t := fun t k => castTop (ef_14 m ux wx) k
  have pre3 : ∀ t, Steps p.tables e below (s₁.setTop (mkF m 2 #[.val (.int ux), .val (.int wx)] [(.int wx), (.int ux)])) t → Steps p.tables e below (s₁.setTop (entryFrame m #[(.int ux), (.int wx)] 2)) t := fun t k => pre0 t (by
    show Steps p.tables e below (s₁.setTop (mkF m 0 #[.val (.int ux), .val (.int wx)] [])) _
    refine XS.iloadN X0.here hx rfl (hb hby d14_0) rfl ?_
    refine XS.iloadN X0.here hx rfl (hb hby d14_1) rfl ?_
    exact k)
  have tl2 : ∀ t, Steps p.tables e below (s₁.setTop (mkF m 10 #[.val (.int ux), .val (.int wx)] [(.int (if wx < ux then wx else ux))])) t → Steps p.tables e below (s₁.setTop (mkF m 2 #[.val (.int ux), .val (.int wx)] [(.int wx), (.int ux)])) t := fun t k => by
    by_cases hb1 : wx < ux
    · refine XS.icmpYes X0.here hx rfl (pc0 := 2) (pc' := 9) rfl (hb hby d14_2) rfl (tlt hb1).2.2.1 (by decide) (by decide) ?_
      rw [show (if wx < ux then wx else ux) = wx from if_pos hb1] at k
      show Steps p.tables e below (s₁.setTop (mkF m 9 #[.val (.int ux), .val (.int wx)] [])) _
      refine XS.iloadN X0.here hx rfl (hb hby d14_9) rfl ?_
      exact k
    · refine XS.icmpNo X0.here hx rfl (hb hby d14_2) rfl (flt hb1).2.2.1 ?_
      rw [show (if wx < ux then wx else ux) = ux from if_neg hb1] at k
      show Steps p.tables e below (s₁.setTop (mkF m 5 #[.val (.int ux), .val (.int wx)] [])) _
      refine XS.iloadN X0.here hx rfl (hb hby d14_5) rfl ?_
      refine XS.goto X0.here hx rfl (pc0 := 6) (pc' := 10) rfl (hb hby d14_6) (by decide) (by decide) ?_
      exact k
  have pre4 : ∀ t, Steps p.tables e below (s₁.setTop (mkF m 10 #[.val (.int ux), .val (.int wx)] [(.int (if wx < ux then wx else ux))])) t → Steps p.tables e below (s₁.setTop (entryFrame m #[(.int ux), (.int wx)] 2)) t := fun t k => pre3 t (by
    exact tl2 t k)
  obtain ⟨fs, hr, hrun, hended, hW, hsame⟩ := X0.leave (v := some (.int (if wx < ux then wx else ux))) (fun h => by rw [Bd.returns] at h; cases h)
  refine ⟨_, _, pre4 _ ?_, hrun, hended, _, _, rfl, ?_, ⟨_, rfl⟩, hW, hsame.mono (by decide) (by decide)⟩
  · show Steps p.tables e below (s₁.setTop (mkF m 10 #[.val (.int ux), .val (.int wx)] [(.int (if wx < ux then wx else ux))])) _
    exact Jvm.Own.retI X0 hx Bd.returns (hb hby d14_10) hr
  · show Q14 Z ux wx n0 Rst _ s₁.heap _
    rw [e0]
    exact ⟨(by rfl), N0, R0⟩
def L4 (x : Int32) : Prop := x = 0 ∨ x = 1 ∨ x = 2 ∨ x = 3
def L2 (x : Int32) : Prop := x = 0 ∨ x = 1
def zb (x : Int32) : List Value := List.replicate x.toNatClampNeg (Value.int (0 : Int32))
theorem own_l4 {v k : Int32} (h : v = (k &&& (3 : Int32))) : L4 v := by
  subst h
  have e : ni (k &&& (3 : Int32)) = ni k % 4 := by rw [ni_and, show ni (3 : Int32) = 2 ^ 2 - 1 from rfl, mask_n]
  rw [← ofni (k &&& (3 : Int32)), e]
  have : ni k % 4 = 0 ∨ ni k % 4 = 1 ∨ ni k % 4 = 2 ∨ ni k % 4 = 3 := by omega
  rcases this with q | q | q | q <;> rw [q]
  · exact Or.inl rfl
  · exact Or.inr (Or.inl rfl)
  · exact Or.inr (Or.inr (Or.inl rfl))
  · exact Or.inr (Or.inr (Or.inr rfl))
theorem own_l2 {v k : Int32} (h : v = (k &&& (1 : Int32))) : L2 v := by
  subst h
  have e : ni (k &&& (1 : Int32)) = ni k % 2 := by rw [ni_and, show ni (1 : Int32) = 2 ^ 1 - 1 from rfl, mask_n]
  rw [← ofni (k &&& (1 : Int32)), e]
  have : ni k % 2 = 0 ∨ ni k % 2 = 1 := by omega
  rcases this with q | q <;> rw [q]
  · exact Or.inl rfl
  · exact Or.inr rfl
theorem own_l255 {lv : Int32} (hL : L4 lv) : (lv &&& (255 : Int32)) = lv := by
  rcases hL with rfl | rfl | rfl | rfl <;> first | rfl | decide
theorem own_l128 {lv : Int32} (hL : L4 lv) : lv < (128 : Int32) := by
  rcases hL with rfl | rfl | rfl | rfl <;> first | rfl | decide
theorem own_bb {lv : Int32} (hL : L4 lv) : ((lv.toInt8.toInt32).toInt8.toInt32) = lv := by
  rcases hL with rfl | rfl | rfl | rfl <;> first | rfl | decide
theorem own_A0 {lv : Int32} {xv : Int32} {tq : Int32} (hL : L4 lv) (hX : L2 xv) (ht : tq = (((2 : Int32) + lv) + xv)) : F3 (0 : Int32) tq = 0 := by
  subst ht
  rcases hL with rfl | rfl | rfl | rfl <;> rcases hX with rfl | rfl <;> first | rfl | decide
theorem own_A1 {lv : Int32} {xv : Int32} {tq : Int32} (hL : L4 lv) (hX : L2 xv) (ht : tq = (((2 : Int32) + lv) + xv)) : F3 (1 : Int32) tq = 0 := by
  subst ht
  rcases hL with rfl | rfl | rfl | rfl <;> rcases hX with rfl | rfl <;> first | rfl | decide
theorem own_B {lv : Int32} {xv : Int32} {tq : Int32} (hL : L4 lv) (hX : L2 xv) (ht : tq = (((2 : Int32) + lv) + xv)) : ¬ ((tq - (2 : Int32)) < lv) := by
  subst ht
  rcases hL with rfl | rfl | rfl | rfl <;> rcases hX with rfl | rfl <;> first | rfl | decide
theorem own_C {lv : Int32} {xv : Int32} {tq : Int32} (hL : L4 lv) (hX : L2 xv) (ht : tq = (((2 : Int32) + lv) + xv)) : F3 ((2 : Int32) + lv) tq = bz (xv = (0 : Int32)) := by
  subst ht
  rcases hL with rfl | rfl | rfl | rfl <;> rcases hX with rfl | rfl <;> first | rfl | decide
theorem own_D {lv : Int32} (hL : L4 lv) : F3 (2 : Int32) ((2 : Int32) + lv) = bz (lv = (0 : Int32)) := by
  rcases hL with rfl | rfl | rfl | rfl <;> first | rfl | decide
theorem own_E {lv : Int32} {xv : Int32} {tq : Int32} (hL : L4 lv) (hX : L2 xv) (ht : tq = (((2 : Int32) + lv) + xv)) : ¬ (F3 tq tq = 0) := by
  subst ht
  rcases hL with rfl | rfl | rfl | rfl <;> rcases hX with rfl | rfl <;> first | rfl | decide
theorem own_G {xv : Int32} (hX : L2 xv) : (Int32.ofNat ((zb xv)).length) = xv := by
  rcases hX with rfl | rfl <;> first | rfl | decide
theorem own_ck {lv : Int32} {xv : Int32} {fq : Int32} {tq : Int32} (hL : L4 lv) (hX : L2 xv) (hf : fq = ((2 : Int32) + lv)) (ht : tq = (((2 : Int32) + lv) + xv)) : ¬ (tq < fq) := by
  subst hf
  subst ht
  rcases hL with rfl | rfl | rfl | rfl <;> rcases hX with rfl | rfl <;> first | rfl | decide
theorem own_len {lv : Int32} {xv : Int32} {fq : Int32} {tq : Int32} (hL : L4 lv) (hX : L2 xv) (hf : fq = ((2 : Int32) + lv)) (ht : tq = (((2 : Int32) + lv) + xv)) : (tq - fq) = xv := by
  subst hf
  subst ht
  rcases hL with rfl | rfl | rfl | rfl <;> rcases hX with rfl | rfl <;> first | rfl | decide
theorem own_xn {xv : Int32} (hX : L2 xv) : ¬ (xv < 0) := by
  rcases hX with rfl | rfl <;> first | rfl | decide
theorem own_xc {xv : Int32} (hX : L2 xv) : xv.toNatClampNeg ≤ 1 := by
  rcases hX with rfl | rfl <;> first | rfl | decide
theorem own_mn {lv : Int32} {xv : Int32} {fq : Int32} (hL : L4 lv) (hX : L2 xv) (hf : fq = ((2 : Int32) + lv)) : F14 ((6 : Int32) - fq) xv = xv := by
  subst hf
  rcases hL with rfl | rfl | rfl | rfl <;> rcases hX with rfl | rfl <;> first | rfl | decide
theorem own_zl {xv : Int32} (hX : L2 xv) : (zb xv).length < 2 ^ 31 := by
  rcases hX with rfl | rfl <;> first | rfl | decide
theorem own_f0 {lv : Int32} {fq : Int32} (hL : L4 lv) (hf : fq = ((2 : Int32) + lv)) : ¬ (fq < 0) := by
  subst hf
  rcases hL with rfl | rfl | rfl | rfl <;> first | rfl | decide
theorem own_h4 {lv : Int32} {xv : Int32} {fq : Int32} (hL : L4 lv) (hX : L2 xv) (hf : fq = ((2 : Int32) + lv)) : fq.toNatClampNeg + xv.toNatClampNeg ≤ 6 := by
  subst hf
  rcases hL with rfl | rfl | rfl | rfl <;> rcases hX with rfl | rfl <;> first | rfl | decide
theorem own_h5 {xv : Int32} (hX : L2 xv) : 0 + xv.toNatClampNeg ≤ (zb xv).length := by
  rcases hX with rfl | rfl <;> first | rfl | decide
theorem own_fn {lv : Int32} {fq : Int32} (hL : L4 lv) (hf : fq = ((2 : Int32) + lv)) : ¬ (fq = (0 : Int32)) := by
  subst hf
  rcases hL with rfl | rfl | rfl | rfl <;> first | rfl | decide
theorem own_cp {lv : Int32} {xv : Int32} {fq : Int32} (hL : L4 lv) (hX : L2 xv) (hf : fq = ((2 : Int32) + lv)) : (zb xv).take 0 ++ ([(.int (4 : Int32)), (.int lv), (.int (0 : Int32)), (.int (0 : Int32)), (.int (0 : Int32)), (.int (0 : Int32))].drop fq.toNatClampNeg).take xv.toNatClampNeg ++ (zb xv).drop (0 + xv.toNatClampNeg) = zb xv := by
  subst hf
  rcases hL with rfl | rfl | rfl | rfl <;> rcases hX with rfl | rfl <;> rfl
theorem d6_0 : decode prog_13_method_9_code 0 = .ok (.aload_n 0, 1) := by decide +kernel
theorem d6_1 : decode prog_13_method_9_code 1 = .ok (.invokevirtual 20, 3) := by decide +kernel
theorem pd__28_29Z : parseMethodDescriptor "()Z" = some ⟨[], some .boolean⟩ := by decide +kernel
theorem d6_4 : decode prog_13_method_9_code 4 = .ok (.ifCond .eq 14, 3) := by decide +kernel
theorem d6_18 : decode prog_13_method_9_code 18 = .ok (.aload_n 0, 1) := by decide +kernel
theorem d6_19 : decode prog_13_method_9_code 19 = .ok (.getfield 13, 3) := by decide +kernel
theorem d6_22 : decode prog_13_method_9_code 22 = .ok (.istore_n 2, 1) := by decide +kernel
theorem d6_23 : decode prog_13_method_9_code 23 = .ok (.aload_n 0, 1) := by decide +kernel
theorem d6_24 : decode prog_13_method_9_code 24 = .ok (.getfield 7, 3) := by decide +kernel
theorem d6_27 : decode prog_13_method_9_code 27 = .ok (.aload_n 0, 1) := by decide +kernel
theorem d6_28 : decode prog_13_method_9_code 28 = .ok (.dup, 1) := by decide +kernel
theorem d6_29 : decode prog_13_method_9_code 29 = .ok (.getfield 13, 3) := by decide +kernel
theorem d6_32 : decode prog_13_method_9_code 32 = .ok (.dup_x1, 1) := by decide +kernel
theorem d6_33 : decode prog_13_method_9_code 33 = .ok (.iconst 1, 1) := by decide +kernel
theorem d6_34 : decode prog_13_method_9_code 34 = .ok (.iadd, 1) := by decide +kernel
theorem d6_35 : decode prog_13_method_9_code 35 = .ok (.putfield 13, 3) := by decide +kernel
theorem d6_38 : decode prog_13_method_9_code 38 = .ok (.baload, 1) := by decide +kernel
theorem d6_39 : decode prog_13_method_9_code 39 = .ok (.sipush 255, 3) := by decide +kernel
theorem d6_42 : decode prog_13_method_9_code 42 = .ok (.iand, 1) := by decide +kernel
theorem d6_43 : decode prog_13_method_9_code 43 = .ok (.istore_n 3, 1) := by decide +kernel
theorem d6_44 : decode prog_13_method_9_code 44 = .ok (.iload_n 3, 1) := by decide +kernel
theorem d6_45 : decode prog_13_method_9_code 45 = .ok (.sipush 128, 3) := by decide +kernel
theorem d6_48 : decode prog_13_method_9_code 48 = .ok (.if_icmp .ge 9, 3) := by decide +kernel
theorem d6_51 : decode prog_13_method_9_code 51 = .ok (.iload_n 3, 1) := by decide +kernel
theorem d6_52 : decode prog_13_method_9_code 52 = .ok (.istore 4, 2) := by decide +kernel
theorem d6_54 : decode prog_13_method_9_code 54 = .ok (.goto 125, 3) := by decide +kernel
theorem d6_179 : decode prog_13_method_9_code 179 = .ok (.iload 4, 2) := by decide +kernel
theorem d6_181 : decode prog_13_method_9_code 181 = .ok (.ireturn, 1) := by decide +kernel
theorem ef_6 (m : MethodId) (x0 : Addr) (x1 : Addr) : entryFrame m #[(.ref x0), (.ref x1)] 7 = mkF m 0 #[.val (.ref x0), .val (.ref x1), .unset, .unset, .unset, .unset, .unset] [] := by first | (simp [entryFrame, mkF, argsToLocals, Value.category]; done) | rfl
def Q6 (Z : State) (ax : Addr) (sx : Addr) (bx : Addr) (zq : Int32) (lv : Int32) (n0 : Nat × Nat) (Rst : RL) (v : Option Value) (h : Heap) (L : List Loc) : Prop := v = some (.int lv) ∧ Fr n0.1 L ∧ Rep Z n0 h ((ax, Obj "com/example/sidetrack/sidetrack/codec/BerReader" [("bytes", "[B", (.ref bx)), ("position", "I", (.int (2 : Int32))), ("end", "I", (.int zq))]) :: (bx, Ar .byte [(.int (4 : Int32)), (.int lv), (.int (0 : Int32)), (.int (0 : Int32)), (.int (0 : Int32)), (.int (0 : Int32))]) :: Rst)
set_option maxRecDepth 65536 in
set_option maxHeartbeats 40000000 in
theorem rm6 (l : Launch) (Z : State) (a0 : Array Value) (hw : ∀ d ∈ tables_1, d.before a0 Z = true) (ws : List Jvm.Cond) (ax : Addr) (sx : Addr) (bx : Addr) (zq : Int32) (lv : Int32) (h0 : Heap) (n0 : Nat × Nat) (Rst : RL) (R0 : Rep Z n0 h0 ((ax, Obj "com/example/sidetrack/sidetrack/codec/BerReader" [("bytes", "[B", (.ref bx)), ("position", "I", (.int (1 : Int32))), ("end", "I", (.int zq))]) :: (bx, Ar .byte [(.int (4 : Int32)), (.int lv), (.int (0 : Int32)), (.int (0 : Int32)), (.int (0 : Int32)), (.int (0 : Int32))]) :: Rst)) (hL : L4 lv) (hA : F3 (1 : Int32) zq = 0) :
    MetFree l (⟨"com/example/sidetrack/sidetrack/codec/BerReader", "readLength", "(Ljava/lang/String;)I"⟩ : MethodName) (head1 (Jvm.Cond.code (⟨"com/example/sidetrack/sidetrack/codec/BerReader", "readLength", "(Ljava/lang/String;)I"⟩ : MethodName) prog_13_method_9_code 7 (some .int) :: ws) ({ frames := 1, cells := 0, slots := 0, locals := 12 } : Room)) (fun a U => a = #[(.ref ax), (.ref sx)] ∧ Z.Warmed39 U.vm ∧ U.heap = h0) (fun _ _ _ _ _ => True) (fun _ U o U' => ∃ v L, o = .returned v ∧ Q6 Z ax sx bx zq lv n0 Rst v U'.heap L ∧ FrameEnd U o U' L ({ frames := 1, cells := 0, slots := 0, locals := 12 } : Room).cells ({ frames := 1, cells := 0, slots := 0, locals := 12 } : Room).slots) := by
  refine MetFree.of_bodySF (plainFor_of_name pn_com_example_sidetrack_sidetrack_codec_BerReader) hisR ?_
  intro p e s m args below meth c s₁ Bd hml0 hP hK
  obtain ⟨rfl, hZ, hh⟩ := hP
  have hx := Bd.exec
  have hby := Bd.bytes
  have hml : c.maxLocals = 7 := hml0
  have hown : s.vm.findClass "com/example/sidetrack/sidetrack/codec/BerReader" = some m.cls := findClass_of_methodNamed Bd.named
  have hnm := (name_of_methodNamed Bd.named Bd.method).1
  have X0 : Stand p l e ({ frames := 1, cells := 0, slots := 0, locals := 12 } : Room) s m #[(.ref ax), (.ref sx)] below meth c s₁ [] 0 0 := Stand.of_body Bd
  have e0 : s₁.heap = h0 := by rw [← hh, Bd.state]; rfl
  have N0 := Fr.nil n0.1
  have pre0 : ∀ t, Steps p.tables e below (s₁.setTop (mkF m 0 #[.val (.ref ax), .val (.ref sx), .unset, .unset, .unset, .unset, .unset] [])) t → Steps p.tables e below (s₁.setTop (entryFrame m #[(.ref ax), (.ref sx)] 7)) t := fun t k => castTop (ef_6 m ax sx) k
  have pre1 : ∀ t, Steps p.tables e below (s₁.setTop (mkF m 1 #[.val (.ref ax), .val (.ref sx), .unset, .unset, .unset, .unset, .unset] [(.ref ax)])) t → Steps p.tables e below (s₁.setTop (entryFrame m #[(.ref ax), (.ref sx)] 7)) t := fun t k => pre0 t (by
    show Steps p.tables e below (s₁.setTop (mkF m 0 #[.val (.ref ax), .val (.ref sx), .unset, .unset, .unset, .unset, .unset] [])) _
    refine XS.aloadN X0.here hx rfl (hb hby d6_0) rfl rfl ?_
    exact k)
  obtain ⟨cq2, kq2, q2a, q2b, q2c⟩ := isOf hZ e0 (R0.exa (i := 0) rfl)
  obtain ⟨_, _, ⟨T2, L2, k2, n2⟩, -, X2, ⟨Lc2, hQ2, l2, y2, z2⟩, st2⟩ := X0.virtualBack hx (y := (⟨"com/example/sidetrack/sidetrack/codec/BerReader", "atEnd", "()Z"⟩ : MethodName)) (z := (⟨"com/example/sidetrack/sidetrack/codec/BerReader", "atEnd", "()Z"⟩ : MethodName)) hown (mvT hZ (hw _ (List.mem_of_getElem? (i := 33) rfl))) (mvT hZ (hw _ (List.mem_of_getElem? (i := 17) rfl))) (notFace_of_selects (args := #[]) (mvT hZ (hw _ (List.mem_of_getElem? (i := 19) rfl)))) (mvT hZ (hw _ (List.mem_of_getElem? (i := 19) rfl))) (mvT hZ (hw _ (List.mem_of_getElem? (i := 18) rfl))) (by decide) (backOf (W := 0) (rm3 l Z a0 hw [] ax _ _ _ h0 n0 _ R0 ) hZ (hw _ (List.mem_of_getElem? (i := 20) rfl)) (hw _ (List.mem_of_getElem? (i := 3) rfl)) (by decide) (by decide)) q2a q2c (g := (mkF m 1 #[.val (.ref ax), .val (.ref sx), .unset, .unset, .unset, .unset, .unset] [(.ref ax)])) rfl (by rw [hml]; rfl) (Steps.refl _) (argsL := []) (rest := []) (lenOf pd__28_29Z rfl) rfl (by show 2 * 0 + _ ≤ _; exact Nat.le_of_eq rfl) (hb hby d6_1) (fun _ _ => ⟨rfl, e0, (by decide : 0 + 0 ≤ _), (by decide : 0 + 0 ≤ _)⟩)
  dsimp only [Pt.U, Pt.locs, Pt.cells, Pt.slots] at X2 l2 y2 z2 st2 hQ2
  subst y2 z2
  obtain ⟨rfl, N2q, R2⟩ := hQ2
  have N2 : Fr n0.1 L2 := by rw [l2]; exact Fr.app N0 N2q
  replace R2 : Rep Z n0 T2.heap ((ax, Obj "com/example/sidetrack/sidetrack/codec/BerReader" [("bytes", "[B", (.ref bx)), ("position", "I", (.int (1 : Int32))), ("end", "I", (.int zq))]) :: (bx, Ar .byte [(.int (4 : Int32)), (.int lv), (.int (0 : Int32)), (.int (0 : Int32)), (.int (0 : Int32)), (.int (0 : Int32))]) :: Rst) := R2
  have pre3 : ∀ t, Steps p.tables e below (T2.setTop (mkF m 4 #[.val (.ref ax), .val (.ref sx), .unset, .unset, .unset, .unset, .unset] [(.int (F3 (1 : Int32) zq))])) t → Steps p.tables e below (s₁.setTop (entryFrame m #[(.ref ax), (.ref sx)] 7)) t := fun t k => pre1 t (st2.trans k)
  have hb4 : (F3 (1 : Int32) zq) = (0 : Int32) := hA
  have pre5 : ∀ t, Steps p.tables e below (T2.setTop (mkF m 19 #[.val (.ref ax), .val (.ref sx), .unset, .unset, .unset, .unset, .unset] [(.ref ax)])) t → Steps p.tables e below (s₁.setTop (entryFrame m #[(.ref ax), (.ref sx)] 7)) t := fun t k => pre3 t (by
    show Steps p.tables e below (T2.setTop (mkF m 4 #[.val (.ref ax), .val (.ref sx), .unset, .unset, .unset, .unset, .unset] [(.int (F3 (1 : Int32) zq))])) _
    refine XS.ifYes X2.here hx rfl (pc0 := 4) (pc' := 18) rfl (hb hby d6_4) rfl ((if0 _ _).trans (teq hb4).1) (by decide) (by decide) ?_
    refine XS.aloadN X2.here hx rfl (hb hby d6_18) rfl rfl ?_
    exact k)
  obtain ⟨T6, X6, e6, st6⟩ := gGet X2 hx hZ hown (host := "") (Or.inl (hw _ (List.mem_of_getElem? (i := 12) rfl))) rfl R2 0 1 rfl rfl (g := (mkF m 19 #[.val (.ref ax), .val (.ref sx), .unset, .unset, .unset, .unset, .unset] [(.ref ax)])) rfl rfl (hb hby d6_19)
  have pre7 : ∀ t, Steps p.tables e below (T6.setTop (mkF m 22 #[.val (.ref ax), .val (.ref sx), .unset, .unset, .unset, .unset, .unset] [(.int (1 : Int32))])) t → Steps p.tables e below (s₁.setTop (entryFrame m #[(.ref ax), (.ref sx)] 7)) t := fun t k => pre5 t (st6 t k)
  have pre8 : ∀ t, Steps p.tables e below (T6.setTop (mkF m 24 #[.val (.ref ax), .val (.ref sx), .val (.int (1 : Int32)), .unset, .unset, .unset, .unset] [(.ref ax)])) t → Steps p.tables e below (s₁.setTop (entryFrame m #[(.ref ax), (.ref sx)] 7)) t := fun t k => pre7 t (by
    show Steps p.tables e below (T6.setTop (mkF m 22 #[.val (.ref ax), .val (.ref sx), .unset, .unset, .unset, .unset, .unset] [(.int (1 : Int32))])) _
    refine XS.istoreN X6.here hx rfl (hb hby d6_22) rfl (l' := #[.val (.ref ax), .val (.ref sx), .val (.int (1 : Int32)), .unset, .unset, .unset, .unset]) rfl ?_
    refine XS.aloadN X6.here hx rfl (hb hby d6_23) rfl rfl ?_
    exact k)
  obtain ⟨T9, X9, e9, st9⟩ := gGet X6 hx hZ hown (host := "") (Or.inl (hw _ (List.mem_of_getElem? (i := 10) rfl))) e6 R2 0 0 rfl rfl (g := (mkF m 24 #[.val (.ref ax), .val (.ref sx), .val (.int (1 : Int32)), .unset, .unset, .unset, .unset] [(.ref ax)])) rfl rfl (hb hby d6_24)
  have pre10 : ∀ t, Steps p.tables e below (T9.setTop (mkF m 27 #[.val (.ref ax), .val (.ref sx), .val (.int (1 : Int32)), .unset, .unset, .unset, .unset] [(.ref bx)])) t → Steps p.tables e below (s₁.setTop (entryFrame m #[(.ref ax), (.ref sx)] 7)) t := fun t k => pre8 t (st9 t k)
  have pre11 : ∀ t, Steps p.tables e below (T9.setTop (mkF m 29 #[.val (.ref ax), .val (.ref sx), .val (.int (1 : Int32)), .unset, .unset, .unset, .unset] [(.ref ax), (.ref ax), (.ref bx)])) t → Steps p.tables e below (s₁.setTop (entryFrame m #[(.ref ax), (.ref sx)] 7)) t := fun t k => pre10 t (by
    show Steps p.tables e below (T9.setTop (mkF m 27 #[.val (.ref ax), .val (.ref sx), .val (.int (1 : Int32)), .unset, .unset, .unset, .unset] [(.ref bx)])) _
    refine XS.aloadN X9.here hx rfl (hb hby d6_27) rfl rfl ?_
    refine XS.dup X9.here hx rfl (hb hby d6_28) rfl rfl ?_
    exact k)
  obtain ⟨T12, X12, e12, st12⟩ := gGet X9 hx hZ hown (host := "") (Or.inl (hw _ (List.mem_of_getElem? (i := 12) rfl))) e9 R2 0 1 rfl rfl (g := (mkF m 29 #[.val (.ref ax), .val (.ref sx), .val (.int (1 : Int32)), .unset, .unset, .unset, .unset] [(.ref ax), (.ref ax), (.ref bx)])) rfl rfl (hb hby d6_29)
  have pre13 : ∀ t, Steps p.tables e below (T12.setTop (mkF m 32 #[.val (.ref ax), .val (.ref sx), .val (.int (1 : Int32)), .unset, .unset, .unset, .unset] [(.int (1 : Int32)), (.ref ax), (.ref bx)])) t → Steps p.tables e below (s₁.setTop (entryFrame m #[(.ref ax), (.ref sx)] 7)) t := fun t k => pre11 t (st12 t k)
  have pre14 : ∀ t, Steps p.tables e below (T12.setTop (mkF m 35 #[.val (.ref ax), .val (.ref sx), .val (.int (1 : Int32)), .unset, .unset, .unset, .unset] [(.int (2 : Int32)), (.ref ax), (.int (1 : Int32)), (.ref bx)])) t → Steps p.tables e below (s₁.setTop (entryFrame m #[(.ref ax), (.ref sx)] 7)) t := fun t k => pre13 t (by
    show Steps p.tables e below (T12.setTop (mkF m 32 #[.val (.ref ax), .val (.ref sx), .val (.int (1 : Int32)), .unset, .unset, .unset, .unset] [(.int (1 : Int32)), (.ref ax), (.ref bx)])) _
    refine XS.dupX1 X12.here hx rfl (hb hby d6_32) rfl rfl rfl ?_
    refine XS.iconst X12.here hx rfl (hb hby d6_33) ?_
    refine XS.iadd X12.here hx rfl (hb hby d6_34) rfl ?_
    exact k)
  obtain ⟨T15, h15, ls15, X15, e15, N15, R15, st15⟩ := gPut X12 hx hZ hown (host := "") (Or.inl (hw _ (List.mem_of_getElem? (i := 12) rfl))) e12 N2 R2 0 1 rfl rfl (Or.inl (hw _ (List.mem_of_getElem? (i := 13) rfl))) (hw _ (List.mem_of_getElem? (i := 2) rfl)) (ty := .int) (by decide) rfl rfl (g := (mkF m 35 #[.val (.ref ax), .val (.ref sx), .val (.int (1 : Int32)), .unset, .unset, .unset, .unset] [(.int (2 : Int32)), (.ref ax), (.int (1 : Int32)), (.ref bx)])) rfl rfl (hb hby d6_35)
  replace R15 : Rep Z n0 h15 ((ax, Obj "com/example/sidetrack/sidetrack/codec/BerReader" [("bytes", "[B", (.ref bx)), ("position", "I", (.int (2 : Int32))), ("end", "I", (.int zq))]) :: (bx, Ar .byte [(.int (4 : Int32)), (.int lv), (.int (0 : Int32)), (.int (0 : Int32)), (.int (0 : Int32)), (.int (0 : Int32))]) :: Rst) := R15
  have pre16 : ∀ t, Steps p.tables e below (T15.setTop (mkF m 38 #[.val (.ref ax), .val (.ref sx), .val (.int (1 : Int32)), .unset, .unset, .unset, .unset] [(.int (1 : Int32)), (.ref bx)])) t → Steps p.tables e below (s₁.setTop (entryFrame m #[(.ref ax), (.ref sx)] 7)) t := fun t k => pre14 t (st15 t k)
  have pre17 : ∀ t, Steps p.tables e below (T15.setTop (mkF m 43 #[.val (.ref ax), .val (.ref sx), .val (.int (1 : Int32)), .unset, .unset, .unset, .unset] [(.int (lv &&& (255 : Int32)))])) t → Steps p.tables e below (s₁.setTop (entryFrame m #[(.ref ax), (.ref sx)] 7)) t := fun t k => pre16 t (by
    show Steps p.tables e below (T15.setTop (mkF m 38 #[.val (.ref ax), .val (.ref sx), .val (.int (1 : Int32)), .unset, .unset, .unset, .unset] [(.int (1 : Int32)), (.ref bx)])) _
    refine gBald X15 hx hZ e15 R15 1 rfl (j := (1 : Int32)) (v := (.int lv)) (by decide) rfl (g := (mkF m 38 #[.val (.ref ax), .val (.ref sx), .val (.int (1 : Int32)), .unset, .unset, .unset, .unset] [(.int (1 : Int32)), (.ref bx)])) rfl rfl (hb hby d6_38) _ ?_
    refine XS.sipush X15.here hx rfl (hb hby d6_39) ?_
    refine XS.iand X15.here hx rfl (hb hby d6_42) rfl ?_
    exact k)
  rw [own_l255 hL] at pre17
  have pre19 : ∀ t, Steps p.tables e below (T15.setTop (mkF m 48 #[.val (.ref ax), .val (.ref sx), .val (.int (1 : Int32)), .val (.int lv), .unset, .unset, .unset] [(.int (128 : Int32)), (.int lv)])) t → Steps p.tables e below (s₁.setTop (entryFrame m #[(.ref ax), (.ref sx)] 7)) t := fun t k => pre17 t (by
    show Steps p.tables e below (T15.setTop (mkF m 43 #[.val (.ref ax), .val (.ref sx), .val (.int (1 : Int32)), .unset, .unset, .unset, .unset] [(.int lv)])) _
    refine XS.istoreN X15.here hx rfl (hb hby d6_43) rfl (l' := #[.val (.ref ax), .val (.ref sx), .val (.int (1 : Int32)), .val (.int lv), .unset, .unset, .unset]) rfl ?_
    refine XS.iloadN X15.here hx rfl (hb hby d6_44) rfl ?_
    refine XS.sipush X15.here hx rfl (hb hby d6_45) ?_
    exact k)
  have hb18 : lv < (128 : Int32) := own_l128 hL
  have pre20 : ∀ t, Steps p.tables e below (T15.setTop (mkF m 181 #[.val (.ref ax), .val (.ref sx), .val (.int (1 : Int32)), .val (.int lv), .val (.int lv), .unset, .unset] [(.int lv)])) t → Steps p.tables e below (s₁.setTop (entryFrame m #[(.ref ax), (.ref sx)] 7)) t := fun t k => pre19 t (by
    show Steps p.tables e below (T15.setTop (mkF m 48 #[.val (.ref ax), .val (.ref sx), .val (.int (1 : Int32)), .val (.int lv), .unset, .unset, .unset] [(.int (128 : Int32)), (.int lv)])) _
    refine XS.icmpNo X15.here hx rfl (hb hby d6_48) rfl (tlt hb18).2.1 ?_
    refine XS.iloadN X15.here hx rfl (hb hby d6_51) rfl ?_
    refine XS.istore X15.here hx rfl (hb hby d6_52) rfl (l' := #[.val (.ref ax), .val (.ref sx), .val (.int (1 : Int32)), .val (.int lv), .val (.int lv), .unset, .unset]) rfl ?_
    refine XS.goto X15.here hx rfl (pc0 := 54) (pc' := 179) rfl (hb hby d6_54) (by decide) (by decide) ?_
    refine XS.iload X15.here hx rfl (hb hby d6_179) rfl ?_
    exact k)
  obtain ⟨fs, hr, hrun, hended, hW, hsame⟩ := X15.leave (v := some (.int lv)) (fun h => by rw [Bd.returns] at h; cases h)
  refine ⟨_, _, pre20 _ ?_, hrun, hended, _, _, rfl, ?_, ⟨_, rfl⟩, hW, hsame.mono (by decide) (by decide)⟩
  · show Steps p.tables e below (T15.setTop (mkF m 181 #[.val (.ref ax), .val (.ref sx), .val (.int (1 : Int32)), .val (.int lv), .val (.int lv), .unset, .unset] [(.int lv)])) _
    exact Jvm.Own.retI X15 hx Bd.returns (hb hby d6_181) hr
  · show Q6 Z ax sx bx zq lv n0 Rst _ T15.heap _
    rw [e15]
    exact ⟨rfl, N15, R15⟩
theorem d7_0 : decode prog_14_method_1_code 0 = .ok (.aload_n 0, 1) := by decide +kernel
theorem d7_1 : decode prog_14_method_1_code 1 = .ok (.invokespecial 1, 3) := by decide +kernel
theorem pd__28_29V : parseMethodDescriptor "()V" = some ⟨[], none⟩ := by decide +kernel
theorem d7_4 : decode prog_14_method_1_code 4 = .ok (.aload_n 0, 1) := by decide +kernel
theorem d7_5 : decode prog_14_method_1_code 5 = .ok (.iload_n 1, 1) := by decide +kernel
theorem d7_6 : decode prog_14_method_1_code 6 = .ok (.putfield 7, 3) := by decide +kernel
theorem d7_9 : decode prog_14_method_1_code 9 = .ok (.aload_n 0, 1) := by decide +kernel
theorem d7_10 : decode prog_14_method_1_code 10 = .ok (.iload_n 2, 1) := by decide +kernel
theorem d7_11 : decode prog_14_method_1_code 11 = .ok (.putfield 13, 3) := by decide +kernel
theorem d7_14 : decode prog_14_method_1_code 14 = .ok (.aload_n 0, 1) := by decide +kernel
theorem d7_15 : decode prog_14_method_1_code 15 = .ok (.aload_n 3, 1) := by decide +kernel
theorem d7_16 : decode prog_14_method_1_code 16 = .ok (.putfield 16, 3) := by decide +kernel
theorem d7_19 : decode prog_14_method_1_code 19 = .ok (.return_, 1) := by decide +kernel
theorem pn_com_example_sidetrack_sidetrack_codec_BerReader_Element : plainName "com/example/sidetrack/sidetrack/codec/BerReader$Element" = true := by first | (simp [plainName, overriddenIn]; done) | decide +kernel
theorem ef_7 (m : MethodId) (x0 : Addr) (x1 : Int32) (x2 : Int32) (x3 : Addr) : entryFrame m #[(.ref x0), (.int x1), (.int x2), (.ref x3)] 4 = mkF m 0 #[.val (.ref x0), .val (.int x1), .val (.int x2), .val (.ref x3)] [] := by first | (simp [entryFrame, mkF, argsToLocals, Value.category]; done) | rfl
def Q7 (Z : State) (ax : Addr) (tq : Int32) (oq : Int32) (cx : Addr) (u1 : Value) (u2 : Value) (u3 : Value) (n0 : Nat × Nat) (Rst : RL) (v : Option Value) (h : Heap) (L : List Loc) : Prop := v = none ∧ Fr n0.1 L ∧ Rep Z n0 h ((ax, Obj "com/example/sidetrack/sidetrack/codec/BerReader$Element" [("tag", "I", (.int tq)), ("offset", "I", (.int oq)), ("contents", "Lcom/example/sidetrack/sidetrack/codec/BerReader;", (.ref cx))]) :: Rst)
set_option maxRecDepth 65536 in
set_option maxHeartbeats 40000000 in
theorem rm7 (l : Launch) (Z : State) (a0 : Array Value) (hw : ∀ d ∈ tables_1, d.before a0 Z = true) (ws : List Jvm.Cond) (ax : Addr) (tq : Int32) (oq : Int32) (cx : Addr) (u1 : Value) (u2 : Value) (u3 : Value) (h0 : Heap) (n0 : Nat × Nat) (Rst : RL) (R0 : Rep Z n0 h0 ((ax, Obj "com/example/sidetrack/sidetrack/codec/BerReader$Element" [("tag", "I", u1), ("offset", "I", u2), ("contents", "Lcom/example/sidetrack/sidetrack/codec/BerReader;", u3)]) :: Rst)) :
    MetFree l (⟨"com/example/sidetrack/sidetrack/codec/BerReader$Element", "<init>", "(IILcom/example/sidetrack/sidetrack/codec/BerReader;)V"⟩ : MethodName) (head1 (Jvm.Cond.code (⟨"com/example/sidetrack/sidetrack/codec/BerReader$Element", "<init>", "(IILcom/example/sidetrack/sidetrack/codec/BerReader;)V"⟩ : MethodName) prog_14_method_1_code 4 none :: ws) ({ frames := 2, cells := 0, slots := 0, locals := 24 } : Room)) (fun a U => a = #[(.ref ax), (.int tq), (.int oq), (.ref cx)] ∧ Z.Warmed39 U.vm ∧ U.heap = h0) (fun _ _ _ _ _ => True) (fun _ U o U' => ∃ v L, o = .returned v ∧ Q7 Z ax tq oq cx u1 u2 u3 n0 Rst v U'.heap L ∧ FrameEnd U o U' L ({ frames := 2, cells := 0, slots := 0, locals := 24 } : Room).cells ({ frames := 2, cells := 0, slots := 0, locals := 24 } : Room).slots) := by
  refine MetFree.of_bodySF (plainFor_of_name pn_com_example_sidetrack_sidetrack_codec_BerReader_Element) hisR ?_
  intro p e s m args below meth c s₁ Bd hml0 hP hK
  obtain ⟨rfl, hZ, hh⟩ := hP
  have hx := Bd.exec
  have hby := Bd.bytes
  have hml : c.maxLocals = 4 := hml0
  have hown : s.vm.findClass "com/example/sidetrack/sidetrack/codec/BerReader$Element" = some m.cls := findClass_of_methodNamed Bd.named
  have hnm := (name_of_methodNamed Bd.named Bd.method).1
  have X0 : Stand p l e ({ frames := 2, cells := 0, slots := 0, locals := 24 } : Room) s m #[(.ref ax), (.int tq), (.int oq), (.ref cx)] below meth c s₁ [] 0 0 := Stand.of_body Bd
  have e0 : s₁.heap = h0 := by rw [← hh, Bd.state]; rfl
  have N0 := Fr.nil n0.1
  have pre0 : ∀ t, Steps p.tables e below (s₁.setTop (mkF m 0 #[.val (.ref ax), .val (.int tq), .val (.int oq), .val (.ref cx)] [])) t → Steps p.tables e below (s₁.setTop (entryFrame m #[(.ref ax), (.int tq), (.int oq), (.ref cx)] 4)) t := fun t k => castTop (ef_7 m ax tq oq cx) k
  have pre1 : ∀ t, Steps p.tables e below (s₁.setTop (mkF m 1 #[.val (.ref ax), .val (.int tq), .val (.int oq), .val (.ref cx)] [(.ref ax)])) t → Steps p.tables e below (s₁.setTop (entryFrame m #[(.ref ax), (.int tq), (.int oq), (.ref cx)] 4)) t := fun t k => pre0 t (by
    show Steps p.tables e below (s₁.setTop (mkF m 0 #[.val (.ref ax), .val (.int tq), .val (.int oq), .val (.ref cx)] [])) _
    refine XS.aloadN X0.here hx rfl (hb hby d7_0) rfl rfl ?_
    exact k)
  obtain ⟨_, _, ⟨T2, L2, k2, n2⟩, -, X2, ⟨Lc2, hQ2, l2, y2, z2⟩, st2⟩ := X0.specialBack hx (y := (⟨"java/lang/Record", "<init>", "()V"⟩ : MethodName)) rfl hown (mvT hZ (hw _ (List.mem_of_getElem? (i := 51) rfl))) (mvT hZ (hw _ (List.mem_of_getElem? (i := 52) rfl))) (mvT hZ (hw _ (List.mem_of_getElem? (i := 55) rfl))) (by decide) (backOf (W := 0) (rm8 l Z a0 hw [] ax  h0 n0 _ R0 ) hZ (hw _ (List.mem_of_getElem? (i := 55) rfl)) (hw _ (List.mem_of_getElem? (i := 54) rfl)) (by decide) (by decide)) (g := (mkF m 1 #[.val (.ref ax), .val (.int tq), .val (.int oq), .val (.ref cx)] [(.ref ax)])) rfl (by rw [hml]; rfl) (Steps.refl _) (a := ax) (argsL := []) (rest := []) (lenOf pd__28_29V rfl) rfl (by show 2 * 0 + _ ≤ _; exact Nat.le_of_eq rfl) (hb hby d7_1) (fun _ _ => ⟨rfl, e0, (by decide : 0 + 0 ≤ _), (by decide : 0 + 0 ≤ _)⟩)
  dsimp only [Pt.U, Pt.locs, Pt.cells, Pt.slots] at X2 l2 y2 z2 st2 hQ2
  subst y2 z2
  obtain ⟨rfl, N2q, R2⟩ := hQ2
  have N2 : Fr n0.1 L2 := by rw [l2]; exact Fr.app N0 N2q
  replace R2 : Rep Z n0 T2.heap ((ax, Obj "com/example/sidetrack/sidetrack/codec/BerReader$Element" [("tag", "I", u1), ("offset", "I", u2), ("contents", "Lcom/example/sidetrack/sidetrack/codec/BerReader;", u3)]) :: Rst) := R2
  have pre3 : ∀ t, Steps p.tables e below (T2.setTop (mkF m 4 #[.val (.ref ax), .val (.int tq), .val (.int oq), .val (.ref cx)] [])) t → Steps p.tables e below (s₁.setTop (entryFrame m #[(.ref ax), (.int tq), (.int oq), (.ref cx)] 4)) t := fun t k => pre1 t (st2.trans k)
  have pre4 : ∀ t, Steps p.tables e below (T2.setTop (mkF m 6 #[.val (.ref ax), .val (.int tq), .val (.int oq), .val (.ref cx)] [(.int tq), (.ref ax)])) t → Steps p.tables e below (s₁.setTop (entryFrame m #[(.ref ax), (.int tq), (.int oq), (.ref cx)] 4)) t := fun t k => pre3 t (by
    show Steps p.tables e below (T2.setTop (mkF m 4 #[.val (.ref ax), .val (.int tq), .val (.int oq), .val (.ref cx)] [])) _
    refine XS.aloadN X2.here hx rfl (hb hby d7_4) rfl rfl ?_
    refine XS.iloadN X2.here hx rfl (hb hby d7_5) rfl ?_
    exact k)
  obtain ⟨T5, h5, ls5, X5, e5, N5, R5, st5⟩ := gPut X2 hx hZ hown (host := "") (Or.inl (hw _ (List.mem_of_getElem? (i := 57) rfl))) rfl N2 R2 0 0 rfl rfl (Or.inr ⟨(hw _ (List.mem_of_getElem? (i := 58) rfl)), rfl, hnm⟩) (hw _ (List.mem_of_getElem? (i := 46) rfl)) (ty := .int) (by decide) rfl rfl (g := (mkF m 6 #[.val (.ref ax), .val (.int tq), .val (.int oq), .val (.ref cx)] [(.int tq), (.ref ax)])) rfl rfl (hb hby d7_6)
  replace R5 : Rep Z n0 h5 ((ax, Obj "com/example/sidetrack/sidetrack/codec/BerReader$Element" [("tag", "I", (.int tq)), ("offset", "I", u2), ("contents", "Lcom/example/sidetrack/sidetrack/codec/BerReader;", u3)]) :: Rst) := R5
  have pre6 : ∀ t, Steps p.tables e below (T5.setTop (mkF m 9 #[.val (.ref ax), .val (.int tq), .val (.int oq), .val (.ref cx)] [])) t → Steps p.tables e below (s₁.setTop (entryFrame m #[(.ref ax), (.int tq), (.int oq), (.ref cx)] 4)) t := fun t k => pre4 t (st5 t k)
  have pre7 : ∀ t, Steps p.tables e below (T5.setTop (mkF m 11 #[.val (.ref ax), .val (.int tq), .val (.int oq), .val (.ref cx)] [(.int oq), (.ref ax)])) t → Steps p.tables e below (s₁.setTop (entryFrame m #[(.ref ax), (.int tq), (.int oq), (.ref cx)] 4)) t := fun t k => pre6 t (by
    show Steps p.tables e below (T5.setTop (mkF m 9 #[.val (.ref ax), .val (.int tq), .val (.int oq), .val (.ref cx)] [])) _
    refine XS.aloadN X5.here hx rfl (hb hby d7_9) rfl rfl ?_
    refine XS.iloadN X5.here hx rfl (hb hby d7_10) rfl ?_
    exact k)
  obtain ⟨T8, h8, ls8, X8, e8, N8, R8, st8⟩ := gPut X5 hx hZ hown (host := "") (Or.inl (hw _ (List.mem_of_getElem? (i := 59) rfl))) e5 N5 R5 0 1 rfl rfl (Or.inr ⟨(hw _ (List.mem_of_getElem? (i := 60) rfl)), rfl, hnm⟩) (hw _ (List.mem_of_getElem? (i := 46) rfl)) (ty := .int) (by decide) rfl rfl (g := (mkF m 11 #[.val (.ref ax), .val (.int tq), .val (.int oq), .val (.ref cx)] [(.int oq), (.ref ax)])) rfl rfl (hb hby d7_11)
  replace R8 : Rep Z n0 h8 ((ax, Obj "com/example/sidetrack/sidetrack/codec/BerReader$Element" [("tag", "I", (.int tq)), ("offset", "I", (.int oq)), ("contents", "Lcom/example/sidetrack/sidetrack/codec/BerReader;", u3)]) :: Rst) := R8
  have pre9 : ∀ t, Steps p.tables e below (T8.setTop (mkF m 14 #[.val (.ref ax), .val (.int tq), .val (.int oq), .val (.ref cx)] [])) t → Steps p.tables e below (s₁.setTop (entryFrame m #[(.ref ax), (.int tq), (.int oq), (.ref cx)] 4)) t := fun t k => pre7 t (st8 t k)
  have pre10 : ∀ t, Steps p.tables e below (T8.setTop (mkF m 16 #[.val (.ref ax), .val (.int tq), .val (.int oq), .val (.ref cx)] [(.ref cx), (.ref ax)])) t → Steps p.tables e below (s₁.setTop (entryFrame m #[(.ref ax), (.int tq), (.int oq), (.ref cx)] 4)) t := fun t k => pre9 t (by
    show Steps p.tables e below (T8.setTop (mkF m 14 #[.val (.ref ax), .val (.int tq), .val (.int oq), .val (.ref cx)] [])) _
    refine XS.aloadN X8.here hx rfl (hb hby d7_14) rfl rfl ?_
    refine XS.aloadN X8.here hx rfl (hb hby d7_15) rfl rfl ?_
    exact k)
  obtain ⟨T11, h11, ls11, X11, e11, N11, R11, st11⟩ := gPut X8 hx hZ hown (host := "") (Or.inl (hw _ (List.mem_of_getElem? (i := 61) rfl))) e8 N8 R8 0 2 rfl rfl (Or.inr ⟨(hw _ (List.mem_of_getElem? (i := 62) rfl)), rfl, hnm⟩) (hw _ (List.mem_of_getElem? (i := 46) rfl)) (ty := (.object "com/example/sidetrack/sidetrack/codec/BerReader")) (by decide) rfl rfl (g := (mkF m 16 #[.val (.ref ax), .val (.int tq), .val (.int oq), .val (.ref cx)] [(.ref cx), (.ref ax)])) rfl rfl (hb hby d7_16)
  replace R11 : Rep Z n0 h11 ((ax, Obj "com/example/sidetrack/sidetrack/codec/BerReader$Element" [("tag", "I", (.int tq)), ("offset", "I", (.int oq)), ("contents", "Lcom/example/sidetrack/sidetrack/codec/BerReader;", (.ref cx))]) :: Rst) := R11
  have pre12 : ∀ t, Steps p.tables e below (T11.setTop (mkF m 19 #[.val (.ref ax), .val (.int tq), .val (.int oq), .val (.ref cx)] [])) t → Steps p.tables e below (s₁.setTop (entryFrame m #[(.ref ax), (.int tq), (.int oq), (.ref cx)] 4)) t := fun t k => pre10 t (st11 t k)
  obtain ⟨fs, hr, hrun, hended, hW, hsame⟩ := X11.leave (v := none) (fun _ => rfl)
  refine ⟨_, _, pre12 _ ?_, hrun, hended, _, _, rfl, ?_, ⟨_, rfl⟩, hW, hsame.mono (by decide) (by decide)⟩
  · show Steps p.tables e below (T11.setTop (mkF m 19 #[.val (.ref ax), .val (.int tq), .val (.int oq), .val (.ref cx)] [])) _
    exact X11.returnOut hx Bd.returns (hb hby d7_19) hr
  · show Q7 Z ax tq oq cx u1 u2 u3 n0 Rst _ T11.heap _
    rw [e11]
    exact ⟨rfl, N11, R11⟩
theorem d4_0 : decode prog_13_method_5_code 0 = .ok (.aload_n 0, 1) := by decide +kernel
theorem d4_1 : decode prog_13_method_5_code 1 = .ok (.invokevirtual 20, 3) := by decide +kernel
theorem d4_4 : decode prog_13_method_5_code 4 = .ok (.ifCond .eq 11, 3) := by decide +kernel
theorem d4_15 : decode prog_13_method_5_code 15 = .ok (.aload_n 0, 1) := by decide +kernel
theorem d4_16 : decode prog_13_method_5_code 16 = .ok (.invokevirtual 24, 3) := by decide +kernel
theorem pd__28_29I : parseMethodDescriptor "()I" = some ⟨[], some .int⟩ := by decide +kernel
theorem d4_19 : decode prog_13_method_5_code 19 = .ok (.bipush 31, 2) := by decide +kernel
theorem d4_21 : decode prog_13_method_5_code 21 = .ok (.iand, 1) := by decide +kernel
theorem d4_22 : decode prog_13_method_5_code 22 = .ok (.bipush 31, 2) := by decide +kernel
theorem d4_24 : decode prog_13_method_5_code 24 = .ok (.if_icmp .ne 28, 3) := by decide +kernel
theorem d4_52 : decode prog_13_method_5_code 52 = .ok (.aload_n 0, 1) := by decide +kernel
theorem d4_53 : decode prog_13_method_5_code 53 = .ok (.invokevirtual 24, 3) := by decide +kernel
theorem d4_56 : decode prog_13_method_5_code 56 = .ok (.istore_n 2, 1) := by decide +kernel
theorem d4_57 : decode prog_13_method_5_code 57 = .ok (.aload_n 0, 1) := by decide +kernel
theorem d4_58 : decode prog_13_method_5_code 58 = .ok (.dup, 1) := by decide +kernel
theorem d4_59 : decode prog_13_method_5_code 59 = .ok (.getfield 13, 3) := by decide +kernel
theorem d4_62 : decode prog_13_method_5_code 62 = .ok (.dup_x1, 1) := by decide +kernel
theorem d4_63 : decode prog_13_method_5_code 63 = .ok (.iconst 1, 1) := by decide +kernel
theorem d4_64 : decode prog_13_method_5_code 64 = .ok (.iadd, 1) := by decide +kernel
theorem d4_65 : decode prog_13_method_5_code 65 = .ok (.putfield 13, 3) := by decide +kernel
theorem d4_68 : decode prog_13_method_5_code 68 = .ok (.istore_n 3, 1) := by decide +kernel
theorem d4_69 : decode prog_13_method_5_code 69 = .ok (.aload_n 0, 1) := by decide +kernel
theorem d4_70 : decode prog_13_method_5_code 70 = .ok (.aload_n 1, 1) := by decide +kernel
theorem d4_71 : decode prog_13_method_5_code 71 = .ok (.invokevirtual 54, 3) := by decide +kernel
theorem pd__28Ljava_2flang_2fString_3b_29I : parseMethodDescriptor "(Ljava/lang/String;)I" = some ⟨[(.object "java/lang/String")], some .int⟩ := by decide +kernel
theorem d4_74 : decode prog_13_method_5_code 74 = .ok (.istore 4, 2) := by decide +kernel
theorem d4_76 : decode prog_13_method_5_code 76 = .ok (.iload 4, 2) := by decide +kernel
theorem d4_78 : decode prog_13_method_5_code 78 = .ok (.aload_n 0, 1) := by decide +kernel
theorem d4_79 : decode prog_13_method_5_code 79 = .ok (.getfield 17, 3) := by decide +kernel
theorem d4_82 : decode prog_13_method_5_code 82 = .ok (.aload_n 0, 1) := by decide +kernel
theorem d4_83 : decode prog_13_method_5_code 83 = .ok (.getfield 13, 3) := by decide +kernel
theorem d4_86 : decode prog_13_method_5_code 86 = .ok (.isub, 1) := by decide +kernel
theorem d4_87 : decode prog_13_method_5_code 87 = .ok (.if_icmp .le 20, 3) := by decide +kernel
theorem d4_107 : decode prog_13_method_5_code 107 = .ok (.new 8, 3) := by decide +kernel
theorem d4_110 : decode prog_13_method_5_code 110 = .ok (.dup, 1) := by decide +kernel
theorem d4_111 : decode prog_13_method_5_code 111 = .ok (.aload_n 0, 1) := by decide +kernel
theorem d4_112 : decode prog_13_method_5_code 112 = .ok (.getfield 7, 3) := by decide +kernel
theorem d4_115 : decode prog_13_method_5_code 115 = .ok (.aload_n 0, 1) := by decide +kernel
theorem d4_116 : decode prog_13_method_5_code 116 = .ok (.getfield 13, 3) := by decide +kernel
theorem d4_119 : decode prog_13_method_5_code 119 = .ok (.aload_n 0, 1) := by decide +kernel
theorem d4_120 : decode prog_13_method_5_code 120 = .ok (.getfield 13, 3) := by decide +kernel
theorem d4_123 : decode prog_13_method_5_code 123 = .ok (.iload 4, 2) := by decide +kernel
theorem d4_125 : decode prog_13_method_5_code 125 = .ok (.iadd, 1) := by decide +kernel
theorem d4_126 : decode prog_13_method_5_code 126 = .ok (.invokespecial 64, 3) := by decide +kernel
theorem pd__28_5bBII_29V : parseMethodDescriptor "([BII)V" = some ⟨[(.array .byte), .int, .int], none⟩ := by decide +kernel
theorem d4_129 : decode prog_13_method_5_code 129 = .ok (.astore 5, 2) := by decide +kernel
theorem d4_131 : decode prog_13_method_5_code 131 = .ok (.aload_n 0, 1) := by decide +kernel
theorem d4_132 : decode prog_13_method_5_code 132 = .ok (.dup, 1) := by decide +kernel
theorem d4_133 : decode prog_13_method_5_code 133 = .ok (.getfield 13, 3) := by decide +kernel
theorem d4_136 : decode prog_13_method_5_code 136 = .ok (.iload 4, 2) := by decide +kernel
theorem d4_138 : decode prog_13_method_5_code 138 = .ok (.iadd, 1) := by decide +kernel
theorem d4_139 : decode prog_13_method_5_code 139 = .ok (.putfield 13, 3) := by decide +kernel
theorem d4_142 : decode prog_13_method_5_code 142 = .ok (.new 67, 3) := by decide +kernel
theorem d4_145 : decode prog_13_method_5_code 145 = .ok (.dup, 1) := by decide +kernel
theorem d4_146 : decode prog_13_method_5_code 146 = .ok (.iload_n 2, 1) := by decide +kernel
theorem d4_147 : decode prog_13_method_5_code 147 = .ok (.iload_n 3, 1) := by decide +kernel
theorem d4_148 : decode prog_13_method_5_code 148 = .ok (.aload 5, 2) := by decide +kernel
theorem d4_150 : decode prog_13_method_5_code 150 = .ok (.invokespecial 69, 3) := by decide +kernel
theorem pd__28IILcom_2fexample_2fsidetrack_2fsidetrack_2fcodec_2fBerReader_3b_29V : parseMethodDescriptor "(IILcom/example/sidetrack/sidetrack/codec/BerReader;)V" = some ⟨[.int, .int, (.object "com/example/sidetrack/sidetrack/codec/BerReader")], none⟩ := by decide +kernel
theorem d4_153 : decode prog_13_method_5_code 153 = .ok (.areturn, 1) := by decide +kernel
theorem ef_4 (m : MethodId) (x0 : Addr) (x1 : Addr) : entryFrame m #[(.ref x0), (.ref x1)] 6 = mkF m 0 #[.val (.ref x0), .val (.ref x1), .unset, .unset, .unset, .unset] [] := by first | (simp [entryFrame, mkF, argsToLocals, Value.category]; done) | rfl
def Q4 (Z : State) (ax : Addr) (sx : Addr) (bx : Addr) (zq : Int32) (lv : Int32) (n0 : Nat × Nat) (Rst : RL) (v : Option Value) (h : Heap) (L : List Loc) : Prop := ∃ rx : Addr, ∃ cx : Addr, v = some (.ref rx) ∧ Fr n0.1 L ∧ Rep Z n0 h ((ax, Obj "com/example/sidetrack/sidetrack/codec/BerReader" [("bytes", "[B", (.ref bx)), ("position", "I", (.int ((2 : Int32) + lv))), ("end", "I", (.int zq))]) :: (bx, Ar .byte [(.int (4 : Int32)), (.int lv), (.int (0 : Int32)), (.int (0 : Int32)), (.int (0 : Int32)), (.int (0 : Int32))]) :: (rx, Obj "com/example/sidetrack/sidetrack/codec/BerReader$Element" [("tag", "I", (.int (4 : Int32))), ("offset", "I", (.int (0 : Int32))), ("contents", "Lcom/example/sidetrack/sidetrack/codec/BerReader;", (.ref cx))]) :: (cx, Obj "com/example/sidetrack/sidetrack/codec/BerReader" [("bytes", "[B", (.ref bx)), ("position", "I", (.int (2 : Int32))), ("end", "I", (.int ((2 : Int32) + lv)))]) :: Rst)
set_option maxRecDepth 65536 in
set_option maxHeartbeats 40000000 in
theorem rm4 (l : Launch) (Z : State) (a0 : Array Value) (hw : ∀ d ∈ tables_1, d.before a0 Z = true) (ws : List Jvm.Cond) (ax : Addr) (sx : Addr) (bx : Addr) (zq : Int32) (lv : Int32) (h0 : Heap) (n0 : Nat × Nat) (Rst : RL) (R0 : Rep Z n0 h0 ((ax, Obj "com/example/sidetrack/sidetrack/codec/BerReader" [("bytes", "[B", (.ref bx)), ("position", "I", (.int (0 : Int32))), ("end", "I", (.int zq))]) :: (bx, Ar .byte [(.int (4 : Int32)), (.int lv), (.int (0 : Int32)), (.int (0 : Int32)), (.int (0 : Int32)), (.int (0 : Int32))]) :: Rst)) (hL : L4 lv) (hA : F3 (0 : Int32) zq = 0) (hA1 : F3 (1 : Int32) zq = 0) (hB : ¬ ((zq - (2 : Int32)) < lv)) :
    MetFree l (⟨"com/example/sidetrack/sidetrack/codec/BerReader", "next", "(Ljava/lang/String;)Lcom/example/sidetrack/sidetrack/codec/BerReader$Element;"⟩ : MethodName) (head1 (Jvm.Cond.code (⟨"com/example/sidetrack/sidetrack/codec/BerReader", "next", "(Ljava/lang/String;)Lcom/example/sidetrack/sidetrack/codec/BerReader$Element;"⟩ : MethodName) prog_13_method_5_code 6 (some (.object "com/example/sidetrack/sidetrack/codec/BerReader$Element")) :: ws) ({ frames := 3, cells := 2, slots := 6, locals := 40 } : Room)) (fun a U => a = #[(.ref ax), (.ref sx)] ∧ Z.Warmed39 U.vm ∧ U.heap = h0) (fun _ _ _ _ _ => True) (fun _ U o U' => ∃ v L, o = .returned v ∧ Q4 Z ax sx bx zq lv n0 Rst v U'.heap L ∧ FrameEnd U o U' L ({ frames := 3, cells := 2, slots := 6, locals := 40 } : Room).cells ({ frames := 3, cells := 2, slots := 6, locals := 40 } : Room).slots) := by
  refine MetFree.of_bodySF (plainFor_of_name pn_com_example_sidetrack_sidetrack_codec_BerReader) hisR ?_
  intro p e s m args below meth c s₁ Bd hml0 hP hK
  obtain ⟨rfl, hZ, hh⟩ := hP
  have hx := Bd.exec
  have hby := Bd.bytes
  have hml : c.maxLocals = 6 := hml0
  have hown : s.vm.findClass "com/example/sidetrack/sidetrack/codec/BerReader" = some m.cls := findClass_of_methodNamed Bd.named
  have hnm := (name_of_methodNamed Bd.named Bd.method).1
  have X0 : Stand p l e ({ frames := 3, cells := 2, slots := 6, locals := 40 } : Room) s m #[(.ref ax), (.ref sx)] below meth c s₁ [] 0 0 := Stand.of_body Bd
  have e0 : s₁.heap = h0 := by rw [← hh, Bd.state]; rfl
  have N0 := Fr.nil n0.1
  have pre0 : ∀ t, Steps p.tables e below (s₁.setTop (mkF m 0 #[.val (.ref ax), .val (.ref sx), .unset, .unset, .unset, .unset] [])) t → Steps p.tables e below (s₁.setTop (entryFrame m #[(.ref ax), (.ref sx)] 6)) t := fun t k => castTop (ef_4 m ax sx) k
  have pre1 : ∀ t, Steps p.tables e below (s₁.setTop (mkF m 1 #[.val (.ref ax), .val (.ref sx), .unset, .unset, .unset, .unset] [(.ref ax)])) t → Steps p.tables e below (s₁.setTop (entryFrame m #[(.ref ax), (.ref sx)] 6)) t := fun t k => pre0 t (by
    show Steps p.tables e below (s₁.setTop (mkF m 0 #[.val (.ref ax), .val (.ref sx), .unset, .unset, .unset, .unset] [])) _
    refine XS.aloadN X0.here hx rfl (hb hby d4_0) rfl rfl ?_
    exact k)
  obtain ⟨cq2, kq2, q2a, q2b, q2c⟩ := isOf hZ e0 (R0.exa (i := 0) rfl)
  obtain ⟨_, _, ⟨T2, L2, k2, n2⟩, -, X2, ⟨Lc2, hQ2, l2, y2, z2⟩, st2⟩ := X0.virtualBack hx (y := (⟨"com/example/sidetrack/sidetrack/codec/BerReader", "atEnd", "()Z"⟩ : MethodName)) (z := (⟨"com/example/sidetrack/sidetrack/codec/BerReader", "atEnd", "()Z"⟩ : MethodName)) hown (mvT hZ (hw _ (List.mem_of_getElem? (i := 33) rfl))) (mvT hZ (hw _ (List.mem_of_getElem? (i := 17) rfl))) (notFace_of_selects (args := #[]) (mvT hZ (hw _ (List.mem_of_getElem? (i := 19) rfl)))) (mvT hZ (hw _ (List.mem_of_getElem? (i := 19) rfl))) (mvT hZ (hw _ (List.mem_of_getElem? (i := 18) rfl))) (by decide) (backOf (W := 0) (rm3 l Z a0 hw [] ax _ _ _ h0 n0 _ R0 ) hZ (hw _ (List.mem_of_getElem? (i := 20) rfl)) (hw _ (List.mem_of_getElem? (i := 3) rfl)) (by decide) (by decide)) q2a q2c (g := (mkF m 1 #[.val (.ref ax), .val (.ref sx), .unset, .unset, .unset, .unset] [(.ref ax)])) rfl (by rw [hml]; rfl) (Steps.refl _) (argsL := []) (rest := []) (lenOf pd__28_29Z rfl) rfl (by show 2 * 0 + _ ≤ _; exact Nat.le_of_eq rfl) (hb hby d4_1) (fun _ _ => ⟨rfl, e0, (by decide : 0 + 0 ≤ _), (by decide : 0 + 0 ≤ _)⟩)
  dsimp only [Pt.U, Pt.locs, Pt.cells, Pt.slots] at X2 l2 y2 z2 st2 hQ2
  subst y2 z2
  obtain ⟨rfl, N2q, R2⟩ := hQ2
  have N2 : Fr n0.1 L2 := by rw [l2]; exact Fr.app N0 N2q
  replace R2 : Rep Z n0 T2.heap ((ax, Obj "com/example/sidetrack/sidetrack/codec/BerReader" [("bytes", "[B", (.ref bx)), ("position", "I", (.int (0 : Int32))), ("end", "I", (.int zq))]) :: (bx, Ar .byte [(.int (4 : Int32)), (.int lv), (.int (0 : Int32)), (.int (0 : Int32)), (.int (0 : Int32)), (.int (0 : Int32))]) :: Rst) := R2
  have pre3 : ∀ t, Steps p.tables e below (T2.setTop (mkF m 4 #[.val (.ref ax), .val (.ref sx), .unset, .unset, .unset, .unset] [(.int (F3 (0 : Int32) zq))])) t → Steps p.tables e below (s₁.setTop (entryFrame m #[(.ref ax), (.ref sx)] 6)) t := fun t k => pre1 t (st2.trans k)
  have hb4 : (F3 (0 : Int32) zq) = (0 : Int32) := hA
  have pre5 : ∀ t, Steps p.tables e below (T2.setTop (mkF m 16 #[.val (.ref ax), .val (.ref sx), .unset, .unset, .unset, .unset] [(.ref ax)])) t → Steps p.tables e below (s₁.setTop (entryFrame m #[(.ref ax), (.ref sx)] 6)) t := fun t k => pre3 t (by
    show Steps p.tables e below (T2.setTop (mkF m 4 #[.val (.ref ax), .val (.ref sx), .unset, .unset, .unset, .unset] [(.int (F3 (0 : Int32) zq))])) _
    refine XS.ifYes X2.here hx rfl (pc0 := 4) (pc' := 15) rfl (hb hby d4_4) rfl ((if0 _ _).trans (teq hb4).1) (by decide) (by decide) ?_
    refine XS.aloadN X2.here hx rfl (hb hby d4_15) rfl rfl ?_
    exact k)
  obtain ⟨cq6, kq6, q6a, q6b, q6c⟩ := isOf hZ rfl (R2.exa (i := 0) rfl)
  obtain ⟨_, _, ⟨T6, L6, k6, n6⟩, -, X6, ⟨Lc6, hQ6, l6, y6, z6⟩, st6⟩ := X2.virtualBack hx (y := (⟨"com/example/sidetrack/sidetrack/codec/BerReader", "peekTag", "()I"⟩ : MethodName)) (z := (⟨"com/example/sidetrack/sidetrack/codec/BerReader", "peekTag", "()I"⟩ : MethodName)) hown (mvT hZ (hw _ (List.mem_of_getElem? (i := 34) rfl))) (mvT hZ (hw _ (List.mem_of_getElem? (i := 35) rfl))) (notFace_of_selects (args := #[]) (mvT hZ (hw _ (List.mem_of_getElem? (i := 37) rfl)))) (mvT hZ (hw _ (List.mem_of_getElem? (i := 37) rfl))) (mvT hZ (hw _ (List.mem_of_getElem? (i := 36) rfl))) (by decide) (backOf (W := 0) (rm5 l Z a0 hw [] ax _ _ _ T2.heap n0 _ R2 ) hZ (hw _ (List.mem_of_getElem? (i := 38) rfl)) (hw _ (List.mem_of_getElem? (i := 3) rfl)) (by decide) (by decide)) q6a q6c (g := (mkF m 16 #[.val (.ref ax), .val (.ref sx), .unset, .unset, .unset, .unset] [(.ref ax)])) rfl (by rw [hml]; rfl) (Steps.refl _) (argsL := []) (rest := []) (lenOf pd__28_29I rfl) rfl (by show 2 * 0 + _ ≤ _; exact Nat.le_of_eq rfl) (hb hby d4_16) (fun _ _ => ⟨rfl, rfl, (by decide : 0 + 0 ≤ _), (by decide : 0 + 0 ≤ _)⟩)
  dsimp only [Pt.U, Pt.locs, Pt.cells, Pt.slots] at X6 l6 y6 z6 st6 hQ6
  subst y6 z6
  obtain ⟨rfl, N6q, R6⟩ := hQ6
  have N6 : Fr n0.1 L6 := by rw [l6]; exact Fr.app N2 N6q
  replace R6 : Rep Z n0 T6.heap ((ax, Obj "com/example/sidetrack/sidetrack/codec/BerReader" [("bytes", "[B", (.ref bx)), ("position", "I", (.int (0 : Int32))), ("end", "I", (.int zq))]) :: (bx, Ar .byte [(.int (4 : Int32)), (.int lv), (.int (0 : Int32)), (.int (0 : Int32)), (.int (0 : Int32)), (.int (0 : Int32))]) :: Rst) := R6
  have pre7 : ∀ t, Steps p.tables e below (T6.setTop (mkF m 19 #[.val (.ref ax), .val (.ref sx), .unset, .unset, .unset, .unset] [(.int (4 : Int32))])) t → Steps p.tables e below (s₁.setTop (entryFrame m #[(.ref ax), (.ref sx)] 6)) t := fun t k => pre5 t (st6.trans k)
  have pre9 : ∀ t, Steps p.tables e below (T6.setTop (mkF m 24 #[.val (.ref ax), .val (.ref sx), .unset, .unset, .unset, .unset] [(.int (31 : Int32)), (.int (4 : Int32))])) t → Steps p.tables e below (s₁.setTop (entryFrame m #[(.ref ax), (.ref sx)] 6)) t := fun t k => pre7 t (by
    show Steps p.tables e below (T6.setTop (mkF m 19 #[.val (.ref ax), .val (.ref sx), .unset, .unset, .unset, .unset] [(.int (4 : Int32))])) _
    refine XS.bipush X6.here hx rfl (hb hby d4_19) ?_
    refine XS.iand X6.here hx rfl (hb hby d4_21) rfl ?_
    refine XS.bipush X6.here hx rfl (hb hby d4_22) ?_
    exact k)
  have hb8 : ¬ ((4 : Int32) = (31 : Int32)) := (by decide)
  have pre10 : ∀ t, Steps p.tables e below (T6.setTop (mkF m 53 #[.val (.ref ax), .val (.ref sx), .unset, .unset, .unset, .unset] [(.ref ax)])) t → Steps p.tables e below (s₁.setTop (entryFrame m #[(.ref ax), (.ref sx)] 6)) t := fun t k => pre9 t (by
    show Steps p.tables e below (T6.setTop (mkF m 24 #[.val (.ref ax), .val (.ref sx), .unset, .unset, .unset, .unset] [(.int (31 : Int32)), (.int (4 : Int32))])) _
    refine XS.icmpYes X6.here hx rfl (pc0 := 24) (pc' := 52) rfl (hb hby d4_24) rfl (feq hb8).2 (by decide) (by decide) ?_
    refine XS.aloadN X6.here hx rfl (hb hby d4_52) rfl rfl ?_
    exact k)
  obtain ⟨cq11, kq11, q11a, q11b, q11c⟩ := isOf hZ rfl (R6.exa (i := 0) rfl)
  obtain ⟨_, _, ⟨T11, L11, k11, n11⟩, -, X11, ⟨Lc11, hQ11, l11, y11, z11⟩, st11⟩ := X6.virtualBack hx (y := (⟨"com/example/sidetrack/sidetrack/codec/BerReader", "peekTag", "()I"⟩ : MethodName)) (z := (⟨"com/example/sidetrack/sidetrack/codec/BerReader", "peekTag", "()I"⟩ : MethodName)) hown (mvT hZ (hw _ (List.mem_of_getElem? (i := 34) rfl))) (mvT hZ (hw _ (List.mem_of_getElem? (i := 35) rfl))) (notFace_of_selects (args := #[]) (mvT hZ (hw _ (List.mem_of_getElem? (i := 37) rfl)))) (mvT hZ (hw _ (List.mem_of_getElem? (i := 37) rfl))) (mvT hZ (hw _ (List.mem_of_getElem? (i := 36) rfl))) (by decide) (backOf (W := 0) (rm5 l Z a0 hw [] ax _ _ _ T6.heap n0 _ R6 ) hZ (hw _ (List.mem_of_getElem? (i := 38) rfl)) (hw _ (List.mem_of_getElem? (i := 3) rfl)) (by decide) (by decide)) q11a q11c (g := (mkF m 53 #[.val (.ref ax), .val (.ref sx), .unset, .unset, .unset, .unset] [(.ref ax)])) rfl (by rw [hml]; rfl) (Steps.refl _) (argsL := []) (rest := []) (lenOf pd__28_29I rfl) rfl (by show 2 * 0 + _ ≤ _; exact Nat.le_of_eq rfl) (hb hby d4_53) (fun _ _ => ⟨rfl, rfl, (by decide : 0 + 0 ≤ _), (by decide : 0 + 0 ≤ _)⟩)
  dsimp only [Pt.U, Pt.locs, Pt.cells, Pt.slots] at X11 l11 y11 z11 st11 hQ11
  subst y11 z11
  obtain ⟨rfl, N11q, R11⟩ := hQ11
  have N11 : Fr n0.1 L11 := by rw [l11]; exact Fr.app N6 N11q
  replace R11 : Rep Z n0 T11.heap ((ax, Obj "com/example/sidetrack/sidetrack/codec/BerReader" [("bytes", "[B", (.ref bx)), ("position", "I", (.int (0 : Int32))), ("end", "I", (.int zq))]) :: (bx, Ar .byte [(.int (4 : Int32)), (.int lv), (.int (0 : Int32)), (.int (0 : Int32)), (.int (0 : Int32)), (.int (0 : Int32))]) :: Rst) := R11
  have pre12 : ∀ t, Steps p.tables e below (T11.setTop (mkF m 56 #[.val (.ref ax), .val (.ref sx), .unset, .unset, .unset, .unset] [(.int (4 : Int32))])) t → Steps p.tables e below (s₁.setTop (entryFrame m #[(.ref ax), (.ref sx)] 6)) t := fun t k => pre10 t (st11.trans k)
  have pre13 : ∀ t, Steps p.tables e below (T11.setTop (mkF m 59 #[.val (.ref ax), .val (.ref sx), .val (.int (4 : Int32)), .unset, .unset, .unset] [(.ref ax), (.ref ax)])) t → Steps p.tables e below (s₁.setTop (entryFrame m #[(.ref ax), (.ref sx)] 6)) t := fun t k => pre12 t (by
    show Steps p.tables e below (T11.setTop (mkF m 56 #[.val (.ref ax), .val (.ref sx), .unset, .unset, .unset, .unset] [(.int (4 : Int32))])) _
    refine XS.istoreN X11.here hx rfl (hb hby d4_56) rfl (l' := #[.val (.ref ax), .val (.ref sx), .val (.int (4 : Int32)), .unset, .unset, .unset]) rfl ?_
    refine XS.aloadN X11.here hx rfl (hb hby d4_57) rfl rfl ?_
    refine XS.dup X11.here hx rfl (hb hby d4_58) rfl rfl ?_
    exact k)
  obtain ⟨T14, X14, e14, st14⟩ := gGet X11 hx hZ hown (host := "") (Or.inl (hw _ (List.mem_of_getElem? (i := 12) rfl))) rfl R11 0 1 rfl rfl (g := (mkF m 59 #[.val (.ref ax), .val (.ref sx), .val (.int (4 : Int32)), .unset, .unset, .unset] [(.ref ax), (.ref ax)])) rfl rfl (hb hby d4_59)
  have pre15 : ∀ t, Steps p.tables e below (T14.setTop (mkF m 62 #[.val (.ref ax), .val (.ref sx), .val (.int (4 : Int32)), .unset, .unset, .unset] [(.int (0 : Int32)), (.ref ax)])) t → Steps p.tables e below (s₁.setTop (entryFrame m #[(.ref ax), (.ref sx)] 6)) t := fun t k => pre13 t (st14 t k)
  have pre16 : ∀ t, Steps p.tables e below (T14.setTop (mkF m 65 #[.val (.ref ax), .val (.ref sx), .val (.int (4 : Int32)), .unset, .unset, .unset] [(.int (1 : Int32)), (.ref ax), (.int (0 : Int32))])) t → Steps p.tables e below (s₁.setTop (entryFrame m #[(.ref ax), (.ref sx)] 6)) t := fun t k => pre15 t (by
    show Steps p.tables e below (T14.setTop (mkF m 62 #[.val (.ref ax), .val (.ref sx), .val (.int (4 : Int32)), .unset, .unset, .unset] [(.int (0 : Int32)), (.ref ax)])) _
    refine XS.dupX1 X14.here hx rfl (hb hby d4_62) rfl rfl rfl ?_
    refine XS.iconst X14.here hx rfl (hb hby d4_63) ?_
    refine XS.iadd X14.here hx rfl (hb hby d4_64) rfl ?_
    exact k)
  obtain ⟨T17, h17, ls17, X17, e17, N17, R17, st17⟩ := gPut X14 hx hZ hown (host := "") (Or.inl (hw _ (List.mem_of_getElem? (i := 12) rfl))) e14 N11 R11 0 1 rfl rfl (Or.inl (hw _ (List.mem_of_getElem? (i := 13) rfl))) (hw _ (List.mem_of_getElem? (i := 2) rfl)) (ty := .int) (by decide) rfl rfl (g := (mkF m 65 #[.val (.ref ax), .val (.ref sx), .val (.int (4 : Int32)), .unset, .unset, .unset] [(.int (1 : Int32)), (.ref ax), (.int (0 : Int32))])) rfl rfl (hb hby d4_65)
  replace R17 : Rep Z n0 h17 ((ax, Obj "com/example/sidetrack/sidetrack/codec/BerReader" [("bytes", "[B", (.ref bx)), ("position", "I", (.int (1 : Int32))), ("end", "I", (.int zq))]) :: (bx, Ar .byte [(.int (4 : Int32)), (.int lv), (.int (0 : Int32)), (.int (0 : Int32)), (.int (0 : Int32)), (.int (0 : Int32))]) :: Rst) := R17
  have pre18 : ∀ t, Steps p.tables e below (T17.setTop (mkF m 68 #[.val (.ref ax), .val (.ref sx), .val (.int (4 : Int32)), .unset, .unset, .unset] [(.int (0 : Int32))])) t → Steps p.tables e below (s₁.setTop (entryFrame m #[(.ref ax), (.ref sx)] 6)) t := fun t k => pre16 t (st17 t k)
  have pre19 : ∀ t, Steps p.tables e below (T17.setTop (mkF m 71 #[.val (.ref ax), .val (.ref sx), .val (.int (4 : Int32)), .val (.int (0 : Int32)), .unset, .unset] [(.ref sx), (.ref ax)])) t → Steps p.tables e below (s₁.setTop (entryFrame m #[(.ref ax), (.ref sx)] 6)) t := fun t k => pre18 t (by
    show Steps p.tables e below (T17.setTop (mkF m 68 #[.val (.ref ax), .val (.ref sx), .val (.int (4 : Int32)), .unset, .unset, .unset] [(.int (0 : Int32))])) _
    refine XS.istoreN X17.here hx rfl (hb hby d4_68) rfl (l' := #[.val (.ref ax), .val (.ref sx), .val (.int (4 : Int32)), .val (.int (0 : Int32)), .unset, .unset]) rfl ?_
    refine XS.aloadN X17.here hx rfl (hb hby d4_69) rfl rfl ?_
    refine XS.aloadN X17.here hx rfl (hb hby d4_70) rfl rfl ?_
    exact k)
  obtain ⟨cq20, q20, q20'⟩ := (R17.exa (i := 0) rfl).cell
  obtain ⟨_, _, ⟨T20, L20, k20, n20⟩, -, X20, ⟨Lc20, hQ20, l20, y20, z20⟩, st20⟩ := X17.privateBack hx (y := (⟨"com/example/sidetrack/sidetrack/codec/BerReader", "readLength", "(Ljava/lang/String;)I"⟩ : MethodName)) hown (mvT hZ (hw _ (List.mem_of_getElem? (i := 39) rfl))) (mvT hZ (hw _ (List.mem_of_getElem? (i := 40) rfl))) (sel_priv (mvT hZ (hw _ (List.mem_of_getElem? (i := 19) rfl))) rfl (Cond.privateMethod_at (mvP hZ (hw _ (List.mem_of_getElem? (i := 41) rfl)) (args := #[]))) (mvT hZ (hw _ (List.mem_of_getElem? (i := 40) rfl))) (by decide)) (Cond.privateMethod_at (mvP hZ (hw _ (List.mem_of_getElem? (i := 41) rfl)) (args := #[]))) (mvT hZ (hw _ (List.mem_of_getElem? (i := 42) rfl))) (by decide) (backOf (W := 0) (rm6 l Z a0 hw [] ax sx _ _ _ h17 n0 _ R17 (hL) (hA1)) hZ (hw _ (List.mem_of_getElem? (i := 42) rfl)) (hw _ (List.mem_of_getElem? (i := 3) rfl)) (by decide) (by decide)) (g := (mkF m 71 #[.val (.ref ax), .val (.ref sx), .val (.int (4 : Int32)), .val (.int (0 : Int32)), .unset, .unset] [(.ref sx), (.ref ax)])) rfl (by rw [hml]; rfl) (Steps.refl _) (a := ax) (by rw [e17]; exact q20) q20' (argsL := [(.ref sx)]) (rest := []) (lenOf pd__28Ljava_2flang_2fString_3b_29I rfl) rfl (by show 2 * 0 + _ ≤ _; exact Nat.le_of_eq rfl) (hb hby d4_71) (fun _ _ => ⟨rfl, e17, (by decide : 0 + 0 ≤ _), (by decide : 0 + 0 ≤ _)⟩)
  dsimp only [Pt.U, Pt.locs, Pt.cells, Pt.slots] at X20 l20 y20 z20 st20 hQ20
  subst y20 z20
  obtain ⟨rfl, N20q, R20⟩ := hQ20
  have N20 : Fr n0.1 L20 := by rw [l20]; exact Fr.app N17 N20q
  replace R20 : Rep Z n0 T20.heap ((ax, Obj "com/example/sidetrack/sidetrack/codec/BerReader" [("bytes", "[B", (.ref bx)), ("position", "I", (.int (2 : Int32))), ("end", "I", (.int zq))]) :: (bx, Ar .byte [(.int (4 : Int32)), (.int lv), (.int (0 : Int32)), (.int (0 : Int32)), (.int (0 : Int32)), (.int (0 : Int32))]) :: Rst) := R20
  have pre21 : ∀ t, Steps p.tables e below (T20.setTop (mkF m 74 #[.val (.ref ax), .val (.ref sx), .val (.int (4 : Int32)), .val (.int (0 : Int32)), .unset, .unset] [(.int lv)])) t → Steps p.tables e below (s₁.setTop (entryFrame m #[(.ref ax), (.ref sx)] 6)) t := fun t k => pre19 t (st20.trans k)
  have pre22 : ∀ t, Steps p.tables e below (T20.setTop (mkF m 79 #[.val (.ref ax), .val (.ref sx), .val (.int (4 : Int32)), .val (.int (0 : Int32)), .val (.int lv), .unset] [(.ref ax), (.int lv)])) t → Steps p.tables e below (s₁.setTop (entryFrame m #[(.ref ax), (.ref sx)] 6)) t := fun t k => pre21 t (by
    show Steps p.tables e below (T20.setTop (mkF m 74 #[.val (.ref ax), .val (.ref sx), .val (.int (4 : Int32)), .val (.int (0 : Int32)), .unset, .unset] [(.int lv)])) _
    refine XS.istore X20.here hx rfl (hb hby d4_74) rfl (l' := #[.val (.ref ax), .val (.ref sx), .val (.int (4 : Int32)), .val (.int (0 : Int32)), .val (.int lv), .unset]) rfl ?_
    refine XS.iload X20.here hx rfl (hb hby d4_76) rfl ?_
    refine XS.aloadN X20.here hx rfl (hb hby d4_78) rfl rfl ?_
    exact k)
  obtain ⟨T23, X23, e23, st23⟩ := gGet X20 hx hZ hown (host := "") (Or.inl (hw _ (List.mem_of_getElem? (i := 14) rfl))) rfl R20 0 2 rfl rfl (g := (mkF m 79 #[.val (.ref ax), .val (.ref sx), .val (.int (4 : Int32)), .val (.int (0 : Int32)), .val (.int lv), .unset] [(.ref ax), (.int lv)])) rfl rfl (hb hby d4_79)
  have pre24 : ∀ t, Steps p.tables e below (T23.setTop (mkF m 82 #[.val (.ref ax), .val (.ref sx), .val (.int (4 : Int32)), .val (.int (0 : Int32)), .val (.int lv), .unset] [(.int zq), (.int lv)])) t → Steps p.tables e below (s₁.setTop (entryFrame m #[(.ref ax), (.ref sx)] 6)) t := fun t k => pre22 t (st23 t k)
  have pre25 : ∀ t, Steps p.tables e below (T23.setTop (mkF m 83 #[.val (.ref ax), .val (.ref sx), .val (.int (4 : Int32)), .val (.int (0 : Int32)), .val (.int lv), .unset] [(.ref ax), (.int zq), (.int lv)])) t → Steps p.tables e below (s₁.setTop (entryFrame m #[(.ref ax), (.ref sx)] 6)) t := fun t k => pre24 t (by
    show Steps p.tables e below (T23.setTop (mkF m 82 #[.val (.ref ax), .val (.ref sx), .val (.int (4 : Int32)), .val (.int (0 : Int32)), .val (.int lv), .unset] [(.int zq), (.int lv)])) _
    refine XS.aloadN X23.here hx rfl (hb hby d4_82) rfl rfl ?_
    exact k)
  obtain ⟨T26, X26, e26, st26⟩ := gGet X23 hx hZ hown (host := "") (Or.inl (hw _ (List.mem_of_getElem? (i := 12) rfl))) e23 R20 0 1 rfl rfl (g := (mkF m 83 #[.val (.ref ax), .val (.ref sx), .val (.int (4 : Int32)), .val (.int (0 : Int32)), .val (.int lv), .unset] [(.ref ax), (.int zq), (.int lv)])) rfl rfl (hb hby d4_83)
  have pre27 : ∀ t, Steps p.tables e below (T26.setTop (mkF m 86 #[.val (.ref ax), .val (.ref sx), .val (.int (4 : Int32)), .val (.int (0 : Int32)), .val (.int lv), .unset] [(.int (2 : Int32)), (.int zq), (.int lv)])) t → Steps p.tables e below (s₁.setTop (entryFrame m #[(.ref ax), (.ref sx)] 6)) t := fun t k => pre25 t (st26 t k)
  have pre29 : ∀ t, Steps p.tables e below (T26.setTop (mkF m 87 #[.val (.ref ax), .val (.ref sx), .val (.int (4 : Int32)), .val (.int (0 : Int32)), .val (.int lv), .unset] [(.int (zq - (2 : Int32))), (.int lv)])) t → Steps p.tables e below (s₁.setTop (entryFrame m #[(.ref ax), (.ref sx)] 6)) t := fun t k => pre27 t (by
    show Steps p.tables e below (T26.setTop (mkF m 86 #[.val (.ref ax), .val (.ref sx), .val (.int (4 : Int32)), .val (.int (0 : Int32)), .val (.int lv), .unset] [(.int (2 : Int32)), (.int zq), (.int lv)])) _
    refine XS.isub X26.here hx rfl (hb hby d4_86) rfl ?_
    exact k)
  have hb28 : ¬ ((zq - (2 : Int32)) < lv) := hB
  have pre30 : ∀ t, Steps p.tables e below (T26.setTop (mkF m 107 #[.val (.ref ax), .val (.ref sx), .val (.int (4 : Int32)), .val (.int (0 : Int32)), .val (.int lv), .unset] [])) t → Steps p.tables e below (s₁.setTop (entryFrame m #[(.ref ax), (.ref sx)] 6)) t := fun t k => pre29 t (by
    show Steps p.tables e below (T26.setTop (mkF m 87 #[.val (.ref ax), .val (.ref sx), .val (.int (4 : Int32)), .val (.int (0 : Int32)), .val (.int lv), .unset] [(.int (zq - (2 : Int32))), (.int lv)])) _
    refine XS.icmpYes X26.here hx rfl (pc0 := 87) (pc' := 107) rfl (hb hby d4_87) rfl (flt hb28).2.2.2 (by decide) (by decide) ?_
    exact k)
  obtain ⟨T31, h31, b31, X31, e31, R31, st31⟩ := gNew X26 hx hZ hown (hw _ (List.mem_of_getElem? (i := 43) rfl)) (hw _ (List.mem_of_getElem? (i := 2) rfl)) (hw _ (List.mem_of_getElem? (i := 3) rfl)) e26 R20 (fs := [("bytes", "[B", .null), ("position", "I", (.int (0 : Int32))), ("end", "I", (.int (0 : Int32)))]) ⟨⟨Or.inr (hw _ (List.mem_of_getElem? (i := 11) rfl)), (.array .byte), by decide, rfl⟩, ⟨⟨Or.inl (hw _ (List.mem_of_getElem? (i := 13) rfl)), .int, by decide, rfl⟩, ⟨⟨Or.inr (hw _ (List.mem_of_getElem? (i := 15) rfl)), .int, by decide, rfl⟩, trivial⟩⟩⟩ (by decide) (g := (mkF m 107 #[.val (.ref ax), .val (.ref sx), .val (.int (4 : Int32)), .val (.int (0 : Int32)), .val (.int lv), .unset] [])) rfl (hb hby d4_107) (by decide) (by decide)
  have pre32 : ∀ t, Steps p.tables e below (T31.setTop (mkF m 110 #[.val (.ref ax), .val (.ref sx), .val (.int (4 : Int32)), .val (.int (0 : Int32)), .val (.int lv), .unset] [(.ref b31)])) t → Steps p.tables e below (s₁.setTop (entryFrame m #[(.ref ax), (.ref sx)] 6)) t := fun t k => pre30 t (st31 t k)
  have pre33 : ∀ t, Steps p.tables e below (T31.setTop (mkF m 112 #[.val (.ref ax), .val (.ref sx), .val (.int (4 : Int32)), .val (.int (0 : Int32)), .val (.int lv), .unset] [(.ref ax), (.ref b31), (.ref b31)])) t → Steps p.tables e below (s₁.setTop (entryFrame m #[(.ref ax), (.ref sx)] 6)) t := fun t k => pre32 t (by
    show Steps p.tables e below (T31.setTop (mkF m 110 #[.val (.ref ax), .val (.ref sx), .val (.int (4 : Int32)), .val (.int (0 : Int32)), .val (.int lv), .unset] [(.ref b31)])) _
    refine XS.dup X31.here hx rfl (hb hby d4_110) rfl rfl ?_
    refine XS.aloadN X31.here hx rfl (hb hby d4_111) rfl rfl ?_
    exact k)
  obtain ⟨T34, X34, e34, st34⟩ := gGet X31 hx hZ hown (host := "") (Or.inl (hw _ (List.mem_of_getElem? (i := 10) rfl))) e31 R31 1 0 rfl rfl (g := (mkF m 112 #[.val (.ref ax), .val (.ref sx), .val (.int (4 : Int32)), .val (.int (0 : Int32)), .val (.int lv), .unset] [(.ref ax), (.ref b31), (.ref b31)])) rfl rfl (hb hby d4_112)
  have pre35 : ∀ t, Steps p.tables e below (T34.setTop (mkF m 115 #[.val (.ref ax), .val (.ref sx), .val (.int (4 : Int32)), .val (.int (0 : Int32)), .val (.int lv), .unset] [(.ref bx), (.ref b31), (.ref b31)])) t → Steps p.tables e below (s₁.setTop (entryFrame m #[(.ref ax), (.ref sx)] 6)) t := fun t k => pre33 t (st34 t k)
  have pre36 : ∀ t, Steps p.tables e below (T34.setTop (mkF m 116 #[.val (.ref ax), .val (.ref sx), .val (.int (4 : Int32)), .val (.int (0 : Int32)), .val (.int lv), .unset] [(.ref ax), (.ref bx), (.ref b31), (.ref b31)])) t → Steps p.tables e below (s₁.setTop (entryFrame m #[(.ref ax), (.ref sx)] 6)) t := fun t k => pre35 t (by
    show Steps p.tables e below (T34.setTop (mkF m 115 #[.val (.ref ax), .val (.ref sx), .val (.int (4 : Int32)), .val (.int (0 : Int32)), .val (.int lv), .unset] [(.ref bx), (.ref b31), (.ref b31)])) _
    refine XS.aloadN X34.here hx rfl (hb hby d4_115) rfl rfl ?_
    exact k)
  obtain ⟨T37, X37, e37, st37⟩ := gGet X34 hx hZ hown (host := "") (Or.inl (hw _ (List.mem_of_getElem? (i := 12) rfl))) e34 R31 1 1 rfl rfl (g := (mkF m 116 #[.val (.ref ax), .val (.ref sx), .val (.int (4 : Int32)), .val (.int (0 : Int32)), .val (.int lv), .unset] [(.ref ax), (.ref bx), (.ref b31), (.ref b31)])) rfl rfl (hb hby d4_116)
  have pre38 : ∀ t, Steps p.tables e below (T37.setTop (mkF m 119 #[.val (.ref ax), .val (.ref sx), .val (.int (4 : Int32)), .val (.int (0 : Int32)), .val (.int lv), .unset] [(.int (2 : Int32)), (.ref bx), (.ref b31), (.ref b31)])) t → Steps p.tables e below (s₁.setTop (entryFrame m #[(.ref ax), (.ref sx)] 6)) t := fun t k => pre36 t (st37 t k)
  have pre39 : ∀ t, Steps p.tables e below (T37.setTop (mkF m 120 #[.val (.ref ax), .val (.ref sx), .val (.int (4 : Int32)), .val (.int (0 : Int32)), .val (.int lv), .unset] [(.ref ax), (.int (2 : Int32)), (.ref bx), (.ref b31), (.ref b31)])) t → Steps p.tables e below (s₁.setTop (entryFrame m #[(.ref ax), (.ref sx)] 6)) t := fun t k => pre38 t (by
    show Steps p.tables e below (T37.setTop (mkF m 119 #[.val (.ref ax), .val (.ref sx), .val (.int (4 : Int32)), .val (.int (0 : Int32)), .val (.int lv), .unset] [(.int (2 : Int32)), (.ref bx), (.ref b31), (.ref b31)])) _
    refine XS.aloadN X37.here hx rfl (hb hby d4_119) rfl rfl ?_
    exact k)
  obtain ⟨T40, X40, e40, st40⟩ := gGet X37 hx hZ hown (host := "") (Or.inl (hw _ (List.mem_of_getElem? (i := 12) rfl))) e37 R31 1 1 rfl rfl (g := (mkF m 120 #[.val (.ref ax), .val (.ref sx), .val (.int (4 : Int32)), .val (.int (0 : Int32)), .val (.int lv), .unset] [(.ref ax), (.int (2 : Int32)), (.ref bx), (.ref b31), (.ref b31)])) rfl rfl (hb hby d4_120)
  have pre41 : ∀ t, Steps p.tables e below (T40.setTop (mkF m 123 #[.val (.ref ax), .val (.ref sx), .val (.int (4 : Int32)), .val (.int (0 : Int32)), .val (.int lv), .unset] [(.int (2 : Int32)), (.int (2 : Int32)), (.ref bx), (.ref b31), (.ref b31)])) t → Steps p.tables e below (s₁.setTop (entryFrame m #[(.ref ax), (.ref sx)] 6)) t := fun t k => pre39 t (st40 t k)
  have pre42 : ∀ t, Steps p.tables e below (T40.setTop (mkF m 126 #[.val (.ref ax), .val (.ref sx), .val (.int (4 : Int32)), .val (.int (0 : Int32)), .val (.int lv), .unset] [(.int ((2 : Int32) + lv)), (.int (2 : Int32)), (.ref bx), (.ref b31), (.ref b31)])) t → Steps p.tables e below (s₁.setTop (entryFrame m #[(.ref ax), (.ref sx)] 6)) t := fun t k => pre41 t (by
    show Steps p.tables e below (T40.setTop (mkF m 123 #[.val (.ref ax), .val (.ref sx), .val (.int (4 : Int32)), .val (.int (0 : Int32)), .val (.int lv), .unset] [(.int (2 : Int32)), (.int (2 : Int32)), (.ref bx), (.ref b31), (.ref b31)])) _
    refine XS.iload X40.here hx rfl (hb hby d4_123) rfl ?_
    refine XS.iadd X40.here hx rfl (hb hby d4_125) rfl ?_
    exact k)
  obtain ⟨_, _, ⟨T43, L43, k43, n43⟩, -, X43, ⟨Lc43, hQ43, l43, y43, z43⟩, st43⟩ := X40.specialBack hx (y := (⟨"com/example/sidetrack/sidetrack/codec/BerReader", "<init>", "([BII)V"⟩ : MethodName)) rfl hown (mvT hZ (hw _ (List.mem_of_getElem? (i := 44) rfl))) (mvT hZ (hw _ (List.mem_of_getElem? (i := 5) rfl))) (mvT hZ (hw _ (List.mem_of_getElem? (i := 6) rfl))) (by decide) (backOf (W := 1) (rm1 l Z a0 hw [] b31 bx (2 : Int32) ((2 : Int32) + lv) _ _ _ h31 n0 _ R31 ) hZ (hw _ (List.mem_of_getElem? (i := 6) rfl)) (hw _ (List.mem_of_getElem? (i := 3) rfl)) (by decide) (by decide)) (g := (mkF m 126 #[.val (.ref ax), .val (.ref sx), .val (.int (4 : Int32)), .val (.int (0 : Int32)), .val (.int lv), .unset] [(.int ((2 : Int32) + lv)), (.int (2 : Int32)), (.ref bx), (.ref b31), (.ref b31)])) rfl (by rw [hml]; rfl) (Steps.refl _) (a := b31) (argsL := [(.ref bx), (.int (2 : Int32)), (.int ((2 : Int32) + lv))]) (rest := [(.ref b31)]) (lenOf pd__28_5bBII_29V rfl) rfl (by show 2 * 0 + _ ≤ _; exact Nat.le_of_eq rfl) (hb hby d4_126) (fun _ _ => ⟨rfl, e40, (by decide : 1 + 0 ≤ _), (by decide : 3 + 0 ≤ _)⟩)
  dsimp only [Pt.U, Pt.locs, Pt.cells, Pt.slots] at X43 l43 y43 z43 st43 hQ43
  subst y43 z43
  obtain ⟨rfl, N43q, R43⟩ := hQ43
  have N43 : Fr n0.1 L43 := by rw [l43]; exact Fr.app N20 N43q
  replace R43 : Rep Z n0 T43.heap ((b31, Obj "com/example/sidetrack/sidetrack/codec/BerReader" [("bytes", "[B", (.ref bx)), ("position", "I", (.int (2 : Int32))), ("end", "I", (.int ((2 : Int32) + lv)))]) :: (ax, Obj "com/example/sidetrack/sidetrack/codec/BerReader" [("bytes", "[B", (.ref bx)), ("position", "I", (.int (2 : Int32))), ("end", "I", (.int zq))]) :: (bx, Ar .byte [(.int (4 : Int32)), (.int lv), (.int (0 : Int32)), (.int (0 : Int32)), (.int (0 : Int32)), (.int (0 : Int32))]) :: Rst) := R43
  have pre44 : ∀ t, Steps p.tables e below (T43.setTop (mkF m 129 #[.val (.ref ax), .val (.ref sx), .val (.int (4 : Int32)), .val (.int (0 : Int32)), .val (.int lv), .unset] [(.ref b31)])) t → Steps p.tables e below (s₁.setTop (entryFrame m #[(.ref ax), (.ref sx)] 6)) t := fun t k => pre42 t (st43.trans k)
  have pre45 : ∀ t, Steps p.tables e below (T43.setTop (mkF m 133 #[.val (.ref ax), .val (.ref sx), .val (.int (4 : Int32)), .val (.int (0 : Int32)), .val (.int lv), .val (.ref b31)] [(.ref ax), (.ref ax)])) t → Steps p.tables e below (s₁.setTop (entryFrame m #[(.ref ax), (.ref sx)] 6)) t := fun t k => pre44 t (by
    show Steps p.tables e below (T43.setTop (mkF m 129 #[.val (.ref ax), .val (.ref sx), .val (.int (4 : Int32)), .val (.int (0 : Int32)), .val (.int lv), .unset] [(.ref b31)])) _
    refine XS.astore X43.here hx rfl (hb hby d4_129) rfl rfl (l' := #[.val (.ref ax), .val (.ref sx), .val (.int (4 : Int32)), .val (.int (0 : Int32)), .val (.int lv), .val (.ref b31)]) rfl ?_
    refine XS.aloadN X43.here hx rfl (hb hby d4_131) rfl rfl ?_
    refine XS.dup X43.here hx rfl (hb hby d4_132) rfl rfl ?_
    exact k)
  obtain ⟨T46, X46, e46, st46⟩ := gGet X43 hx hZ hown (host := "") (Or.inl (hw _ (List.mem_of_getElem? (i := 12) rfl))) rfl R43 1 1 rfl rfl (g := (mkF m 133 #[.val (.ref ax), .val (.ref sx), .val (.int (4 : Int32)), .val (.int (0 : Int32)), .val (.int lv), .val (.ref b31)] [(.ref ax), (.ref ax)])) rfl rfl (hb hby d4_133)
  have pre47 : ∀ t, Steps p.tables e below (T46.setTop (mkF m 136 #[.val (.ref ax), .val (.ref sx), .val (.int (4 : Int32)), .val (.int (0 : Int32)), .val (.int lv), .val (.ref b31)] [(.int (2 : Int32)), (.ref ax)])) t → Steps p.tables e below (s₁.setTop (entryFrame m #[(.ref ax), (.ref sx)] 6)) t := fun t k => pre45 t (st46 t k)
  have pre48 : ∀ t, Steps p.tables e below (T46.setTop (mkF m 139 #[.val (.ref ax), .val (.ref sx), .val (.int (4 : Int32)), .val (.int (0 : Int32)), .val (.int lv), .val (.ref b31)] [(.int ((2 : Int32) + lv)), (.ref ax)])) t → Steps p.tables e below (s₁.setTop (entryFrame m #[(.ref ax), (.ref sx)] 6)) t := fun t k => pre47 t (by
    show Steps p.tables e below (T46.setTop (mkF m 136 #[.val (.ref ax), .val (.ref sx), .val (.int (4 : Int32)), .val (.int (0 : Int32)), .val (.int lv), .val (.ref b31)] [(.int (2 : Int32)), (.ref ax)])) _
    refine XS.iload X46.here hx rfl (hb hby d4_136) rfl ?_
    refine XS.iadd X46.here hx rfl (hb hby d4_138) rfl ?_
    exact k)
  obtain ⟨T49, h49, ls49, X49, e49, N49, R49, st49⟩ := gPut X46 hx hZ hown (host := "") (Or.inl (hw _ (List.mem_of_getElem? (i := 12) rfl))) e46 N43 R43 1 1 rfl rfl (Or.inl (hw _ (List.mem_of_getElem? (i := 13) rfl))) (hw _ (List.mem_of_getElem? (i := 2) rfl)) (ty := .int) (by decide) rfl rfl (g := (mkF m 139 #[.val (.ref ax), .val (.ref sx), .val (.int (4 : Int32)), .val (.int (0 : Int32)), .val (.int lv), .val (.ref b31)] [(.int ((2 : Int32) + lv)), (.ref ax)])) rfl rfl (hb hby d4_139)
  replace R49 : Rep Z n0 h49 ((b31, Obj "com/example/sidetrack/sidetrack/codec/BerReader" [("bytes", "[B", (.ref bx)), ("position", "I", (.int (2 : Int32))), ("end", "I", (.int ((2 : Int32) + lv)))]) :: (ax, Obj "com/example/sidetrack/sidetrack/codec/BerReader" [("bytes", "[B", (.ref bx)), ("position", "I", (.int ((2 : Int32) + lv))), ("end", "I", (.int zq))]) :: (bx, Ar .byte [(.int (4 : Int32)), (.int lv), (.int (0 : Int32)), (.int (0 : Int32)), (.int (0 : Int32)), (.int (0 : Int32))]) :: Rst) := R49
  have pre50 : ∀ t, Steps p.tables e below (T49.setTop (mkF m 142 #[.val (.ref ax), .val (.ref sx), .val (.int (4 : Int32)), .val (.int (0 : Int32)), .val (.int lv), .val (.ref b31)] [])) t → Steps p.tables e below (s₁.setTop (entryFrame m #[(.ref ax), (.ref sx)] 6)) t := fun t k => pre48 t (st49 t k)
  obtain ⟨T51, h51, b51, X51, e51, R51, st51⟩ := gNew X49 hx hZ hown (hw _ (List.mem_of_getElem? (i := 45) rfl)) (hw _ (List.mem_of_getElem? (i := 46) rfl)) (hw _ (List.mem_of_getElem? (i := 47) rfl)) e49 R49 (fs := [("tag", "I", (.int (0 : Int32))), ("offset", "I", (.int (0 : Int32))), ("contents", "Lcom/example/sidetrack/sidetrack/codec/BerReader;", .null)]) ⟨⟨Or.inr (hw _ (List.mem_of_getElem? (i := 58) rfl)), .int, by decide, rfl⟩, ⟨⟨Or.inr (hw _ (List.mem_of_getElem? (i := 60) rfl)), .int, by decide, rfl⟩, ⟨⟨Or.inr (hw _ (List.mem_of_getElem? (i := 62) rfl)), (.object "com/example/sidetrack/sidetrack/codec/BerReader"), by decide, rfl⟩, trivial⟩⟩⟩ (by decide) (g := (mkF m 142 #[.val (.ref ax), .val (.ref sx), .val (.int (4 : Int32)), .val (.int (0 : Int32)), .val (.int lv), .val (.ref b31)] [])) rfl (hb hby d4_142) (by decide) (by decide)
  have pre52 : ∀ t, Steps p.tables e below (T51.setTop (mkF m 145 #[.val (.ref ax), .val (.ref sx), .val (.int (4 : Int32)), .val (.int (0 : Int32)), .val (.int lv), .val (.ref b31)] [(.ref b51)])) t → Steps p.tables e below (s₁.setTop (entryFrame m #[(.ref ax), (.ref sx)] 6)) t := fun t k => pre50 t (st51 t k)
  have pre53 : ∀ t, Steps p.tables e below (T51.setTop (mkF m 150 #[.val (.ref ax), .val (.ref sx), .val (.int (4 : Int32)), .val (.int (0 : Int32)), .val (.int lv), .val (.ref b31)] [(.ref b31), (.int (0 : Int32)), (.int (4 : Int32)), (.ref b51), (.ref b51)])) t → Steps p.tables e below (s₁.setTop (entryFrame m #[(.ref ax), (.ref sx)] 6)) t := fun t k => pre52 t (by
    show Steps p.tables e below (T51.setTop (mkF m 145 #[.val (.ref ax), .val (.ref sx), .val (.int (4 : Int32)), .val (.int (0 : Int32)), .val (.int lv), .val (.ref b31)] [(.ref b51)])) _
    refine XS.dup X51.here hx rfl (hb hby d4_145) rfl rfl ?_
    refine XS.iloadN X51.here hx rfl (hb hby d4_146) rfl ?_
    refine XS.iloadN X51.here hx rfl (hb hby d4_147) rfl ?_
    refine XS.aload X51.here hx rfl (hb hby d4_148) rfl rfl ?_
    exact k)
  obtain ⟨_, _, ⟨T54, L54, k54, n54⟩, -, X54, ⟨Lc54, hQ54, l54, y54, z54⟩, st54⟩ := X51.specialBack hx (y := (⟨"com/example/sidetrack/sidetrack/codec/BerReader$Element", "<init>", "(IILcom/example/sidetrack/sidetrack/codec/BerReader;)V"⟩ : MethodName)) rfl hown (mvT hZ (hw _ (List.mem_of_getElem? (i := 48) rfl))) (mvT hZ (hw _ (List.mem_of_getElem? (i := 49) rfl))) (mvT hZ (hw _ (List.mem_of_getElem? (i := 50) rfl))) (by decide) (backOf (W := 1) (rm7 l Z a0 hw [] b51 (4 : Int32) (0 : Int32) b31 _ _ _ h51 n0 _ R51 ) hZ (hw _ (List.mem_of_getElem? (i := 50) rfl)) (hw _ (List.mem_of_getElem? (i := 47) rfl)) (by decide) (by decide)) (g := (mkF m 150 #[.val (.ref ax), .val (.ref sx), .val (.int (4 : Int32)), .val (.int (0 : Int32)), .val (.int lv), .val (.ref b31)] [(.ref b31), (.int (0 : Int32)), (.int (4 : Int32)), (.ref b51), (.ref b51)])) rfl (by rw [hml]; rfl) (Steps.refl _) (a := b51) (argsL := [(.int (4 : Int32)), (.int (0 : Int32)), (.ref b31)]) (rest := [(.ref b51)]) (lenOf pd__28IILcom_2fexample_2fsidetrack_2fsidetrack_2fcodec_2fBerReader_3b_29V rfl) rfl (by show 2 * 0 + _ ≤ _; exact Nat.le_of_eq rfl) (hb hby d4_150) (fun _ _ => ⟨rfl, e51, (by decide : 2 + 0 ≤ _), (by decide : 6 + 0 ≤ _)⟩)
  dsimp only [Pt.U, Pt.locs, Pt.cells, Pt.slots] at X54 l54 y54 z54 st54 hQ54
  subst y54 z54
  obtain ⟨rfl, N54q, R54⟩ := hQ54
  have N54 : Fr n0.1 L54 := by rw [l54]; exact Fr.app N49 N54q
  replace R54 : Rep Z n0 T54.heap ((b51, Obj "com/example/sidetrack/sidetrack/codec/BerReader$Element" [("tag", "I", (.int (4 : Int32))), ("offset", "I", (.int (0 : Int32))), ("contents", "Lcom/example/sidetrack/sidetrack/codec/BerReader;", (.ref b31))]) :: (b31, Obj "com/example/sidetrack/sidetrack/codec/BerReader" [("bytes", "[B", (.ref bx)), ("position", "I", (.int (2 : Int32))), ("end", "I", (.int ((2 : Int32) + lv)))]) :: (ax, Obj "com/example/sidetrack/sidetrack/codec/BerReader" [("bytes", "[B", (.ref bx)), ("position", "I", (.int ((2 : Int32) + lv))), ("end", "I", (.int zq))]) :: (bx, Ar .byte [(.int (4 : Int32)), (.int lv), (.int (0 : Int32)), (.int (0 : Int32)), (.int (0 : Int32)), (.int (0 : Int32))]) :: Rst) := R54
  have pre55 : ∀ t, Steps p.tables e below (T54.setTop (mkF m 153 #[.val (.ref ax), .val (.ref sx), .val (.int (4 : Int32)), .val (.int (0 : Int32)), .val (.int lv), .val (.ref b31)] [(.ref b51)])) t → Steps p.tables e below (s₁.setTop (entryFrame m #[(.ref ax), (.ref sx)] 6)) t := fun t k => pre53 t (st54.trans k)
  obtain ⟨fs, hr, hrun, hended, hW, hsame⟩ := X54.leave (v := some (.ref b51)) (fun h => by rw [Bd.returns] at h; cases h)
  refine ⟨_, _, pre55 _ ?_, hrun, hended, _, _, rfl, ?_, ⟨_, rfl⟩, hW, hsame.mono (by decide) (by decide)⟩
  · show Steps p.tables e below (T54.setTop (mkF m 153 #[.val (.ref ax), .val (.ref sx), .val (.int (4 : Int32)), .val (.int (0 : Int32)), .val (.int lv), .val (.ref b31)] [(.ref b51)])) _
    exact Jvm.Own.retA X54 hx (t := (.object "com/example/sidetrack/sidetrack/codec/BerReader$Element")) rfl Bd.returns (hb hby d4_153) hr
  · show Q4 Z ax sx bx zq lv n0 Rst _ T54.heap _
    have R56 : Rep Z n0 T54.heap ((b31, Obj "com/example/sidetrack/sidetrack/codec/BerReader" [("bytes", "[B", (.ref bx)), ("position", "I", (.int (2 : Int32))), ("end", "I", (.int ((2 : Int32) + lv)))]) :: (b51, Obj "com/example/sidetrack/sidetrack/codec/BerReader$Element" [("tag", "I", (.int (4 : Int32))), ("offset", "I", (.int (0 : Int32))), ("contents", "Lcom/example/sidetrack/sidetrack/codec/BerReader;", (.ref b31))]) :: (ax, Obj "com/example/sidetrack/sidetrack/codec/BerReader" [("bytes", "[B", (.ref bx)), ("position", "I", (.int ((2 : Int32) + lv))), ("end", "I", (.int zq))]) :: (bx, Ar .byte [(.int (4 : Int32)), (.int lv), (.int (0 : Int32)), (.int (0 : Int32)), (.int (0 : Int32)), (.int (0 : Int32))]) :: Rst) := R54.front 1 rfl rfl
    have R57 : Rep Z n0 T54.heap ((b51, Obj "com/example/sidetrack/sidetrack/codec/BerReader$Element" [("tag", "I", (.int (4 : Int32))), ("offset", "I", (.int (0 : Int32))), ("contents", "Lcom/example/sidetrack/sidetrack/codec/BerReader;", (.ref b31))]) :: (b31, Obj "com/example/sidetrack/sidetrack/codec/BerReader" [("bytes", "[B", (.ref bx)), ("position", "I", (.int (2 : Int32))), ("end", "I", (.int ((2 : Int32) + lv)))]) :: (ax, Obj "com/example/sidetrack/sidetrack/codec/BerReader" [("bytes", "[B", (.ref bx)), ("position", "I", (.int ((2 : Int32) + lv))), ("end", "I", (.int zq))]) :: (bx, Ar .byte [(.int (4 : Int32)), (.int lv), (.int (0 : Int32)), (.int (0 : Int32)), (.int (0 : Int32)), (.int (0 : Int32))]) :: Rst) := R56.front 1 rfl rfl
    have R58 : Rep Z n0 T54.heap ((bx, Ar .byte [(.int (4 : Int32)), (.int lv), (.int (0 : Int32)), (.int (0 : Int32)), (.int (0 : Int32)), (.int (0 : Int32))]) :: (b51, Obj "com/example/sidetrack/sidetrack/codec/BerReader$Element" [("tag", "I", (.int (4 : Int32))), ("offset", "I", (.int (0 : Int32))), ("contents", "Lcom/example/sidetrack/sidetrack/codec/BerReader;", (.ref b31))]) :: (b31, Obj "com/example/sidetrack/sidetrack/codec/BerReader" [("bytes", "[B", (.ref bx)), ("position", "I", (.int (2 : Int32))), ("end", "I", (.int ((2 : Int32) + lv)))]) :: (ax, Obj "com/example/sidetrack/sidetrack/codec/BerReader" [("bytes", "[B", (.ref bx)), ("position", "I", (.int ((2 : Int32) + lv))), ("end", "I", (.int zq))]) :: Rst) := R57.front 3 rfl rfl
    have R59 : Rep Z n0 T54.heap ((ax, Obj "com/example/sidetrack/sidetrack/codec/BerReader" [("bytes", "[B", (.ref bx)), ("position", "I", (.int ((2 : Int32) + lv))), ("end", "I", (.int zq))]) :: (bx, Ar .byte [(.int (4 : Int32)), (.int lv), (.int (0 : Int32)), (.int (0 : Int32)), (.int (0 : Int32)), (.int (0 : Int32))]) :: (b51, Obj "com/example/sidetrack/sidetrack/codec/BerReader$Element" [("tag", "I", (.int (4 : Int32))), ("offset", "I", (.int (0 : Int32))), ("contents", "Lcom/example/sidetrack/sidetrack/codec/BerReader;", (.ref b31))]) :: (b31, Obj "com/example/sidetrack/sidetrack/codec/BerReader" [("bytes", "[B", (.ref bx)), ("position", "I", (.int (2 : Int32))), ("end", "I", (.int ((2 : Int32) + lv)))]) :: Rst) := R58.front 3 rfl rfl
    exact ⟨b51, b31, rfl, N54, R59⟩
theorem d9_0 : decode prog_14_method_9_code 0 = .ok (.aload_n 0, 1) := by decide +kernel
theorem d9_1 : decode prog_14_method_9_code 1 = .ok (.getfield 16, 3) := by decide +kernel
theorem d9_4 : decode prog_14_method_9_code 4 = .ok (.areturn, 1) := by decide +kernel
theorem ef_9 (m : MethodId) (x0 : Addr) : entryFrame m #[(.ref x0)] 1 = mkF m 0 #[.val (.ref x0)] [] := by first | (simp [entryFrame, mkF, argsToLocals, Value.category]; done) | rfl
def Q9 (Z : State) (ax : Addr) (u1 : Value) (u2 : Value) (cx : Addr) (n0 : Nat × Nat) (Rst : RL) (v : Option Value) (h : Heap) (L : List Loc) : Prop := v = some (.ref cx) ∧ Fr n0.1 L ∧ Rep Z n0 h ((ax, Obj "com/example/sidetrack/sidetrack/codec/BerReader$Element" [("tag", "I", u1), ("offset", "I", u2), ("contents", "Lcom/example/sidetrack/sidetrack/codec/BerReader;", (.ref cx))]) :: Rst)
set_option maxRecDepth 65536 in
set_option maxHeartbeats 40000000 in
theorem rm9 (l : Launch) (Z : State) (a0 : Array Value) (hw : ∀ d ∈ tables_1, d.before a0 Z = true) (ws : List Jvm.Cond) (ax : Addr) (u1 : Value) (u2 : Value) (cx : Addr) (h0 : Heap) (n0 : Nat × Nat) (Rst : RL) (R0 : Rep Z n0 h0 ((ax, Obj "com/example/sidetrack/sidetrack/codec/BerReader$Element" [("tag", "I", u1), ("offset", "I", u2), ("contents", "Lcom/example/sidetrack/sidetrack/codec/BerReader;", (.ref cx))]) :: Rst)) :
    MetFree l (⟨"com/example/sidetrack/sidetrack/codec/BerReader$Element", "contents", "()Lcom/example/sidetrack/sidetrack/codec/BerReader;"⟩ : MethodName) (head1 (Jvm.Cond.code (⟨"com/example/sidetrack/sidetrack/codec/BerReader$Element", "contents", "()Lcom/example/sidetrack/sidetrack/codec/BerReader;"⟩ : MethodName) prog_14_method_9_code 1 (some (.object "com/example/sidetrack/sidetrack/codec/BerReader")) :: ws) ({ frames := 0, cells := 0, slots := 0, locals := 0 } : Room)) (fun a U => a = #[(.ref ax)] ∧ Z.Warmed39 U.vm ∧ U.heap = h0) (fun _ _ _ _ _ => True) (fun _ U o U' => ∃ v L, o = .returned v ∧ Q9 Z ax u1 u2 cx n0 Rst v U'.heap L ∧ FrameEnd U o U' L ({ frames := 0, cells := 0, slots := 0, locals := 0 } : Room).cells ({ frames := 0, cells := 0, slots := 0, locals := 0 } : Room).slots) := by
  refine MetFree.of_bodySF (plainFor_of_name pn_com_example_sidetrack_sidetrack_codec_BerReader_Element) hisR ?_
  intro p e s m args below meth c s₁ Bd hml0 hP hK
  obtain ⟨rfl, hZ, hh⟩ := hP
  have hx := Bd.exec
  have hby := Bd.bytes
  have hml : c.maxLocals = 1 := hml0
  have hown : s.vm.findClass "com/example/sidetrack/sidetrack/codec/BerReader$Element" = some m.cls := findClass_of_methodNamed Bd.named
  have hnm := (name_of_methodNamed Bd.named Bd.method).1
  have X0 : Stand p l e ({ frames := 0, cells := 0, slots := 0, locals := 0 } : Room) s m #[(.ref ax)] below meth c s₁ [] 0 0 := Stand.of_body Bd
  have e0 : s₁.heap = h0 := by rw [← hh, Bd.state]; rfl
  have N0 := Fr.nil n0.1
  have pre0 : ∀ t, Steps p.tables e below (s₁.setTop (mkF m 0 #[.val (.ref ax)] [])) t → Steps p.tables e below (s₁.setTop (entryFrame m #[(.ref ax)] 1)) t := fun t k => castTop (ef_9 m ax) k
  have pre1 : ∀ t, Steps p.tables e below (s₁.setTop (mkF m 1 #[.val (.ref ax)] [(.ref ax)])) t → Steps p.tables e below (s₁.setTop (entryFrame m #[(.ref ax)] 1)) t := fun t k => pre0 t (by
    show Steps p.tables e below (s₁.setTop (mkF m 0 #[.val (.ref ax)] [])) _
    refine XS.aloadN X0.here hx rfl (hb hby d9_0) rfl rfl ?_
    exact k)
  obtain ⟨T2, X2, e2, st2⟩ := gGet X0 hx hZ hown (host := "") (Or.inl (hw _ (List.mem_of_getElem? (i := 61) rfl))) e0 R0 0 2 rfl rfl (g := (mkF m 1 #[.val (.ref ax)] [(.ref ax)])) rfl rfl (hb hby d9_1)
  have pre3 : ∀ t, Steps p.tables e below (T2.setTop (mkF m 4 #[.val (.ref ax)] [(.ref cx)])) t → Steps p.tables e below (s₁.setTop (entryFrame m #[(.ref ax)] 1)) t := fun t k => pre1 t (st2 t k)
  obtain ⟨fs, hr, hrun, hended, hW, hsame⟩ := X2.leave (v := some (.ref cx)) (fun h => by rw [Bd.returns] at h; cases h)
  refine ⟨_, _, pre3 _ ?_, hrun, hended, _, _, rfl, ?_, ⟨_, rfl⟩, hW, hsame.mono (by decide) (by decide)⟩
  · show Steps p.tables e below (T2.setTop (mkF m 4 #[.val (.ref ax)] [(.ref cx)])) _
    exact Jvm.Own.retA X2 hx (t := (.object "com/example/sidetrack/sidetrack/codec/BerReader")) rfl Bd.returns (hb hby d9_4) hr
  · show Q9 Z ax u1 u2 cx n0 Rst _ T2.heap _
    rw [e2]
    exact ⟨rfl, N0, R0⟩
theorem d13_0 : decode jdk_65_method_131_code 0 = .ok (.iload_n 1, 1) := by decide +kernel
theorem d13_1 : decode jdk_65_method_131_code 1 = .ok (.iload_n 0, 1) := by decide +kernel
theorem d13_2 : decode jdk_65_method_131_code 2 = .ok (.if_icmp .ge 35, 3) := by decide +kernel
theorem d13_37 : decode jdk_65_method_131_code 37 = .ok (.return_, 1) := by decide +kernel
theorem pn_java_util_Arrays : plainName "java/util/Arrays" = true := by first | (simp [plainName, overriddenIn]; done) | decide +kernel
theorem ef_13 (m : MethodId) (x0 : Int32) (x1 : Int32) : entryFrame m #[(.int x0), (.int x1)] 2 = mkF m 0 #[.val (.int x0), .val (.int x1)] [] := by first | (simp [entryFrame, mkF, argsToLocals, Value.category]; done) | rfl
def Q13 (Z : State) (fq : Int32) (tq : Int32) (n0 : Nat × Nat) (Rst : RL) (v : Option Value) (h : Heap) (L : List Loc) : Prop := v = none ∧ Fr n0.1 L ∧ Rep Z n0 h (Rst)
set_option maxRecDepth 65536 in
set_option maxHeartbeats 40000000 in
theorem rm13 (l : Launch) (Z : State) (a0 : Array Value) (hw : ∀ d ∈ tables_1, d.before a0 Z = true) (ws : List Jvm.Cond) (fq : Int32) (tq : Int32) (h0 : Heap) (n0 : Nat × Nat) (Rst : RL) (R0 : Rep Z n0 h0 (Rst)) (hc : ¬ (tq < fq)) :
    MetFree l (⟨"java/util/Arrays", "checkLength", "(II)V"⟩ : MethodName) (head1 (Jvm.Cond.code (⟨"java/util/Arrays", "checkLength", "(II)V"⟩ : MethodName) jdk_65_method_131_code 2 none :: ws) ({ frames := 0, cells := 0, slots := 0, locals := 0 } : Room)) (fun a U => a = #[(.int fq), (.int tq)] ∧ Z.Warmed39 U.vm ∧ U.heap = h0) (fun _ _ _ _ _ => True) (fun _ U o U' => ∃ v L, o = .returned v ∧ Q13 Z fq tq n0 Rst v U'.heap L ∧ FrameEnd U o U' L ({ frames := 0, cells := 0, slots := 0, locals := 0 } : Room).cells ({ frames := 0, cells := 0, slots := 0, locals := 0 } : Room).slots) := by
  refine MetFree.of_bodySF (plainFor_of_name pn_java_util_Arrays) hisR ?_
  intro p e s m args below meth c s₁ Bd hml0 hP hK
  obtain ⟨rfl, hZ, hh⟩ := hP
  have hx := Bd.exec
  have hby := Bd.bytes
  have hml : c.maxLocals = 2 := hml0
  have hown : s.vm.findClass "java/util/Arrays" = some m.cls := findClass_of_methodNamed Bd.named
  have hnm := (name_of_methodNamed Bd.named Bd.method).1
  have X0 : Stand p l e ({ frames := 0, cells := 0, slots := 0, locals := 0 } : Room) s m #[(.int fq), (.int tq)] below meth c s₁ [] 0 0 := Stand.of_body Bd
  have e0 : s₁.heap = h0 := by rw [← hh, Bd.state]; rfl
  have N0 := Fr.nil n0.1
  have pre0 : ∀ t, Steps p.tables e below (s₁.setTop (mkF m 0 #[.val (.int fq), .val (.int tq)] [])) t → Steps p.tables e below (s₁.setTop (entryFrame m #[(.int fq), (.int tq)] 2)) t := fun t k => castTop (ef_13 m fq tq) k
  have pre2 : ∀ t, Steps p.tables e below (s₁.setTop (mkF m 2 #[.val (.int fq), .val (.int tq)] [(.int fq), (.int tq)])) t → Steps p.tables e below (s₁.setTop (entryFrame m #[(.int fq), (.int tq)] 2)) t := fun t k => pre0 t (by
    show Steps p.tables e below (s₁.setTop (mkF m 0 #[.val (.int fq), .val (.int tq)] [])) _
    refine XS.iloadN X0.here hx rfl (hb hby d13_0) rfl ?_
    refine XS.iloadN X0.here hx rfl (hb hby d13_1) rfl ?_
    exact k)
  have hb1 : ¬ (tq < fq) := hc
  have pre3 : ∀ t, Steps p.tables e below (s₁.setTop (mkF m 37 #[.val (.int fq), .val (.int tq)] [])) t → Steps p.tables e below (s₁.setTop (entryFrame m #[(.int fq), (.int tq)] 2)) t := fun t k => pre2 t (by
    show Steps p.tables e below (s₁.setTop (mkF m 2 #[.val (.int fq), .val (.int tq)] [(.int fq), (.int tq)])) _
    refine XS.icmpYes X0.here hx rfl (pc0 := 2) (pc' := 37) rfl (hb hby d13_2) rfl (flt hb1).2.1 (by decide) (by decide) ?_
    exact k)
  obtain ⟨fs, hr, hrun, hended, hW, hsame⟩ := X0.leave (v := none) (fun _ => rfl)
  refine ⟨_, _, pre3 _ ?_, hrun, hended, _, _, rfl, ?_, ⟨_, rfl⟩, hW, hsame.mono (by decide) (by decide)⟩
  · show Steps p.tables e below (s₁.setTop (mkF m 37 #[.val (.int fq), .val (.int tq)] [])) _
    exact X0.returnOut hx Bd.returns (hb hby d13_37) hr
  · show Q13 Z fq tq n0 Rst _ s₁.heap _
    rw [e0]
    exact ⟨rfl, N0, R0⟩
theorem d12_0 : decode jdk_65_method_133_code 0 = .ok (.iload_n 1, 1) := by decide +kernel
theorem d12_1 : decode jdk_65_method_133_code 1 = .ok (.iload_n 2, 1) := by decide +kernel
theorem d12_2 : decode jdk_65_method_133_code 2 = .ok (.invokestatic 343, 3) := by decide +kernel
theorem pd__28II_29V : parseMethodDescriptor "(II)V" = some ⟨[.int, .int], none⟩ := by decide +kernel
theorem d12_5 : decode jdk_65_method_133_code 5 = .ok (.iload_n 2, 1) := by decide +kernel
theorem d12_6 : decode jdk_65_method_133_code 6 = .ok (.iload_n 1, 1) := by decide +kernel
theorem d12_7 : decode jdk_65_method_133_code 7 = .ok (.isub, 1) := by decide +kernel
theorem d12_8 : decode jdk_65_method_133_code 8 = .ok (.istore_n 3, 1) := by decide +kernel
theorem d12_9 : decode jdk_65_method_133_code 9 = .ok (.iload_n 3, 1) := by decide +kernel
theorem d12_10 : decode jdk_65_method_133_code 10 = .ok (.newarray .byte, 2) := by decide +kernel
theorem d12_12 : decode jdk_65_method_133_code 12 = .ok (.astore 4, 2) := by decide +kernel
theorem d12_14 : decode jdk_65_method_133_code 14 = .ok (.aload_n 0, 1) := by decide +kernel
theorem d12_15 : decode jdk_65_method_133_code 15 = .ok (.iload_n 1, 1) := by decide +kernel
theorem d12_16 : decode jdk_65_method_133_code 16 = .ok (.aload 4, 2) := by decide +kernel
theorem d12_18 : decode jdk_65_method_133_code 18 = .ok (.iconst 0, 1) := by decide +kernel
theorem d12_19 : decode jdk_65_method_133_code 19 = .ok (.aload_n 0, 1) := by decide +kernel
theorem d12_20 : decode jdk_65_method_133_code 20 = .ok (.arraylength, 1) := by decide +kernel
theorem d12_21 : decode jdk_65_method_133_code 21 = .ok (.iload_n 1, 1) := by decide +kernel
theorem d12_22 : decode jdk_65_method_133_code 22 = .ok (.isub, 1) := by decide +kernel
theorem d12_23 : decode jdk_65_method_133_code 23 = .ok (.iload_n 3, 1) := by decide +kernel
theorem d12_24 : decode jdk_65_method_133_code 24 = .ok (.invokestatic 304, 3) := by decide +kernel
theorem pd__28II_29I : parseMethodDescriptor "(II)I" = some ⟨[.int, .int], some .int⟩ := by decide +kernel
theorem d12_27 : decode jdk_65_method_133_code 27 = .ok (.invokestatic 150, 3) := by decide +kernel
theorem d12_30 : decode jdk_65_method_133_code 30 = .ok (.aload 4, 2) := by decide +kernel
theorem d12_32 : decode jdk_65_method_133_code 32 = .ok (.areturn, 1) := by decide +kernel
theorem ef_12 (m : MethodId) (x0 : Addr) (x1 : Int32) (x2 : Int32) : entryFrame m #[(.ref x0), (.int x1), (.int x2)] 5 = mkF m 0 #[.val (.ref x0), .val (.int x1), .val (.int x2), .unset, .unset] [] := by first | (simp [entryFrame, mkF, argsToLocals, Value.category]; done) | rfl
def Q12 (Z : State) (ax : Addr) (fq : Int32) (tq : Int32) (lv : Int32) (xv : Int32) (n0 : Nat × Nat) (Rst : RL) (v : Option Value) (h : Heap) (L : List Loc) : Prop := ∃ bx : Addr, v = some (.ref bx) ∧ Fr n0.1 L ∧ Rep Z n0 h ((bx, Ar .byte (zb xv)) :: (ax, Ar .byte [(.int (4 : Int32)), (.int lv), (.int (0 : Int32)), (.int (0 : Int32)), (.int (0 : Int32)), (.int (0 : Int32))]) :: Rst)
set_option maxRecDepth 65536 in
set_option maxHeartbeats 40000000 in
theorem rm12 (l : Launch) (Z : State) (a0 : Array Value) (hw : ∀ d ∈ tables_1, d.before a0 Z = true) (ws : List Jvm.Cond) (ax : Addr) (fq : Int32) (tq : Int32) (lv : Int32) (xv : Int32) (h0 : Heap) (n0 : Nat × Nat) (Rst : RL) (R0 : Rep Z n0 h0 ((ax, Ar .byte [(.int (4 : Int32)), (.int lv), (.int (0 : Int32)), (.int (0 : Int32)), (.int (0 : Int32)), (.int (0 : Int32))]) :: Rst)) (hL : L4 lv) (hX : L2 xv) (hf : fq = ((2 : Int32) + lv)) (ht : tq = (((2 : Int32) + lv) + xv)) :
    MetFree l (⟨"java/util/Arrays", "copyOfRangeByte", "([BII)[B"⟩ : MethodName) (head1 (Jvm.Cond.code (⟨"java/util/Arrays", "copyOfRangeByte", "([BII)[B"⟩ : MethodName) jdk_65_method_133_code 5 (some (.array .byte)) :: ws) ({ frames := 1, cells := 1, slots := 1, locals := 18 } : Room)) (fun a U => a = #[(.ref ax), (.int fq), (.int tq)] ∧ Z.Warmed39 U.vm ∧ U.heap = h0) (fun _ _ _ _ _ => True) (fun _ U o U' => ∃ v L, o = .returned v ∧ Q12 Z ax fq tq lv xv n0 Rst v U'.heap L ∧ FrameEnd U o U' L ({ frames := 1, cells := 1, slots := 1, locals := 18 } : Room).cells ({ frames := 1, cells := 1, slots := 1, locals := 18 } : Room).slots) := by
  refine MetFree.of_bodySF (plainFor_of_name pn_java_util_Arrays) hisR ?_
  intro p e s m args below meth c s₁ Bd hml0 hP hK
  obtain ⟨rfl, hZ, hh⟩ := hP
  have hx := Bd.exec
  have hby := Bd.bytes
  have hml : c.maxLocals = 5 := hml0
  have hown : s.vm.findClass "java/util/Arrays" = some m.cls := findClass_of_methodNamed Bd.named
  have hnm := (name_of_methodNamed Bd.named Bd.method).1
  have X0 : Stand p l e ({ frames := 1, cells := 1, slots := 1, locals := 18 } : Room) s m #[(.ref ax), (.int fq), (.int tq)] below meth c s₁ [] 0 0 := Stand.of_body Bd
  have e0 : s₁.heap = h0 := by rw [← hh, Bd.state]; rfl
  have N0 := Fr.nil n0.1
  have pre0 : ∀ t, Steps p.tables e below (s₁.setTop (mkF m 0 #[.val (.ref ax), .val (.int fq), .val (.int tq), .unset, .unset] [])) t → Steps p.tables e below (s₁.setTop (entryFrame m #[(.ref ax), (.int fq), (.int tq)] 5)) t := fun t k => castTop (ef_12 m ax fq tq) k
  have pre1 : ∀ t, Steps p.tables e below (s₁.setTop (mkF m 2 #[.val (.ref ax), .val (.int fq), .val (.int tq), .unset, .unset] [(.int tq), (.int fq)])) t → Steps p.tables e below (s₁.setTop (entryFrame m #[(.ref ax), (.int fq), (.int tq)] 5)) t := fun t k => pre0 t (by
    show Steps p.tables e below (s₁.setTop (mkF m 0 #[.val (.ref ax), .val (.int fq), .val (.int tq), .unset, .unset] [])) _
    refine XS.iloadN X0.here hx rfl (hb hby d12_0) rfl ?_
    refine XS.iloadN X0.here hx rfl (hb hby d12_1) rfl ?_
    exact k)
  obtain ⟨_, _, ⟨T2, L2, k2, n2⟩, -, X2, ⟨Lc2, hQ2, l2, y2, z2⟩, st2⟩ := Jvm.LawKit.callS X0 hx (y := (⟨"java/util/Arrays", "checkLength", "(II)V"⟩ : MethodName)) hown (mvT hZ (hw _ (List.mem_of_getElem? (i := 80) rfl))) (mvT hZ (hw _ (List.mem_of_getElem? (i := 81) rfl))) (mvT hZ (hw _ (List.mem_of_getElem? (i := 75) rfl))) (mvT hZ (hw _ (List.mem_of_getElem? (i := 82) rfl))) (by decide) (backOf (W := 0) (rm13 l Z a0 hw [] fq tq  h0 n0 _ R0 (own_ck hL hX hf ht)) hZ (hw _ (List.mem_of_getElem? (i := 82) rfl)) (hw _ (List.mem_of_getElem? (i := 75) rfl)) (by decide) (by decide)) (g := (mkF m 2 #[.val (.ref ax), .val (.int fq), .val (.int tq), .unset, .unset] [(.int tq), (.int fq)])) rfl (by rw [hml]; rfl) (argsL := [(.int fq), (.int tq)]) (rest := []) (lenOf pd__28II_29V rfl) rfl (by show 2 * 0 + _ ≤ _; exact Nat.le_of_eq rfl) (hb hby d12_2) (fun _ _ => ⟨rfl, e0, (by decide : 0 + 0 ≤ _), (by decide : 0 + 0 ≤ _)⟩)
  dsimp only [Pt.U, Pt.locs, Pt.cells, Pt.slots] at X2 l2 y2 z2 st2 hQ2
  subst y2 z2
  obtain ⟨rfl, N2q, R2⟩ := hQ2
  have N2 : Fr n0.1 L2 := by rw [l2]; exact Fr.app N0 N2q
  replace R2 : Rep Z n0 T2.heap ((ax, Ar .byte [(.int (4 : Int32)), (.int lv), (.int (0 : Int32)), (.int (0 : Int32)), (.int (0 : Int32)), (.int (0 : Int32))]) :: Rst) := R2
  have pre3 : ∀ t, Steps p.tables e below (T2.setTop (mkF m 5 #[.val (.ref ax), .val (.int fq), .val (.int tq), .unset, .unset] [])) t → Steps p.tables e below (s₁.setTop (entryFrame m #[(.ref ax), (.int fq), (.int tq)] 5)) t := fun t k => pre1 t (st2 t k)
  have pre4 : ∀ t, Steps p.tables e below (T2.setTop (mkF m 8 #[.val (.ref ax), .val (.int fq), .val (.int tq), .unset, .unset] [(.int (tq - fq))])) t → Steps p.tables e below (s₁.setTop (entryFrame m #[(.ref ax), (.int fq), (.int tq)] 5)) t := fun t k => pre3 t (by
    show Steps p.tables e below (T2.setTop (mkF m 5 #[.val (.ref ax), .val (.int fq), .val (.int tq), .unset, .unset] [])) _
    refine XS.iloadN X2.here hx rfl (hb hby d12_5) rfl ?_
    refine XS.iloadN X2.here hx rfl (hb hby d12_6) rfl ?_
    refine XS.isub X2.here hx rfl (hb hby d12_7) rfl ?_
    exact k)
  rw [own_len hL hX hf ht] at pre4
  have pre5 : ∀ t, Steps p.tables e below (T2.setTop (mkF m 10 #[.val (.ref ax), .val (.int fq), .val (.int tq), .val (.int xv), .unset] [(.int xv)])) t → Steps p.tables e below (s₁.setTop (entryFrame m #[(.ref ax), (.int fq), (.int tq)] 5)) t := fun t k => pre4 t (by
    show Steps p.tables e below (T2.setTop (mkF m 8 #[.val (.ref ax), .val (.int fq), .val (.int tq), .unset, .unset] [(.int xv)])) _
    refine XS.istoreN X2.here hx rfl (hb hby d12_8) rfl (l' := #[.val (.ref ax), .val (.int fq), .val (.int tq), .val (.int xv), .unset]) rfl ?_
    refine XS.iloadN X2.here hx rfl (hb hby d12_9) rfl ?_
    exact k)
  obtain ⟨T6, h6, b6, X6, e6, R6, st6⟩ := gNewP X2 hx hZ (hw _ (List.mem_of_getElem? (i := 0) rfl)) rfl R2 (g := (mkF m 10 #[.val (.ref ax), .val (.int fq), .val (.int tq), .val (.int xv), .unset] [(.int xv)])) rfl (hb hby d12_10) rfl (own_xn hX) 1 (own_xc hX) (by decide) (by decide) (by decide) (vs := (zb xv)) (rfl)
  replace R6 : Rep Z n0 h6 ((b6, Ar .byte (zb xv)) :: (ax, Ar .byte [(.int (4 : Int32)), (.int lv), (.int (0 : Int32)), (.int (0 : Int32)), (.int (0 : Int32)), (.int (0 : Int32))]) :: Rst) := R6
  have pre7 : ∀ t, Steps p.tables e below (T6.setTop (mkF m 12 #[.val (.ref ax), .val (.int fq), .val (.int tq), .val (.int xv), .unset] [(.ref b6)])) t → Steps p.tables e below (s₁.setTop (entryFrame m #[(.ref ax), (.int fq), (.int tq)] 5)) t := fun t k => pre5 t (st6 t k)
  have pre8 : ∀ t, Steps p.tables e below (T6.setTop (mkF m 24 #[.val (.ref ax), .val (.int fq), .val (.int tq), .val (.int xv), .val (.ref b6)] [(.int xv), (.int ((6 : Int32) - fq)), (.int (0 : Int32)), (.ref b6), (.int fq), (.ref ax)])) t → Steps p.tables e below (s₁.setTop (entryFrame m #[(.ref ax), (.int fq), (.int tq)] 5)) t := fun t k => pre7 t (by
    show Steps p.tables e below (T6.setTop (mkF m 12 #[.val (.ref ax), .val (.int fq), .val (.int tq), .val (.int xv), .unset] [(.ref b6)])) _
    refine XS.astore X6.here hx rfl (hb hby d12_12) rfl rfl (l' := #[.val (.ref ax), .val (.int fq), .val (.int tq), .val (.int xv), .val (.ref b6)]) rfl ?_
    refine XS.aloadN X6.here hx rfl (hb hby d12_14) rfl rfl ?_
    refine XS.iloadN X6.here hx rfl (hb hby d12_15) rfl ?_
    refine XS.aload X6.here hx rfl (hb hby d12_16) rfl rfl ?_
    refine XS.iconst X6.here hx rfl (hb hby d12_18) ?_
    refine XS.aloadN X6.here hx rfl (hb hby d12_19) rfl rfl ?_
    refine gLen X6 hx hZ e6 R6 1 rfl (g := (mkF m 20 #[.val (.ref ax), .val (.int fq), .val (.int tq), .val (.int xv), .val (.ref b6)] [(.ref ax), (.int (0 : Int32)), (.ref b6), (.int fq), (.ref ax)])) rfl rfl (hb hby d12_20) (z := (6 : Int32)) (rfl) _ ?_
    show Steps p.tables e below (T6.setTop (mkF m 21 #[.val (.ref ax), .val (.int fq), .val (.int tq), .val (.int xv), .val (.ref b6)] [(.int (6 : Int32)), (.int (0 : Int32)), (.ref b6), (.int fq), (.ref ax)])) _
    refine XS.iloadN X6.here hx rfl (hb hby d12_21) rfl ?_
    refine XS.isub X6.here hx rfl (hb hby d12_22) rfl ?_
    refine XS.iloadN X6.here hx rfl (hb hby d12_23) rfl ?_
    exact k)
  obtain ⟨_, _, ⟨T9, L9, k9, n9⟩, -, X9, ⟨Lc9, hQ9, l9, y9, z9⟩, st9⟩ := Jvm.LawKit.callS X6 hx (y := (⟨"java/lang/Math", "min", "(II)I"⟩ : MethodName)) hown (mvT hZ (hw _ (List.mem_of_getElem? (i := 83) rfl))) (mvT hZ (hw _ (List.mem_of_getElem? (i := 84) rfl))) (mvT hZ (hw _ (List.mem_of_getElem? (i := 85) rfl))) (mvT hZ (hw _ (List.mem_of_getElem? (i := 86) rfl))) (by decide) (backOf (W := 4) (rm14 l Z a0 hw [] ((6 : Int32) - fq) xv  h6 n0 _ R6 ) hZ (hw _ (List.mem_of_getElem? (i := 86) rfl)) (hw _ (List.mem_of_getElem? (i := 85) rfl)) (by decide) (by decide)) (g := (mkF m 24 #[.val (.ref ax), .val (.int fq), .val (.int tq), .val (.int xv), .val (.ref b6)] [(.int xv), (.int ((6 : Int32) - fq)), (.int (0 : Int32)), (.ref b6), (.int fq), (.ref ax)])) rfl (by rw [hml]; rfl) (argsL := [(.int ((6 : Int32) - fq)), (.int xv)]) (rest := [(.int (0 : Int32)), (.ref b6), (.int fq), (.ref ax)]) (lenOf pd__28II_29I rfl) rfl (by show 2 * 0 + _ ≤ _; exact Nat.le_of_eq rfl) (hb hby d12_24) (fun _ _ => ⟨rfl, e6, (by decide : 1 + 0 ≤ _), (by decide : 1 + 0 ≤ _)⟩)
  dsimp only [Pt.U, Pt.locs, Pt.cells, Pt.slots] at X9 l9 y9 z9 st9 hQ9
  subst y9 z9
  obtain ⟨rfl, N9q, R9⟩ := hQ9
  have N9 : Fr n0.1 L9 := by rw [l9]; exact Fr.app N2 N9q
  replace R9 : Rep Z n0 T9.heap ((b6, Ar .byte (zb xv)) :: (ax, Ar .byte [(.int (4 : Int32)), (.int lv), (.int (0 : Int32)), (.int (0 : Int32)), (.int (0 : Int32)), (.int (0 : Int32))]) :: Rst) := R9
  have pre10 : ∀ t, Steps p.tables e below (T9.setTop (mkF m 27 #[.val (.ref ax), .val (.int fq), .val (.int tq), .val (.int xv), .val (.ref b6)] [(.int (F14 ((6 : Int32) - fq) xv)), (.int (0 : Int32)), (.ref b6), (.int fq), (.ref ax)])) t → Steps p.tables e below (s₁.setTop (entryFrame m #[(.ref ax), (.int fq), (.int tq)] 5)) t := fun t k => pre8 t (st9 t k)
  rw [own_mn hL hX hf] at pre10
  obtain ⟨T11, h11, ls11, X11, e11, N11, R11, st11⟩ := gCopy X9 hx hZ hown (hw _ (List.mem_of_getElem? (i := 87) rfl)) (hw _ (List.mem_of_getElem? (i := 90) rfl)) (hw _ (List.mem_of_getElem? (i := 88) rfl)) (hw _ (List.mem_of_getElem? (i := 89) rfl)) rfl N9 R9 1 0 rfl rfl rfl (show (6 : Nat) < 2 ^ 31 by decide) (own_zl hX) (sp := fq) (dp := (0 : Int32)) (nn := xv) (own_f0 hL hf) (by decide) (own_xn hX) (fq.toNatClampNeg) (0) (xv.toNatClampNeg) (rfl) (rfl) (rfl) (own_h4 hL hX hf) (own_h5 hX) (g := (mkF m 27 #[.val (.ref ax), .val (.int fq), .val (.int tq), .val (.int xv), .val (.ref b6)] [(.int xv), (.int (0 : Int32)), (.ref b6), (.int fq), (.ref ax)])) rfl (by rw [hml]; rfl) rfl (hb hby d12_27) (by decide) (W := 0) (by show 2 * 0 + _ ≤ _; exact Nat.le_of_eq rfl) (by decide)
  replace R11 : Rep Z n0 h11 ((b6, Ar .byte (zb xv)) :: (ax, Ar .byte [(.int (4 : Int32)), (.int lv), (.int (0 : Int32)), (.int (0 : Int32)), (.int (0 : Int32)), (.int (0 : Int32))]) :: Rst) := by have z := R11; rw [own_cp hL hX hf] at z; exact z
  have pre12 : ∀ t, Steps p.tables e below (T11.setTop (mkF m 30 #[.val (.ref ax), .val (.int fq), .val (.int tq), .val (.int xv), .val (.ref b6)] [])) t → Steps p.tables e below (s₁.setTop (entryFrame m #[(.ref ax), (.int fq), (.int tq)] 5)) t := fun t k => pre10 t (st11 t k)
  have pre13 : ∀ t, Steps p.tables e below (T11.setTop (mkF m 32 #[.val (.ref ax), .val (.int fq), .val (.int tq), .val (.int xv), .val (.ref b6)] [(.ref b6)])) t → Steps p.tables e below (s₁.setTop (entryFrame m #[(.ref ax), (.int fq), (.int tq)] 5)) t := fun t k => pre12 t (by
    show Steps p.tables e below (T11.setTop (mkF m 30 #[.val (.ref ax), .val (.int fq), .val (.int tq), .val (.int xv), .val (.ref b6)] [])) _
    refine XS.aload X11.here hx rfl (hb hby d12_30) rfl rfl ?_
    exact k)
  obtain ⟨fs, hr, hrun, hended, hW, hsame⟩ := X11.leave (v := some (.ref b6)) (fun h => by rw [Bd.returns] at h; cases h)
  refine ⟨_, _, pre13 _ ?_, hrun, hended, _, _, rfl, ?_, ⟨_, rfl⟩, hW, hsame.mono (by decide) (by decide)⟩
  · show Steps p.tables e below (T11.setTop (mkF m 32 #[.val (.ref ax), .val (.int fq), .val (.int tq), .val (.int xv), .val (.ref b6)] [(.ref b6)])) _
    exact Jvm.Own.retA X11 hx (t := (.array .byte)) rfl Bd.returns (hb hby d12_32) hr
  · show Q12 Z ax fq tq lv xv n0 Rst _ T11.heap _
    rw [e11]
    exact ⟨b6, rfl, N11, R11⟩
theorem d11_0 : decode jdk_65_method_132_code 0 = .ok (.iload_n 1, 1) := by decide +kernel
theorem d11_1 : decode jdk_65_method_132_code 1 = .ok (.ifCond .ne 9, 3) := by decide +kernel
theorem d11_10 : decode jdk_65_method_132_code 10 = .ok (.aload_n 0, 1) := by decide +kernel
theorem d11_11 : decode jdk_65_method_132_code 11 = .ok (.iload_n 1, 1) := by decide +kernel
theorem d11_12 : decode jdk_65_method_132_code 12 = .ok (.iload_n 2, 1) := by decide +kernel
theorem d11_13 : decode jdk_65_method_132_code 13 = .ok (.invokestatic 339, 3) := by decide +kernel
theorem pd__28_5bBII_29_5bB : parseMethodDescriptor "([BII)[B" = some ⟨[(.array .byte), .int, .int], some (.array .byte)⟩ := by decide +kernel
theorem d11_16 : decode jdk_65_method_132_code 16 = .ok (.areturn, 1) := by decide +kernel
theorem ef_11 (m : MethodId) (x0 : Addr) (x1 : Int32) (x2 : Int32) : entryFrame m #[(.ref x0), (.int x1), (.int x2)] 3 = mkF m 0 #[.val (.ref x0), .val (.int x1), .val (.int x2)] [] := by first | (simp [entryFrame, mkF, argsToLocals, Value.category]; done) | rfl
def Q11 (Z : State) (ax : Addr) (fq : Int32) (tq : Int32) (lv : Int32) (xv : Int32) (n0 : Nat × Nat) (Rst : RL) (v : Option Value) (h : Heap) (L : List Loc) : Prop := ∃ bx : Addr, v = some (.ref bx) ∧ Fr n0.1 L ∧ Rep Z n0 h ((bx, Ar .byte (zb xv)) :: (ax, Ar .byte [(.int (4 : Int32)), (.int lv), (.int (0 : Int32)), (.int (0 : Int32)), (.int (0 : Int32)), (.int (0 : Int32))]) :: Rst)
set_option maxRecDepth 65536 in
set_option maxHeartbeats 40000000 in
theorem rm11 (l : Launch) (Z : State) (a0 : Array Value) (hw : ∀ d ∈ tables_1, d.before a0 Z = true) (ws : List Jvm.Cond) (ax : Addr) (fq : Int32) (tq : Int32) (lv : Int32) (xv : Int32) (h0 : Heap) (n0 : Nat × Nat) (Rst : RL) (R0 : Rep Z n0 h0 ((ax, Ar .byte [(.int (4 : Int32)), (.int lv), (.int (0 : Int32)), (.int (0 : Int32)), (.int (0 : Int32)), (.int (0 : Int32))]) :: Rst)) (hL : L4 lv) (hX : L2 xv) (hf : fq = ((2 : Int32) + lv)) (ht : tq = (((2 : Int32) + lv) + xv)) :
    MetFree l (⟨"java/util/Arrays", "copyOfRange", "([BII)[B"⟩ : MethodName) (head1 (Jvm.Cond.code (⟨"java/util/Arrays", "copyOfRange", "([BII)[B"⟩ : MethodName) jdk_65_method_132_code 3 (some (.array .byte)) :: ws) ({ frames := 2, cells := 1, slots := 1, locals := 34 } : Room)) (fun a U => a = #[(.ref ax), (.int fq), (.int tq)] ∧ Z.Warmed39 U.vm ∧ U.heap = h0) (fun _ _ _ _ _ => True) (fun _ U o U' => ∃ v L, o = .returned v ∧ Q11 Z ax fq tq lv xv n0 Rst v U'.heap L ∧ FrameEnd U o U' L ({ frames := 2, cells := 1, slots := 1, locals := 34 } : Room).cells ({ frames := 2, cells := 1, slots := 1, locals := 34 } : Room).slots) := by
  refine MetFree.of_bodySF (plainFor_of_name pn_java_util_Arrays) hisR ?_
  intro p e s m args below meth c s₁ Bd hml0 hP hK
  obtain ⟨rfl, hZ, hh⟩ := hP
  have hx := Bd.exec
  have hby := Bd.bytes
  have hml : c.maxLocals = 3 := hml0
  have hown : s.vm.findClass "java/util/Arrays" = some m.cls := findClass_of_methodNamed Bd.named
  have hnm := (name_of_methodNamed Bd.named Bd.method).1
  have X0 : Stand p l e ({ frames := 2, cells := 1, slots := 1, locals := 34 } : Room) s m #[(.ref ax), (.int fq), (.int tq)] below meth c s₁ [] 0 0 := Stand.of_body Bd
  have e0 : s₁.heap = h0 := by rw [← hh, Bd.state]; rfl
  have N0 := Fr.nil n0.1
  have pre0 : ∀ t, Steps p.tables e below (s₁.setTop (mkF m 0 #[.val (.ref ax), .val (.int fq), .val (.int tq)] [])) t → Steps p.tables e below (s₁.setTop (entryFrame m #[(.ref ax), (.int fq), (.int tq)] 3)) t := fun t k => castTop (ef_11 m ax fq tq) k
  have pre2 : ∀ t, Steps p.tables e below (s₁.setTop (mkF m 1 #[.val (.ref ax), .val (.int fq), .val (.int tq)] [(.int fq)])) t → Steps p.tables e below (s₁.setTop (entryFrame m #[(.ref ax), (.int fq), (.int tq)] 3)) t := fun t k => pre0 t (by
    show Steps p.tables e below (s₁.setTop (mkF m 0 #[.val (.ref ax), .val (.int fq), .val (.int tq)] [])) _
    refine XS.iloadN X0.here hx rfl (hb hby d11_0) rfl ?_
    exact k)
  have hb1 : ¬ (fq = (0 : Int32)) := own_fn hL hf
  have pre3 : ∀ t, Steps p.tables e below (s₁.setTop (mkF m 13 #[.val (.ref ax), .val (.int fq), .val (.int tq)] [(.int tq), (.int fq), (.ref ax)])) t → Steps p.tables e below (s₁.setTop (entryFrame m #[(.ref ax), (.int fq), (.int tq)] 3)) t := fun t k => pre2 t (by
    show Steps p.tables e below (s₁.setTop (mkF m 1 #[.val (.ref ax), .val (.int fq), .val (.int tq)] [(.int fq)])) _
    refine XS.ifYes X0.here hx rfl (pc0 := 1) (pc' := 10) rfl (hb hby d11_1) rfl ((if0 _ _).trans (feq hb1).2) (by decide) (by decide) ?_
    refine XS.aloadN X0.here hx rfl (hb hby d11_10) rfl rfl ?_
    refine XS.iloadN X0.here hx rfl (hb hby d11_11) rfl ?_
    refine XS.iloadN X0.here hx rfl (hb hby d11_12) rfl ?_
    exact k)
  obtain ⟨_, _, ⟨T4, L4, k4, n4⟩, -, X4, ⟨Lc4, hQ4, l4, y4, z4⟩, st4⟩ := Jvm.LawKit.callS X0 hx (y := (⟨"java/util/Arrays", "copyOfRangeByte", "([BII)[B"⟩ : MethodName)) hown (mvT hZ (hw _ (List.mem_of_getElem? (i := 77) rfl))) (mvT hZ (hw _ (List.mem_of_getElem? (i := 78) rfl))) (mvT hZ (hw _ (List.mem_of_getElem? (i := 75) rfl))) (mvT hZ (hw _ (List.mem_of_getElem? (i := 79) rfl))) (by decide) (backOf (W := 0) (rm12 l Z a0 hw [] ax fq tq _ _ h0 n0 _ R0 (hL) (hX) (hf) (ht)) hZ (hw _ (List.mem_of_getElem? (i := 79) rfl)) (hw _ (List.mem_of_getElem? (i := 75) rfl)) (by decide) (by decide)) (g := (mkF m 13 #[.val (.ref ax), .val (.int fq), .val (.int tq)] [(.int tq), (.int fq), (.ref ax)])) rfl (by rw [hml]; rfl) (argsL := [(.ref ax), (.int fq), (.int tq)]) (rest := []) (lenOf pd__28_5bBII_29_5bB rfl) rfl (by show 2 * 0 + _ ≤ _; exact Nat.le_of_eq rfl) (hb hby d11_13) (fun _ _ => ⟨rfl, e0, (by decide : 0 + 1 ≤ _), (by decide : 0 + 1 ≤ _)⟩)
  dsimp only [Pt.U, Pt.locs, Pt.cells, Pt.slots] at X4 l4 y4 z4 st4 hQ4
  subst y4 z4
  obtain ⟨bx4, rfl, N4q, R4⟩ := hQ4
  have N4 : Fr n0.1 L4 := by rw [l4]; exact Fr.app N0 N4q
  replace R4 : Rep Z n0 T4.heap ((bx4, Ar .byte (zb xv)) :: (ax, Ar .byte [(.int (4 : Int32)), (.int lv), (.int (0 : Int32)), (.int (0 : Int32)), (.int (0 : Int32)), (.int (0 : Int32))]) :: Rst) := R4
  have pre5 : ∀ t, Steps p.tables e below (T4.setTop (mkF m 16 #[.val (.ref ax), .val (.int fq), .val (.int tq)] [(.ref bx4)])) t → Steps p.tables e below (s₁.setTop (entryFrame m #[(.ref ax), (.int fq), (.int tq)] 3)) t := fun t k => pre3 t (st4 t k)
  obtain ⟨fs, hr, hrun, hended, hW, hsame⟩ := X4.leave (v := some (.ref bx4)) (fun h => by rw [Bd.returns] at h; cases h)
  refine ⟨_, _, pre5 _ ?_, hrun, hended, _, _, rfl, ?_, ⟨_, rfl⟩, hW, hsame.mono (by decide) (by decide)⟩
  · show Steps p.tables e below (T4.setTop (mkF m 16 #[.val (.ref ax), .val (.int fq), .val (.int tq)] [(.ref bx4)])) _
    exact Jvm.Own.retA X4 hx (t := (.array .byte)) rfl Bd.returns (hb hby d11_16) hr
  · show Q11 Z ax fq tq lv xv n0 Rst _ T4.heap _
    exact ⟨bx4, rfl, N4, R4⟩
theorem d10_0 : decode prog_13_method_6_code 0 = .ok (.aload_n 0, 1) := by decide +kernel
theorem d10_1 : decode prog_13_method_6_code 1 = .ok (.getfield 7, 3) := by decide +kernel
theorem d10_4 : decode prog_13_method_6_code 4 = .ok (.aload_n 0, 1) := by decide +kernel
theorem d10_5 : decode prog_13_method_6_code 5 = .ok (.getfield 13, 3) := by decide +kernel
theorem d10_8 : decode prog_13_method_6_code 8 = .ok (.aload_n 0, 1) := by decide +kernel
theorem d10_9 : decode prog_13_method_6_code 9 = .ok (.getfield 17, 3) := by decide +kernel
theorem d10_12 : decode prog_13_method_6_code 12 = .ok (.invokestatic 72, 3) := by decide +kernel
theorem d10_15 : decode prog_13_method_6_code 15 = .ok (.astore_n 1, 1) := by decide +kernel
theorem d10_16 : decode prog_13_method_6_code 16 = .ok (.aload_n 0, 1) := by decide +kernel
theorem d10_17 : decode prog_13_method_6_code 17 = .ok (.aload_n 0, 1) := by decide +kernel
theorem d10_18 : decode prog_13_method_6_code 18 = .ok (.getfield 17, 3) := by decide +kernel
theorem d10_21 : decode prog_13_method_6_code 21 = .ok (.putfield 13, 3) := by decide +kernel
theorem d10_24 : decode prog_13_method_6_code 24 = .ok (.aload_n 1, 1) := by decide +kernel
theorem d10_25 : decode prog_13_method_6_code 25 = .ok (.areturn, 1) := by decide +kernel
theorem ef_10 (m : MethodId) (x0 : Addr) : entryFrame m #[(.ref x0)] 2 = mkF m 0 #[.val (.ref x0), .unset] [] := by first | (simp [entryFrame, mkF, argsToLocals, Value.category]; done) | rfl
def Q10 (Z : State) (ax : Addr) (bx : Addr) (fq : Int32) (tq : Int32) (lv : Int32) (xv : Int32) (n0 : Nat × Nat) (Rst : RL) (v : Option Value) (h : Heap) (L : List Loc) : Prop := ∃ rx : Addr, v = some (.ref rx) ∧ Fr n0.1 L ∧ Rep Z n0 h ((rx, Ar .byte (zb xv)) :: (ax, Obj "com/example/sidetrack/sidetrack/codec/BerReader" [("bytes", "[B", (.ref bx)), ("position", "I", (.int tq)), ("end", "I", (.int tq))]) :: (bx, Ar .byte [(.int (4 : Int32)), (.int lv), (.int (0 : Int32)), (.int (0 : Int32)), (.int (0 : Int32)), (.int (0 : Int32))]) :: Rst)
set_option maxRecDepth 65536 in
set_option maxHeartbeats 40000000 in
theorem rm10 (l : Launch) (Z : State) (a0 : Array Value) (hw : ∀ d ∈ tables_1, d.before a0 Z = true) (ws : List Jvm.Cond) (ax : Addr) (bx : Addr) (fq : Int32) (tq : Int32) (lv : Int32) (xv : Int32) (h0 : Heap) (n0 : Nat × Nat) (Rst : RL) (R0 : Rep Z n0 h0 ((ax, Obj "com/example/sidetrack/sidetrack/codec/BerReader" [("bytes", "[B", (.ref bx)), ("position", "I", (.int fq)), ("end", "I", (.int tq))]) :: (bx, Ar .byte [(.int (4 : Int32)), (.int lv), (.int (0 : Int32)), (.int (0 : Int32)), (.int (0 : Int32)), (.int (0 : Int32))]) :: Rst)) (hL : L4 lv) (hX : L2 xv) (hf : fq = ((2 : Int32) + lv)) (ht : tq = (((2 : Int32) + lv) + xv)) :
    MetFree l (⟨"com/example/sidetrack/sidetrack/codec/BerReader", "rest", "()[B"⟩ : MethodName) (head1 (Jvm.Cond.code (⟨"com/example/sidetrack/sidetrack/codec/BerReader", "rest", "()[B"⟩ : MethodName) prog_13_method_6_code 2 (some (.array .byte)) :: ws) ({ frames := 3, cells := 1, slots := 1, locals := 48 } : Room)) (fun a U => a = #[(.ref ax)] ∧ Z.Warmed39 U.vm ∧ U.heap = h0) (fun _ _ _ _ _ => True) (fun _ U o U' => ∃ v L, o = .returned v ∧ Q10 Z ax bx fq tq lv xv n0 Rst v U'.heap L ∧ FrameEnd U o U' L ({ frames := 3, cells := 1, slots := 1, locals := 48 } : Room).cells ({ frames := 3, cells := 1, slots := 1, locals := 48 } : Room).slots) := by
  refine MetFree.of_bodySF (plainFor_of_name pn_com_example_sidetrack_sidetrack_codec_BerReader) hisR ?_
  intro p e s m args below meth c s₁ Bd hml0 hP hK
  obtain ⟨rfl, hZ, hh⟩ := hP
  have hx := Bd.exec
  have hby := Bd.bytes
  have hml : c.maxLocals = 2 := hml0
  have hown : s.vm.findClass "com/example/sidetrack/sidetrack/codec/BerReader" = some m.cls := findClass_of_methodNamed Bd.named
  have hnm := (name_of_methodNamed Bd.named Bd.method).1
  have X0 : Stand p l e ({ frames := 3, cells := 1, slots := 1, locals := 48 } : Room) s m #[(.ref ax)] below meth c s₁ [] 0 0 := Stand.of_body Bd
  have e0 : s₁.heap = h0 := by rw [← hh, Bd.state]; rfl
  have N0 := Fr.nil n0.1
  have pre0 : ∀ t, Steps p.tables e below (s₁.setTop (mkF m 0 #[.val (.ref ax), .unset] [])) t → Steps p.tables e below (s₁.setTop (entryFrame m #[(.ref ax)] 2)) t := fun t k => castTop (ef_10 m ax) k
  have pre1 : ∀ t, Steps p.tables e below (s₁.setTop (mkF m 1 #[.val (.ref ax), .unset] [(.ref ax)])) t → Steps p.tables e below (s₁.setTop (entryFrame m #[(.ref ax)] 2)) t := fun t k => pre0 t (by
    show Steps p.tables e below (s₁.setTop (mkF m 0 #[.val (.ref ax), .unset] [])) _
    refine XS.aloadN X0.here hx rfl (hb hby d10_0) rfl rfl ?_
    exact k)
  obtain ⟨T2, X2, e2, st2⟩ := gGet X0 hx hZ hown (host := "") (Or.inl (hw _ (List.mem_of_getElem? (i := 10) rfl))) e0 R0 0 0 rfl rfl (g := (mkF m 1 #[.val (.ref ax), .unset] [(.ref ax)])) rfl rfl (hb hby d10_1)
  have pre3 : ∀ t, Steps p.tables e below (T2.setTop (mkF m 4 #[.val (.ref ax), .unset] [(.ref bx)])) t → Steps p.tables e below (s₁.setTop (entryFrame m #[(.ref ax)] 2)) t := fun t k => pre1 t (st2 t k)
  have pre4 : ∀ t, Steps p.tables e below (T2.setTop (mkF m 5 #[.val (.ref ax), .unset] [(.ref ax), (.ref bx)])) t → Steps p.tables e below (s₁.setTop (entryFrame m #[(.ref ax)] 2)) t := fun t k => pre3 t (by
    show Steps p.tables e below (T2.setTop (mkF m 4 #[.val (.ref ax), .unset] [(.ref bx)])) _
    refine XS.aloadN X2.here hx rfl (hb hby d10_4) rfl rfl ?_
    exact k)
  obtain ⟨T5, X5, e5, st5⟩ := gGet X2 hx hZ hown (host := "") (Or.inl (hw _ (List.mem_of_getElem? (i := 12) rfl))) e2 R0 0 1 rfl rfl (g := (mkF m 5 #[.val (.ref ax), .unset] [(.ref ax), (.ref bx)])) rfl rfl (hb hby d10_5)
  have pre6 : ∀ t, Steps p.tables e below (T5.setTop (mkF m 8 #[.val (.ref ax), .unset] [(.int fq), (.ref bx)])) t → Steps p.tables e below (s₁.setTop (entryFrame m #[(.ref ax)] 2)) t := fun t k => pre4 t (st5 t k)
  have pre7 : ∀ t, Steps p.tables e below (T5.setTop (mkF m 9 #[.val (.ref ax), .unset] [(.ref ax), (.int fq), (.ref bx)])) t → Steps p.tables e below (s₁.setTop (entryFrame m #[(.ref ax)] 2)) t := fun t k => pre6 t (by
    show Steps p.tables e below (T5.setTop (mkF m 8 #[.val (.ref ax), .unset] [(.int fq), (.ref bx)])) _
    refine XS.aloadN X5.here hx rfl (hb hby d10_8) rfl rfl ?_
    exact k)
  obtain ⟨T8, X8, e8, st8⟩ := gGet X5 hx hZ hown (host := "") (Or.inl (hw _ (List.mem_of_getElem? (i := 14) rfl))) e5 R0 0 2 rfl rfl (g := (mkF m 9 #[.val (.ref ax), .unset] [(.ref ax), (.int fq), (.ref bx)])) rfl rfl (hb hby d10_9)
  have pre9 : ∀ t, Steps p.tables e below (T8.setTop (mkF m 12 #[.val (.ref ax), .unset] [(.int tq), (.int fq), (.ref bx)])) t → Steps p.tables e below (s₁.setTop (entryFrame m #[(.ref ax)] 2)) t := fun t k => pre7 t (st8 t k)
  have R11 : Rep Z n0 h0 ((bx, Ar .byte [(.int (4 : Int32)), (.int lv), (.int (0 : Int32)), (.int (0 : Int32)), (.int (0 : Int32)), (.int (0 : Int32))]) :: (ax, Obj "com/example/sidetrack/sidetrack/codec/BerReader" [("bytes", "[B", (.ref bx)), ("position", "I", (.int fq)), ("end", "I", (.int tq))]) :: Rst) := R0.front 1 rfl rfl
  obtain ⟨_, _, ⟨T10, L10, k10, n10⟩, -, X10, ⟨Lc10, hQ10, l10, y10, z10⟩, st10⟩ := Jvm.LawKit.callS X8 hx (y := (⟨"java/util/Arrays", "copyOfRange", "([BII)[B"⟩ : MethodName)) hown (mvT hZ (hw _ (List.mem_of_getElem? (i := 73) rfl))) (mvT hZ (hw _ (List.mem_of_getElem? (i := 74) rfl))) (mvT hZ (hw _ (List.mem_of_getElem? (i := 75) rfl))) (mvT hZ (hw _ (List.mem_of_getElem? (i := 76) rfl))) (by decide) (backOf (W := 0) (rm11 l Z a0 hw [] bx fq tq _ _ h0 n0 _ R11 (hL) (hX) (hf) (ht)) hZ (hw _ (List.mem_of_getElem? (i := 76) rfl)) (hw _ (List.mem_of_getElem? (i := 75) rfl)) (by decide) (by decide)) (g := (mkF m 12 #[.val (.ref ax), .unset] [(.int tq), (.int fq), (.ref bx)])) rfl (by rw [hml]; rfl) (argsL := [(.ref bx), (.int fq), (.int tq)]) (rest := []) (lenOf pd__28_5bBII_29_5bB rfl) rfl (by show 2 * 0 + _ ≤ _; exact Nat.le_of_eq rfl) (hb hby d10_12) (fun _ _ => ⟨rfl, e8, (by decide : 0 + 1 ≤ _), (by decide : 0 + 1 ≤ _)⟩)
  dsimp only [Pt.U, Pt.locs, Pt.cells, Pt.slots] at X10 l10 y10 z10 st10 hQ10
  subst y10 z10
  obtain ⟨bx10, rfl, N10q, R10⟩ := hQ10
  have N10 : Fr n0.1 L10 := by rw [l10]; exact Fr.app N0 N10q
  replace R10 : Rep Z n0 T10.heap ((bx10, Ar .byte (zb xv)) :: (bx, Ar .byte [(.int (4 : Int32)), (.int lv), (.int (0 : Int32)), (.int (0 : Int32)), (.int (0 : Int32)), (.int (0 : Int32))]) :: (ax, Obj "com/example/sidetrack/sidetrack/codec/BerReader" [("bytes", "[B", (.ref bx)), ("position", "I", (.int fq)), ("end", "I", (.int tq))]) :: Rst) := R10
  have pre12 : ∀ t, Steps p.tables e below (T10.setTop (mkF m 15 #[.val (.ref ax), .unset] [(.ref bx10)])) t → Steps p.tables e below (s₁.setTop (entryFrame m #[(.ref ax)] 2)) t := fun t k => pre9 t (st10 t k)
  have pre13 : ∀ t, Steps p.tables e below (T10.setTop (mkF m 18 #[.val (.ref ax), .val (.ref bx10)] [(.ref ax), (.ref ax)])) t → Steps p.tables e below (s₁.setTop (entryFrame m #[(.ref ax)] 2)) t := fun t k => pre12 t (by
    show Steps p.tables e below (T10.setTop (mkF m 15 #[.val (.ref ax), .unset] [(.ref bx10)])) _
    refine XS.astoreN X10.here hx rfl (hb hby d10_15) rfl rfl (l' := #[.val (.ref ax), .val (.ref bx10)]) rfl ?_
    refine XS.aloadN X10.here hx rfl (hb hby d10_16) rfl rfl ?_
    refine XS.aloadN X10.here hx rfl (hb hby d10_17) rfl rfl ?_
    exact k)
  obtain ⟨T14, X14, e14, st14⟩ := gGet X10 hx hZ hown (host := "") (Or.inl (hw _ (List.mem_of_getElem? (i := 14) rfl))) rfl R10 2 2 rfl rfl (g := (mkF m 18 #[.val (.ref ax), .val (.ref bx10)] [(.ref ax), (.ref ax)])) rfl rfl (hb hby d10_18)
  have pre15 : ∀ t, Steps p.tables e below (T14.setTop (mkF m 21 #[.val (.ref ax), .val (.ref bx10)] [(.int tq), (.ref ax)])) t → Steps p.tables e below (s₁.setTop (entryFrame m #[(.ref ax)] 2)) t := fun t k => pre13 t (st14 t k)
  obtain ⟨T16, h16, ls16, X16, e16, N16, R16, st16⟩ := gPut X14 hx hZ hown (host := "") (Or.inl (hw _ (List.mem_of_getElem? (i := 12) rfl))) e14 N10 R10 2 1 rfl rfl (Or.inl (hw _ (List.mem_of_getElem? (i := 13) rfl))) (hw _ (List.mem_of_getElem? (i := 2) rfl)) (ty := .int) (by decide) rfl rfl (g := (mkF m 21 #[.val (.ref ax), .val (.ref bx10)] [(.int tq), (.ref ax)])) rfl rfl (hb hby d10_21)
  replace R16 : Rep Z n0 h16 ((bx10, Ar .byte (zb xv)) :: (bx, Ar .byte [(.int (4 : Int32)), (.int lv), (.int (0 : Int32)), (.int (0 : Int32)), (.int (0 : Int32)), (.int (0 : Int32))]) :: (ax, Obj "com/example/sidetrack/sidetrack/codec/BerReader" [("bytes", "[B", (.ref bx)), ("position", "I", (.int tq)), ("end", "I", (.int tq))]) :: Rst) := R16
  have pre17 : ∀ t, Steps p.tables e below (T16.setTop (mkF m 24 #[.val (.ref ax), .val (.ref bx10)] [])) t → Steps p.tables e below (s₁.setTop (entryFrame m #[(.ref ax)] 2)) t := fun t k => pre15 t (st16 t k)
  have pre18 : ∀ t, Steps p.tables e below (T16.setTop (mkF m 25 #[.val (.ref ax), .val (.ref bx10)] [(.ref bx10)])) t → Steps p.tables e below (s₁.setTop (entryFrame m #[(.ref ax)] 2)) t := fun t k => pre17 t (by
    show Steps p.tables e below (T16.setTop (mkF m 24 #[.val (.ref ax), .val (.ref bx10)] [])) _
    refine XS.aloadN X16.here hx rfl (hb hby d10_24) rfl rfl ?_
    exact k)
  obtain ⟨fs, hr, hrun, hended, hW, hsame⟩ := X16.leave (v := some (.ref bx10)) (fun h => by rw [Bd.returns] at h; cases h)
  refine ⟨_, _, pre18 _ ?_, hrun, hended, _, _, rfl, ?_, ⟨_, rfl⟩, hW, hsame.mono (by decide) (by decide)⟩
  · show Steps p.tables e below (T16.setTop (mkF m 25 #[.val (.ref ax), .val (.ref bx10)] [(.ref bx10)])) _
    exact Jvm.Own.retA X16 hx (t := (.array .byte)) rfl Bd.returns (hb hby d10_25) hr
  · show Q10 Z ax bx fq tq lv xv n0 Rst _ T16.heap _
    rw [e16]
    have R19 : Rep Z n0 h16 ((bx, Ar .byte [(.int (4 : Int32)), (.int lv), (.int (0 : Int32)), (.int (0 : Int32)), (.int (0 : Int32)), (.int (0 : Int32))]) :: (bx10, Ar .byte (zb xv)) :: (ax, Obj "com/example/sidetrack/sidetrack/codec/BerReader" [("bytes", "[B", (.ref bx)), ("position", "I", (.int tq)), ("end", "I", (.int tq))]) :: Rst) := R16.front 1 rfl rfl
    have R20 : Rep Z n0 h16 ((ax, Obj "com/example/sidetrack/sidetrack/codec/BerReader" [("bytes", "[B", (.ref bx)), ("position", "I", (.int tq)), ("end", "I", (.int tq))]) :: (bx, Ar .byte [(.int (4 : Int32)), (.int lv), (.int (0 : Int32)), (.int (0 : Int32)), (.int (0 : Int32)), (.int (0 : Int32))]) :: (bx10, Ar .byte (zb xv)) :: Rst) := R19.front 2 rfl rfl
    have R21 : Rep Z n0 h16 ((bx10, Ar .byte (zb xv)) :: (ax, Obj "com/example/sidetrack/sidetrack/codec/BerReader" [("bytes", "[B", (.ref bx)), ("position", "I", (.int tq)), ("end", "I", (.int tq))]) :: (bx, Ar .byte [(.int (4 : Int32)), (.int lv), (.int (0 : Int32)), (.int (0 : Int32)), (.int (0 : Int32)), (.int (0 : Int32))]) :: Rst) := R20.front 2 rfl rfl
    exact ⟨bx10, rfl, N16, R21⟩
theorem pd__28Ljava_2flang_2fString_3b_29Lcom_2fexample_2fsidetrack_2fsidetrack_2fcodec_2fBerReader_24Element_3b : parseMethodDescriptor "(Ljava/lang/String;)Lcom/example/sidetrack/sidetrack/codec/BerReader$Element;" = some ⟨[(.object "java/lang/String")], some (.object "com/example/sidetrack/sidetrack/codec/BerReader$Element")⟩ := by decide +kernel
theorem pd__28_29Lcom_2fexample_2fsidetrack_2fsidetrack_2fcodec_2fBerReader_3b : parseMethodDescriptor "()Lcom/example/sidetrack/sidetrack/codec/BerReader;" = some ⟨[], some (.object "com/example/sidetrack/sidetrack/codec/BerReader")⟩ := by decide +kernel
theorem pd__28_29_5bB : parseMethodDescriptor "()[B" = some ⟨[], some (.array .byte)⟩ := by decide +kernel
theorem pn_com_example_sidetrack_sidetrack_codec_BerReaderAtEndPinLaw : plainName "com/example/sidetrack/sidetrack/codec/BerReaderAtEndPinLaw" = true := by first | (simp [plainName, overriddenIn]; done) | decide +kernel
theorem ef_0 (m : MethodId) (x0 : Int32) (x1 : Int32) (x2 : Int32) (x3 : Int32) : entryFrame m #[(.int x0), (.int x1), (.int x2), (.int x3)] maxLocals = mkF m 0 #[.val (.int x0), .val (.int x1), .val (.int x2), .val (.int x3), .unset, .unset, .unset, .unset, .unset, .unset, .unset, .unset, .unset, .unset, .unset, .unset, .unset, .unset] [] := by first | (simp [entryFrame, mkF, argsToLocals, Value.category, maxLocals]; done) | rfl
def Q0 (Z : State) (xa : Int32) (xb : Int32) (xc : Int32) (xd : Int32) (n0 : Nat × Nat) (Rst : RL) (v : Option Value) (h : Heap) (L : List Loc) : Prop := v = some (.int (1 : Int32)) ∧ Fr n0.1 L ∧ Rep Z n0 h (Rst)
set_option maxRecDepth 65536 in
set_option maxHeartbeats 40000000 in
theorem rm0 (l : Launch) (Z : State) (a0 : Array Value) (hw : ∀ d ∈ tables_1, d.before a0 Z = true) (ws : List Jvm.Cond) (xa : Int32) (xb : Int32) (xc : Int32) (xd : Int32) (h0 : Heap) (n0 : Nat × Nat) (R0 : Rep Z n0 h0 ([])) :
    MetFree l x (head1 (Jvm.Cond.code x code maxLocals ret :: ws) room_1) (fun a U => a = #[(.int xa), (.int xb), (.int xc), (.int xd)] ∧ Z.Warmed39 U.vm ∧ U.heap = h0) (fun _ _ _ _ _ => True) (fun _ U o U' => ∃ v L, o = .returned v ∧ Q0 Z xa xb xc xd n0 [] v U'.heap L ∧ ReturnedEndW U o U' L 24 1152) := by
  refine MetFree.of_bodySF (plainFor_of_name pn_com_example_sidetrack_sidetrack_codec_BerReaderAtEndPinLaw) hisR ?_
  intro p e s m args below meth c s₁ Bd hml0 hP hK
  obtain ⟨rfl, hZ, hh⟩ := hP
  have hx := Bd.exec
  have hby := Bd.bytes
  have hml : c.maxLocals = 18 := hml0
  have hown : s.vm.findClass "com/example/sidetrack/sidetrack/codec/BerReaderAtEndPinLaw" = some m.cls := findClass_of_methodNamed Bd.named
  have hnm := (name_of_methodNamed Bd.named Bd.method).1
  have X0 : Stand p l e room_1 s m #[(.int xa), (.int xb), (.int xc), (.int xd)] below meth c s₁ [] 0 0 := Stand.of_body Bd
  have e0 : s₁.heap = h0 := by rw [← hh, Bd.state]; rfl
  have N0 := Fr.nil n0.1
  have pre0 : ∀ t, Steps p.tables e below (s₁.setTop (mkF m 0 #[.val (.int xa), .val (.int xb), .val (.int xc), .val (.int xd), .unset, .unset, .unset, .unset, .unset, .unset, .unset, .unset, .unset, .unset, .unset, .unset, .unset, .unset] [])) t → Steps p.tables e below (s₁.setTop (entryFrame m #[(.int xa), (.int xb), (.int xc), (.int xd)] maxLocals)) t := fun t k => castTop (ef_0 m xa xb xc xd) k
  have pre1 : ∀ t, Steps p.tables e below (s₁.setTop (mkF m 2 #[.val (.int xa), .val (.int xb), .val (.int xc), .val (.int xd), .unset, .unset, .unset, .unset, .unset, .unset, .unset, .unset, .unset, .unset, .unset, .unset, .unset, .unset] [(.int (6 : Int32))])) t → Steps p.tables e below (s₁.setTop (entryFrame m #[(.int xa), (.int xb), (.int xc), (.int xd)] maxLocals)) t := fun t k => pre0 t (by
    show Steps p.tables e below (s₁.setTop (mkF m 0 #[.val (.int xa), .val (.int xb), .val (.int xc), .val (.int xd), .unset, .unset, .unset, .unset, .unset, .unset, .unset, .unset, .unset, .unset, .unset, .unset, .unset, .unset] [])) _
    refine XS.bipush X0.here hx rfl (hb hby at_0) ?_
    exact k)
  obtain ⟨T2, h2, b2, X2, e2, R2, st2⟩ := gNewP X0 hx hZ (hw _ (List.mem_of_getElem? (i := 0) rfl)) e0 R0 (g := (mkF m 2 #[.val (.int xa), .val (.int xb), .val (.int xc), .val (.int xd), .unset, .unset, .unset, .unset, .unset, .unset, .unset, .unset, .unset, .unset, .unset, .unset, .unset, .unset] [(.int (6 : Int32))])) rfl (hb hby at_2) rfl (by decide) 6 (by decide) (by decide) (by decide) (by decide) (vs := [(.int (0 : Int32)), (.int (0 : Int32)), (.int (0 : Int32)), (.int (0 : Int32)), (.int (0 : Int32)), (.int (0 : Int32))]) rfl
  replace R2 : Rep Z n0 h2 ((b2, Ar .byte [(.int (0 : Int32)), (.int (0 : Int32)), (.int (0 : Int32)), (.int (0 : Int32)), (.int (0 : Int32)), (.int (0 : Int32))]) :: []) := R2
  have pre3 : ∀ t, Steps p.tables e below (T2.setTop (mkF m 4 #[.val (.int xa), .val (.int xb), .val (.int xc), .val (.int xd), .unset, .unset, .unset, .unset, .unset, .unset, .unset, .unset, .unset, .unset, .unset, .unset, .unset, .unset] [(.ref b2)])) t → Steps p.tables e below (s₁.setTop (entryFrame m #[(.int xa), (.int xb), (.int xc), (.int xd)] maxLocals)) t := fun t k => pre1 t (st2 t k)
  have pre4 : ∀ t, Steps p.tables e below (T2.setTop (mkF m 6 #[.val (.int xa), .val (.int xb), .val (.int xc), .val (.int xd), .val (.ref b2), .unset, .unset, .unset, .unset, .unset, .unset, .unset, .unset, .unset, .unset, .unset, .unset, .unset] [])) t → Steps p.tables e below (s₁.setTop (entryFrame m #[(.int xa), (.int xb), (.int xc), (.int xd)] maxLocals)) t := fun t k => pre3 t (by
    show Steps p.tables e below (T2.setTop (mkF m 4 #[.val (.int xa), .val (.int xb), .val (.int xc), .val (.int xd), .unset, .unset, .unset, .unset, .unset, .unset, .unset, .unset, .unset, .unset, .unset, .unset, .unset, .unset] [(.ref b2)])) _
    refine XS.astore X2.here hx rfl (hb hby at_4) rfl rfl (l' := #[.val (.int xa), .val (.int xb), .val (.int xc), .val (.int xd), .val (.ref b2), .unset, .unset, .unset, .unset, .unset, .unset, .unset, .unset, .unset, .unset, .unset, .unset, .unset]) rfl ?_
    exact k)
  obtain ⟨T5, h5, b5, X5, e5, R5, st5⟩ := gNew X2 hx hZ hown (hw _ (List.mem_of_getElem? (i := 1) rfl)) (hw _ (List.mem_of_getElem? (i := 2) rfl)) (hw _ (List.mem_of_getElem? (i := 3) rfl)) e2 R2 (fs := [("bytes", "[B", .null), ("position", "I", (.int (0 : Int32))), ("end", "I", (.int (0 : Int32)))]) ⟨⟨Or.inr (hw _ (List.mem_of_getElem? (i := 11) rfl)), (.array .byte), by decide, rfl⟩, ⟨⟨Or.inl (hw _ (List.mem_of_getElem? (i := 13) rfl)), .int, by decide, rfl⟩, ⟨⟨Or.inr (hw _ (List.mem_of_getElem? (i := 15) rfl)), .int, by decide, rfl⟩, trivial⟩⟩⟩ (by decide) (g := (mkF m 6 #[.val (.int xa), .val (.int xb), .val (.int xc), .val (.int xd), .val (.ref b2), .unset, .unset, .unset, .unset, .unset, .unset, .unset, .unset, .unset, .unset, .unset, .unset, .unset] [])) rfl (hb hby at_6) (by decide) (by decide)
  have pre6 : ∀ t, Steps p.tables e below (T5.setTop (mkF m 9 #[.val (.int xa), .val (.int xb), .val (.int xc), .val (.int xd), .val (.ref b2), .unset, .unset, .unset, .unset, .unset, .unset, .unset, .unset, .unset, .unset, .unset, .unset, .unset] [(.ref b5)])) t → Steps p.tables e below (s₁.setTop (entryFrame m #[(.int xa), (.int xb), (.int xc), (.int xd)] maxLocals)) t := fun t k => pre4 t (st5 t k)
  have pre7 : ∀ t, Steps p.tables e below (T5.setTop (mkF m 14 #[.val (.int xa), .val (.int xb), .val (.int xc), .val (.int xd), .val (.ref b2), .unset, .unset, .unset, .unset, .unset, .unset, .unset, .unset, .unset, .unset, .unset, .unset, .unset] [(.int xb), (.int xa), (.ref b2), (.ref b5), (.ref b5)])) t → Steps p.tables e below (s₁.setTop (entryFrame m #[(.int xa), (.int xb), (.int xc), (.int xd)] maxLocals)) t := fun t k => pre6 t (by
    show Steps p.tables e below (T5.setTop (mkF m 9 #[.val (.int xa), .val (.int xb), .val (.int xc), .val (.int xd), .val (.ref b2), .unset, .unset, .unset, .unset, .unset, .unset, .unset, .unset, .unset, .unset, .unset, .unset, .unset] [(.ref b5)])) _
    refine XS.dup X5.here hx rfl (hb hby at_9) rfl rfl ?_
    refine XS.aload X5.here hx rfl (hb hby at_10) rfl rfl ?_
    refine XS.iloadN X5.here hx rfl (hb hby at_12) rfl ?_
    refine XS.iloadN X5.here hx rfl (hb hby at_13) rfl ?_
    exact k)
  obtain ⟨_, _, ⟨T8, L8, k8, n8⟩, -, X8, ⟨Lc8, hQ8, l8, y8, z8⟩, st8⟩ := X5.specialBack hx (y := (⟨"com/example/sidetrack/sidetrack/codec/BerReader", "<init>", "([BII)V"⟩ : MethodName)) rfl hown (mvT hZ (hw _ (List.mem_of_getElem? (i := 4) rfl))) (mvT hZ (hw _ (List.mem_of_getElem? (i := 5) rfl))) (mvT hZ (hw _ (List.mem_of_getElem? (i := 6) rfl))) (by decide) (backOf (W := 1) (rm1 l Z a0 hw [] b5 b2 xa xb _ _ _ h5 n0 _ R5 ) hZ (hw _ (List.mem_of_getElem? (i := 6) rfl)) (hw _ (List.mem_of_getElem? (i := 3) rfl)) (by decide) (by decide)) (g := (mkF m 14 #[.val (.int xa), .val (.int xb), .val (.int xc), .val (.int xd), .val (.ref b2), .unset, .unset, .unset, .unset, .unset, .unset, .unset, .unset, .unset, .unset, .unset, .unset, .unset] [(.int xb), (.int xa), (.ref b2), (.ref b5), (.ref b5)])) rfl (by rw [hml]; rfl) (Steps.refl _) (a := b5) (argsL := [(.ref b2), (.int xa), (.int xb)]) (rest := [(.ref b5)]) (lenOf pd__28_5bBII_29V rfl) rfl (by show 2 * 0 + _ ≤ _; exact Nat.le_of_eq rfl) (hb hby at_14) (fun _ _ => ⟨rfl, e5, (by decide : 2 + 0 ≤ _), (by decide : 9 + 0 ≤ _)⟩)
  dsimp only [Pt.U, Pt.locs, Pt.cells, Pt.slots] at X8 l8 y8 z8 st8 hQ8
  subst y8 z8
  obtain ⟨rfl, N8q, R8⟩ := hQ8
  have N8 : Fr n0.1 L8 := by rw [l8]; exact Fr.app N0 N8q
  replace R8 : Rep Z n0 T8.heap ((b5, Obj "com/example/sidetrack/sidetrack/codec/BerReader" [("bytes", "[B", (.ref b2)), ("position", "I", (.int xa)), ("end", "I", (.int xb))]) :: (b2, Ar .byte [(.int (0 : Int32)), (.int (0 : Int32)), (.int (0 : Int32)), (.int (0 : Int32)), (.int (0 : Int32)), (.int (0 : Int32))]) :: []) := R8
  have pre9 : ∀ t, Steps p.tables e below (T8.setTop (mkF m 17 #[.val (.int xa), .val (.int xb), .val (.int xc), .val (.int xd), .val (.ref b2), .unset, .unset, .unset, .unset, .unset, .unset, .unset, .unset, .unset, .unset, .unset, .unset, .unset] [(.ref b5)])) t → Steps p.tables e below (s₁.setTop (entryFrame m #[(.int xa), (.int xb), (.int xc), (.int xd)] maxLocals)) t := fun t k => pre7 t (st8.trans k)
  have pre10 : ∀ t, Steps p.tables e below (T8.setTop (mkF m 21 #[.val (.int xa), .val (.int xb), .val (.int xc), .val (.int xd), .val (.ref b2), .val (.ref b5), .unset, .unset, .unset, .unset, .unset, .unset, .unset, .unset, .unset, .unset, .unset, .unset] [(.ref b5)])) t → Steps p.tables e below (s₁.setTop (entryFrame m #[(.int xa), (.int xb), (.int xc), (.int xd)] maxLocals)) t := fun t k => pre9 t (by
    show Steps p.tables e below (T8.setTop (mkF m 17 #[.val (.int xa), .val (.int xb), .val (.int xc), .val (.int xd), .val (.ref b2), .unset, .unset, .unset, .unset, .unset, .unset, .unset, .unset, .unset, .unset, .unset, .unset, .unset] [(.ref b5)])) _
    refine XS.astore X8.here hx rfl (hb hby at_17) rfl rfl (l' := #[.val (.int xa), .val (.int xb), .val (.int xc), .val (.int xd), .val (.ref b2), .val (.ref b5), .unset, .unset, .unset, .unset, .unset, .unset, .unset, .unset, .unset, .unset, .unset, .unset]) rfl ?_
    refine XS.aload X8.here hx rfl (hb hby at_19) rfl rfl ?_
    exact k)
  obtain ⟨cq11, kq11, q11a, q11b, q11c⟩ := isOf hZ rfl (R8.exa (i := 0) rfl)
  obtain ⟨_, _, ⟨T11, L11, k11, n11⟩, -, X11, ⟨Lc11, hQ11, l11, y11, z11⟩, st11⟩ := X8.virtualBack hx (y := (⟨"com/example/sidetrack/sidetrack/codec/BerReader", "atEnd", "()Z"⟩ : MethodName)) (z := (⟨"com/example/sidetrack/sidetrack/codec/BerReader", "atEnd", "()Z"⟩ : MethodName)) hown (mvT hZ (hw _ (List.mem_of_getElem? (i := 16) rfl))) (mvT hZ (hw _ (List.mem_of_getElem? (i := 17) rfl))) (notFace_of_selects (args := #[]) (mvT hZ (hw _ (List.mem_of_getElem? (i := 19) rfl)))) (mvT hZ (hw _ (List.mem_of_getElem? (i := 19) rfl))) (mvT hZ (hw _ (List.mem_of_getElem? (i := 18) rfl))) (by decide) (backOf (W := 0) (rm3 l Z a0 hw [] b5 _ _ _ T8.heap n0 _ R8 ) hZ (hw _ (List.mem_of_getElem? (i := 20) rfl)) (hw _ (List.mem_of_getElem? (i := 3) rfl)) (by decide) (by decide)) q11a q11c (g := (mkF m 21 #[.val (.int xa), .val (.int xb), .val (.int xc), .val (.int xd), .val (.ref b2), .val (.ref b5), .unset, .unset, .unset, .unset, .unset, .unset, .unset, .unset, .unset, .unset, .unset, .unset] [(.ref b5)])) rfl (by rw [hml]; rfl) (Steps.refl _) (argsL := []) (rest := []) (lenOf pd__28_29Z rfl) rfl (by show 2 * 0 + _ ≤ _; exact Nat.le_of_eq rfl) (hb hby at_21) (fun _ _ => ⟨rfl, rfl, (by decide : 2 + 0 ≤ _), (by decide : 9 + 0 ≤ _)⟩)
  dsimp only [Pt.U, Pt.locs, Pt.cells, Pt.slots] at X11 l11 y11 z11 st11 hQ11
  subst y11 z11
  obtain ⟨rfl, N11q, R11⟩ := hQ11
  have N11 : Fr n0.1 L11 := by rw [l11]; exact Fr.app N8 N11q
  replace R11 : Rep Z n0 T11.heap ((b5, Obj "com/example/sidetrack/sidetrack/codec/BerReader" [("bytes", "[B", (.ref b2)), ("position", "I", (.int xa)), ("end", "I", (.int xb))]) :: (b2, Ar .byte [(.int (0 : Int32)), (.int (0 : Int32)), (.int (0 : Int32)), (.int (0 : Int32)), (.int (0 : Int32)), (.int (0 : Int32))]) :: []) := R11
  have pre12 : ∀ t, Steps p.tables e below (T11.setTop (mkF m 24 #[.val (.int xa), .val (.int xb), .val (.int xc), .val (.int xd), .val (.ref b2), .val (.ref b5), .unset, .unset, .unset, .unset, .unset, .unset, .unset, .unset, .unset, .unset, .unset, .unset] [(.int (F3 xa xb))])) t → Steps p.tables e below (s₁.setTop (entryFrame m #[(.int xa), (.int xb), (.int xc), (.int xd)] maxLocals)) t := fun t k => pre10 t (st11.trans k)
  have pre15 : ∀ t, Steps p.tables e below (T11.setTop (mkF m 26 #[.val (.int xa), .val (.int xb), .val (.int xc), .val (.int xd), .val (.ref b2), .val (.ref b5), .unset, .unset, .unset, .unset, .unset, .unset, .unset, .unset, .unset, .unset, .unset, .unset] [(.int xb), (.int xa), (.int (F3 xa xb))])) t → Steps p.tables e below (s₁.setTop (entryFrame m #[(.int xa), (.int xb), (.int xc), (.int xd)] maxLocals)) t := fun t k => pre12 t (by
    show Steps p.tables e below (T11.setTop (mkF m 24 #[.val (.int xa), .val (.int xb), .val (.int xc), .val (.int xd), .val (.ref b2), .val (.ref b5), .unset, .unset, .unset, .unset, .unset, .unset, .unset, .unset, .unset, .unset, .unset, .unset] [(.int (F3 xa xb))])) _
    refine XS.iloadN X11.here hx rfl (hb hby at_24) rfl ?_
    refine XS.iloadN X11.here hx rfl (hb hby at_25) rfl ?_
    exact k)
  have tl14 : ∀ t, Steps p.tables e below (T11.setTop (mkF m 34 #[.val (.int xa), .val (.int xb), .val (.int xc), .val (.int xd), .val (.ref b2), .val (.ref b5), .unset, .unset, .unset, .unset, .unset, .unset, .unset, .unset, .unset, .unset, .unset, .unset] [(.int (bz (¬ (xa < xb)))), (.int (F3 xa xb))])) t → Steps p.tables e below (T11.setTop (mkF m 26 #[.val (.int xa), .val (.int xb), .val (.int xc), .val (.int xd), .val (.ref b2), .val (.ref b5), .unset, .unset, .unset, .unset, .unset, .unset, .unset, .unset, .unset, .unset, .unset, .unset] [(.int xb), (.int xa), (.int (F3 xa xb))])) t := fun t k => by
    by_cases hb13 : xa < xb
    · refine XS.icmpYes X11.here hx rfl (pc0 := 26) (pc' := 33) rfl (hb hby at_26) rfl (tlt hb13).1 (by decide) (by decide) ?_
      rw [bz_zero (P := (¬ (xa < xb))) (iff_false_intro (not_not_intro hb13))] at k
      show Steps p.tables e below (T11.setTop (mkF m 33 #[.val (.int xa), .val (.int xb), .val (.int xc), .val (.int xd), .val (.ref b2), .val (.ref b5), .unset, .unset, .unset, .unset, .unset, .unset, .unset, .unset, .unset, .unset, .unset, .unset] [(.int (F3 xa xb))])) _
      refine XS.iconst X11.here hx rfl (hb hby at_33) ?_
      exact k
    · refine XS.icmpNo X11.here hx rfl (hb hby at_26) rfl (flt hb13).1 ?_
      rw [bz_one (P := (¬ (xa < xb))) (iff_true_intro hb13)] at k
      show Steps p.tables e below (T11.setTop (mkF m 29 #[.val (.int xa), .val (.int xb), .val (.int xc), .val (.int xd), .val (.ref b2), .val (.ref b5), .unset, .unset, .unset, .unset, .unset, .unset, .unset, .unset, .unset, .unset, .unset, .unset] [(.int (F3 xa xb))])) _
      refine XS.iconst X11.here hx rfl (hb hby at_29) ?_
      refine XS.goto X11.here hx rfl (pc0 := 30) (pc' := 34) rfl (hb hby at_30) (by decide) (by decide) ?_
      exact k
  have pre16 : ∀ t, Steps p.tables e below (T11.setTop (mkF m 34 #[.val (.int xa), .val (.int xb), .val (.int xc), .val (.int xd), .val (.ref b2), .val (.ref b5), .unset, .unset, .unset, .unset, .unset, .unset, .unset, .unset, .unset, .unset, .unset, .unset] [(.int (bz (¬ (xa < xb)))), (.int (F3 xa xb))])) t → Steps p.tables e below (s₁.setTop (entryFrame m #[(.int xa), (.int xb), (.int xc), (.int xd)] maxLocals)) t := fun t k => pre15 t (by
    exact tl14 t k)
  have hb17 : (F3 xa xb) = (bz (¬ (xa < xb))) := rfl
  have pre19 : ∀ t, Steps p.tables e below (T11.setTop (mkF m 49 #[.val (.int xa), .val (.int xb), .val (.int xc), .val (.int xd), .val (.ref b2), .val (.ref b5), .val (.int (1 : Int32)), .val (.int (xc &&& (3 : Int32))), .unset, .unset, .unset, .unset, .unset, .unset, .unset, .unset, .unset, .unset] [])) t → Steps p.tables e below (s₁.setTop (entryFrame m #[(.int xa), (.int xb), (.int xc), (.int xd)] maxLocals)) t := fun t k => pre16 t (by
    show Steps p.tables e below (T11.setTop (mkF m 34 #[.val (.int xa), .val (.int xb), .val (.int xc), .val (.int xd), .val (.ref b2), .val (.ref b5), .unset, .unset, .unset, .unset, .unset, .unset, .unset, .unset, .unset, .unset, .unset, .unset] [(.int (bz (¬ (xa < xb)))), (.int (F3 xa xb))])) _
    refine XS.icmpNo X11.here hx rfl (hb hby at_34) rfl (teq hb17).2 ?_
    refine XS.iconst X11.here hx rfl (hb hby at_37) ?_
    refine XS.goto X11.here hx rfl (pc0 := 38) (pc' := 42) rfl (hb hby at_38) (by decide) (by decide) ?_
    refine XS.istore X11.here hx rfl (hb hby at_42) rfl (l' := #[.val (.int xa), .val (.int xb), .val (.int xc), .val (.int xd), .val (.ref b2), .val (.ref b5), .val (.int (1 : Int32)), .unset, .unset, .unset, .unset, .unset, .unset, .unset, .unset, .unset, .unset, .unset]) rfl ?_
    refine XS.iloadN X11.here hx rfl (hb hby at_44) rfl ?_
    refine XS.iconst X11.here hx rfl (hb hby at_45) ?_
    refine XS.iand X11.here hx rfl (hb hby at_46) rfl ?_
    show Steps p.tables e below (T11.setTop (mkF m 47 #[.val (.int xa), .val (.int xb), .val (.int xc), .val (.int xd), .val (.ref b2), .val (.ref b5), .val (.int (1 : Int32)), .unset, .unset, .unset, .unset, .unset, .unset, .unset, .unset, .unset, .unset, .unset] [(.int (xc &&& (3 : Int32)))])) _
    refine XS.istore X11.here hx rfl (hb hby at_47) rfl (l' := #[.val (.int xa), .val (.int xb), .val (.int xc), .val (.int xd), .val (.ref b2), .val (.ref b5), .val (.int (1 : Int32)), .val (.int (xc &&& (3 : Int32))), .unset, .unset, .unset, .unset, .unset, .unset, .unset, .unset, .unset, .unset]) rfl ?_
    exact k)
  obtain ⟨v18, hv18⟩ : ∃ z : Int32, z = (xc &&& (3 : Int32)) := ⟨_, rfl⟩
  rw [← hv18] at pre19
  have hL := own_l4 hv18
  have pre21 : ∀ t, Steps p.tables e below (T11.setTop (mkF m 54 #[.val (.int xa), .val (.int xb), .val (.int xc), .val (.int xd), .val (.ref b2), .val (.ref b5), .val (.int (1 : Int32)), .val (.int v18), .val (.int (xd &&& (1 : Int32))), .unset, .unset, .unset, .unset, .unset, .unset, .unset, .unset, .unset] [])) t → Steps p.tables e below (s₁.setTop (entryFrame m #[(.int xa), (.int xb), (.int xc), (.int xd)] maxLocals)) t := fun t k => pre19 t (by
    show Steps p.tables e below (T11.setTop (mkF m 49 #[.val (.int xa), .val (.int xb), .val (.int xc), .val (.int xd), .val (.ref b2), .val (.ref b5), .val (.int (1 : Int32)), .val (.int v18), .unset, .unset, .unset, .unset, .unset, .unset, .unset, .unset, .unset, .unset] [])) _
    refine XS.iloadN X11.here hx rfl (hb hby at_49) rfl ?_
    refine XS.iconst X11.here hx rfl (hb hby at_50) ?_
    refine XS.iand X11.here hx rfl (hb hby at_51) rfl ?_
    refine XS.istore X11.here hx rfl (hb hby at_52) rfl (l' := #[.val (.int xa), .val (.int xb), .val (.int xc), .val (.int xd), .val (.ref b2), .val (.ref b5), .val (.int (1 : Int32)), .val (.int v18), .val (.int (xd &&& (1 : Int32))), .unset, .unset, .unset, .unset, .unset, .unset, .unset, .unset, .unset]) rfl ?_
    exact k)
  obtain ⟨v20, hv20⟩ : ∃ z : Int32, z = (xd &&& (1 : Int32)) := ⟨_, rfl⟩
  rw [← hv20] at pre21
  have hX := own_l2 hv20
  have pre22 : ∀ t, Steps p.tables e below (T11.setTop (mkF m 56 #[.val (.int xa), .val (.int xb), .val (.int xc), .val (.int xd), .val (.ref b2), .val (.ref b5), .val (.int (1 : Int32)), .val (.int v18), .val (.int v20), .unset, .unset, .unset, .unset, .unset, .unset, .unset, .unset, .unset] [(.int (6 : Int32))])) t → Steps p.tables e below (s₁.setTop (entryFrame m #[(.int xa), (.int xb), (.int xc), (.int xd)] maxLocals)) t := fun t k => pre21 t (by
    show Steps p.tables e below (T11.setTop (mkF m 54 #[.val (.int xa), .val (.int xb), .val (.int xc), .val (.int xd), .val (.ref b2), .val (.ref b5), .val (.int (1 : Int32)), .val (.int v18), .val (.int v20), .unset, .unset, .unset, .unset, .unset, .unset, .unset, .unset, .unset] [])) _
    refine XS.bipush X11.here hx rfl (hb hby at_54) ?_
    exact k)
  obtain ⟨T23, h23, b23, X23, e23, R23, st23⟩ := gNewP X11 hx hZ (hw _ (List.mem_of_getElem? (i := 0) rfl)) rfl R11 (g := (mkF m 56 #[.val (.int xa), .val (.int xb), .val (.int xc), .val (.int xd), .val (.ref b2), .val (.ref b5), .val (.int (1 : Int32)), .val (.int v18), .val (.int v20), .unset, .unset, .unset, .unset, .unset, .unset, .unset, .unset, .unset] [(.int (6 : Int32))])) rfl (hb hby at_56) rfl (by decide) 6 (by decide) (by decide) (by decide) (by decide) (vs := [(.int (0 : Int32)), (.int (0 : Int32)), (.int (0 : Int32)), (.int (0 : Int32)), (.int (0 : Int32)), (.int (0 : Int32))]) rfl
  replace R23 : Rep Z n0 h23 ((b23, Ar .byte [(.int (0 : Int32)), (.int (0 : Int32)), (.int (0 : Int32)), (.int (0 : Int32)), (.int (0 : Int32)), (.int (0 : Int32))]) :: (b5, Obj "com/example/sidetrack/sidetrack/codec/BerReader" [("bytes", "[B", (.ref b2)), ("position", "I", (.int xa)), ("end", "I", (.int xb))]) :: (b2, Ar .byte [(.int (0 : Int32)), (.int (0 : Int32)), (.int (0 : Int32)), (.int (0 : Int32)), (.int (0 : Int32)), (.int (0 : Int32))]) :: []) := R23
  have pre24 : ∀ t, Steps p.tables e below (T23.setTop (mkF m 58 #[.val (.int xa), .val (.int xb), .val (.int xc), .val (.int xd), .val (.ref b2), .val (.ref b5), .val (.int (1 : Int32)), .val (.int v18), .val (.int v20), .unset, .unset, .unset, .unset, .unset, .unset, .unset, .unset, .unset] [(.ref b23)])) t → Steps p.tables e below (s₁.setTop (entryFrame m #[(.int xa), (.int xb), (.int xc), (.int xd)] maxLocals)) t := fun t k => pre22 t (st23 t k)
  have pre25 : ∀ t, Steps p.tables e below (T23.setTop (mkF m 64 #[.val (.int xa), .val (.int xb), .val (.int xc), .val (.int xd), .val (.ref b2), .val (.ref b5), .val (.int (1 : Int32)), .val (.int v18), .val (.int v20), .val (.ref b23), .unset, .unset, .unset, .unset, .unset, .unset, .unset, .unset] [(.int (4 : Int32)), (.int (0 : Int32)), (.ref b23)])) t → Steps p.tables e below (s₁.setTop (entryFrame m #[(.int xa), (.int xb), (.int xc), (.int xd)] maxLocals)) t := fun t k => pre24 t (by
    show Steps p.tables e below (T23.setTop (mkF m 58 #[.val (.int xa), .val (.int xb), .val (.int xc), .val (.int xd), .val (.ref b2), .val (.ref b5), .val (.int (1 : Int32)), .val (.int v18), .val (.int v20), .unset, .unset, .unset, .unset, .unset, .unset, .unset, .unset, .unset] [(.ref b23)])) _
    refine XS.astore X23.here hx rfl (hb hby at_58) rfl rfl (l' := #[.val (.int xa), .val (.int xb), .val (.int xc), .val (.int xd), .val (.ref b2), .val (.ref b5), .val (.int (1 : Int32)), .val (.int v18), .val (.int v20), .val (.ref b23), .unset, .unset, .unset, .unset, .unset, .unset, .unset, .unset]) rfl ?_
    refine XS.aload X23.here hx rfl (hb hby at_60) rfl rfl ?_
    refine XS.iconst X23.here hx rfl (hb hby at_62) ?_
    refine XS.iconst X23.here hx rfl (hb hby at_63) ?_
    exact k)
  obtain ⟨T26, h26, ls26, X26, e26, N26, R26, st26⟩ := gBst X23 hx hZ e23 N11 R23 0 rfl (j := (0 : Int32)) (by decide) (0) rfl (show (0 : Nat) < 6 by decide) (g := (mkF m 64 #[.val (.int xa), .val (.int xb), .val (.int xc), .val (.int xd), .val (.ref b2), .val (.ref b5), .val (.int (1 : Int32)), .val (.int v18), .val (.int v20), .val (.ref b23), .unset, .unset, .unset, .unset, .unset, .unset, .unset, .unset] [(.int (4 : Int32)), (.int (0 : Int32)), (.ref b23)])) rfl rfl (hb hby at_64)
  replace R26 : Rep Z n0 h26 ((b23, Ar .byte [(.int ((4 : Int32).toInt8.toInt32)), (.int (0 : Int32)), (.int (0 : Int32)), (.int (0 : Int32)), (.int (0 : Int32)), (.int (0 : Int32))]) :: (b5, Obj "com/example/sidetrack/sidetrack/codec/BerReader" [("bytes", "[B", (.ref b2)), ("position", "I", (.int xa)), ("end", "I", (.int xb))]) :: (b2, Ar .byte [(.int (0 : Int32)), (.int (0 : Int32)), (.int (0 : Int32)), (.int (0 : Int32)), (.int (0 : Int32)), (.int (0 : Int32))]) :: []) := R26
  have pre27 : ∀ t, Steps p.tables e below (T26.setTop (mkF m 65 #[.val (.int xa), .val (.int xb), .val (.int xc), .val (.int xd), .val (.ref b2), .val (.ref b5), .val (.int (1 : Int32)), .val (.int v18), .val (.int v20), .val (.ref b23), .unset, .unset, .unset, .unset, .unset, .unset, .unset, .unset] [])) t → Steps p.tables e below (s₁.setTop (entryFrame m #[(.int xa), (.int xb), (.int xc), (.int xd)] maxLocals)) t := fun t k => pre25 t (st26 t k)
  have pre28 : ∀ t, Steps p.tables e below (T26.setTop (mkF m 71 #[.val (.int xa), .val (.int xb), .val (.int xc), .val (.int xd), .val (.ref b2), .val (.ref b5), .val (.int (1 : Int32)), .val (.int v18), .val (.int v20), .val (.ref b23), .unset, .unset, .unset, .unset, .unset, .unset, .unset, .unset] [(.int (v18.toInt8.toInt32)), (.int (1 : Int32)), (.ref b23)])) t → Steps p.tables e below (s₁.setTop (entryFrame m #[(.int xa), (.int xb), (.int xc), (.int xd)] maxLocals)) t := fun t k => pre27 t (by
    show Steps p.tables e below (T26.setTop (mkF m 65 #[.val (.int xa), .val (.int xb), .val (.int xc), .val (.int xd), .val (.ref b2), .val (.ref b5), .val (.int (1 : Int32)), .val (.int v18), .val (.int v20), .val (.ref b23), .unset, .unset, .unset, .unset, .unset, .unset, .unset, .unset] [])) _
    refine XS.aload X26.here hx rfl (hb hby at_65) rfl rfl ?_
    refine XS.iconst X26.here hx rfl (hb hby at_67) ?_
    refine XS.iload X26.here hx rfl (hb hby at_68) rfl ?_
    refine XS.i2b X26.here hx rfl (hb hby at_70) rfl ?_
    exact k)
  obtain ⟨T29, h29, ls29, X29, e29, N29, R29, st29⟩ := gBst X26 hx hZ e26 N26 R26 0 rfl (j := (1 : Int32)) (by decide) (1) rfl (show (1 : Nat) < 6 by decide) (g := (mkF m 71 #[.val (.int xa), .val (.int xb), .val (.int xc), .val (.int xd), .val (.ref b2), .val (.ref b5), .val (.int (1 : Int32)), .val (.int v18), .val (.int v20), .val (.ref b23), .unset, .unset, .unset, .unset, .unset, .unset, .unset, .unset] [(.int (v18.toInt8.toInt32)), (.int (1 : Int32)), (.ref b23)])) rfl rfl (hb hby at_71)
  replace R29 : Rep Z n0 h29 ((b23, Ar .byte [(.int ((4 : Int32).toInt8.toInt32)), (.int ((v18.toInt8.toInt32).toInt8.toInt32)), (.int (0 : Int32)), (.int (0 : Int32)), (.int (0 : Int32)), (.int (0 : Int32))]) :: (b5, Obj "com/example/sidetrack/sidetrack/codec/BerReader" [("bytes", "[B", (.ref b2)), ("position", "I", (.int xa)), ("end", "I", (.int xb))]) :: (b2, Ar .byte [(.int (0 : Int32)), (.int (0 : Int32)), (.int (0 : Int32)), (.int (0 : Int32)), (.int (0 : Int32)), (.int (0 : Int32))]) :: []) := R29
  have pre30 : ∀ t, Steps p.tables e below (T29.setTop (mkF m 72 #[.val (.int xa), .val (.int xb), .val (.int xc), .val (.int xd), .val (.ref b2), .val (.ref b5), .val (.int (1 : Int32)), .val (.int v18), .val (.int v20), .val (.ref b23), .unset, .unset, .unset, .unset, .unset, .unset, .unset, .unset] [])) t → Steps p.tables e below (s₁.setTop (entryFrame m #[(.int xa), (.int xb), (.int xc), (.int xd)] maxLocals)) t := fun t k => pre28 t (st29 t k)
  have RB : Rep Z n0 h29 ((b23, Ar .byte [(.int (4 : Int32)), (.int v18), (.int (0 : Int32)), (.int (0 : Int32)), (.int (0 : Int32)), (.int (0 : Int32))]) :: (b5, Obj "com/example/sidetrack/sidetrack/codec/BerReader" [("bytes", "[B", (.ref b2)), ("position", "I", (.int xa)), ("end", "I", (.int xb))]) :: (b2, Ar .byte [(.int (0 : Int32)), (.int (0 : Int32)), (.int (0 : Int32)), (.int (0 : Int32)), (.int (0 : Int32)), (.int (0 : Int32))]) :: []) := by have z := R29; rw [own_bb hL, show ((4 : Int32).toInt8.toInt32) = (4 : Int32) from by decide] at z; exact z
  have pre32 : ∀ t, Steps p.tables e below (T29.setTop (mkF m 81 #[.val (.int xa), .val (.int xb), .val (.int xc), .val (.int xd), .val (.ref b2), .val (.ref b5), .val (.int (1 : Int32)), .val (.int v18), .val (.int v20), .val (.ref b23), .val (.int (((2 : Int32) + v18) + v20)), .unset, .unset, .unset, .unset, .unset, .unset, .unset] [])) t → Steps p.tables e below (s₁.setTop (entryFrame m #[(.int xa), (.int xb), (.int xc), (.int xd)] maxLocals)) t := fun t k => pre30 t (by
    show Steps p.tables e below (T29.setTop (mkF m 72 #[.val (.int xa), .val (.int xb), .val (.int xc), .val (.int xd), .val (.ref b2), .val (.ref b5), .val (.int (1 : Int32)), .val (.int v18), .val (.int v20), .val (.ref b23), .unset, .unset, .unset, .unset, .unset, .unset, .unset, .unset] [])) _
    refine XS.iconst X29.here hx rfl (hb hby at_72) ?_
    refine XS.iload X29.here hx rfl (hb hby at_73) rfl ?_
    refine XS.iadd X29.here hx rfl (hb hby at_75) rfl ?_
    refine XS.iload X29.here hx rfl (hb hby at_76) rfl ?_
    refine XS.iadd X29.here hx rfl (hb hby at_78) rfl ?_
    refine XS.istore X29.here hx rfl (hb hby at_79) rfl (l' := #[.val (.int xa), .val (.int xb), .val (.int xc), .val (.int xd), .val (.ref b2), .val (.ref b5), .val (.int (1 : Int32)), .val (.int v18), .val (.int v20), .val (.ref b23), .val (.int (((2 : Int32) + v18) + v20)), .unset, .unset, .unset, .unset, .unset, .unset, .unset]) rfl ?_
    exact k)
  obtain ⟨v31, hv31⟩ : ∃ z : Int32, z = (((2 : Int32) + v18) + v20) := ⟨_, rfl⟩
  rw [← hv31] at pre32
  obtain ⟨T33, h33, b33, X33, e33, R33, st33⟩ := gNew X29 hx hZ hown (hw _ (List.mem_of_getElem? (i := 1) rfl)) (hw _ (List.mem_of_getElem? (i := 2) rfl)) (hw _ (List.mem_of_getElem? (i := 3) rfl)) e29 RB (fs := [("bytes", "[B", .null), ("position", "I", (.int (0 : Int32))), ("end", "I", (.int (0 : Int32)))]) ⟨⟨Or.inr (hw _ (List.mem_of_getElem? (i := 11) rfl)), (.array .byte), by decide, rfl⟩, ⟨⟨Or.inl (hw _ (List.mem_of_getElem? (i := 13) rfl)), .int, by decide, rfl⟩, ⟨⟨Or.inr (hw _ (List.mem_of_getElem? (i := 15) rfl)), .int, by decide, rfl⟩, trivial⟩⟩⟩ (by decide) (g := (mkF m 81 #[.val (.int xa), .val (.int xb), .val (.int xc), .val (.int xd), .val (.ref b2), .val (.ref b5), .val (.int (1 : Int32)), .val (.int v18), .val (.int v20), .val (.ref b23), .val (.int v31), .unset, .unset, .unset, .unset, .unset, .unset, .unset] [])) rfl (hb hby at_81) (by decide) (by decide)
  have pre34 : ∀ t, Steps p.tables e below (T33.setTop (mkF m 84 #[.val (.int xa), .val (.int xb), .val (.int xc), .val (.int xd), .val (.ref b2), .val (.ref b5), .val (.int (1 : Int32)), .val (.int v18), .val (.int v20), .val (.ref b23), .val (.int v31), .unset, .unset, .unset, .unset, .unset, .unset, .unset] [(.ref b33)])) t → Steps p.tables e below (s₁.setTop (entryFrame m #[(.int xa), (.int xb), (.int xc), (.int xd)] maxLocals)) t := fun t k => pre32 t (st33 t k)
  have pre35 : ∀ t, Steps p.tables e below (T33.setTop (mkF m 90 #[.val (.int xa), .val (.int xb), .val (.int xc), .val (.int xd), .val (.ref b2), .val (.ref b5), .val (.int (1 : Int32)), .val (.int v18), .val (.int v20), .val (.ref b23), .val (.int v31), .unset, .unset, .unset, .unset, .unset, .unset, .unset] [(.int v31), (.int (0 : Int32)), (.ref b23), (.ref b33), (.ref b33)])) t → Steps p.tables e below (s₁.setTop (entryFrame m #[(.int xa), (.int xb), (.int xc), (.int xd)] maxLocals)) t := fun t k => pre34 t (by
    show Steps p.tables e below (T33.setTop (mkF m 84 #[.val (.int xa), .val (.int xb), .val (.int xc), .val (.int xd), .val (.ref b2), .val (.ref b5), .val (.int (1 : Int32)), .val (.int v18), .val (.int v20), .val (.ref b23), .val (.int v31), .unset, .unset, .unset, .unset, .unset, .unset, .unset] [(.ref b33)])) _
    refine XS.dup X33.here hx rfl (hb hby at_84) rfl rfl ?_
    refine XS.aload X33.here hx rfl (hb hby at_85) rfl rfl ?_
    refine XS.iconst X33.here hx rfl (hb hby at_87) ?_
    refine XS.iload X33.here hx rfl (hb hby at_88) rfl ?_
    exact k)
  obtain ⟨_, _, ⟨T36, L36, k36, n36⟩, -, X36, ⟨Lc36, hQ36, l36, y36, z36⟩, st36⟩ := X33.specialBack hx (y := (⟨"com/example/sidetrack/sidetrack/codec/BerReader", "<init>", "([BII)V"⟩ : MethodName)) rfl hown (mvT hZ (hw _ (List.mem_of_getElem? (i := 4) rfl))) (mvT hZ (hw _ (List.mem_of_getElem? (i := 5) rfl))) (mvT hZ (hw _ (List.mem_of_getElem? (i := 6) rfl))) (by decide) (backOf (W := 1) (rm1 l Z a0 hw [] b33 b23 (0 : Int32) v31 _ _ _ h33 n0 _ R33 ) hZ (hw _ (List.mem_of_getElem? (i := 6) rfl)) (hw _ (List.mem_of_getElem? (i := 3) rfl)) (by decide) (by decide)) (g := (mkF m 90 #[.val (.int xa), .val (.int xb), .val (.int xc), .val (.int xd), .val (.ref b2), .val (.ref b5), .val (.int (1 : Int32)), .val (.int v18), .val (.int v20), .val (.ref b23), .val (.int v31), .unset, .unset, .unset, .unset, .unset, .unset, .unset] [(.int v31), (.int (0 : Int32)), (.ref b23), (.ref b33), (.ref b33)])) rfl (by rw [hml]; rfl) (Steps.refl _) (a := b33) (argsL := [(.ref b23), (.int (0 : Int32)), (.int v31)]) (rest := [(.ref b33)]) (lenOf pd__28_5bBII_29V rfl) rfl (by show 2 * 0 + _ ≤ _; exact Nat.le_of_eq rfl) (hb hby at_90) (fun _ _ => ⟨rfl, e33, (by decide : 4 + 0 ≤ _), (by decide : 18 + 0 ≤ _)⟩)
  dsimp only [Pt.U, Pt.locs, Pt.cells, Pt.slots] at X36 l36 y36 z36 st36 hQ36
  subst y36 z36
  obtain ⟨rfl, N36q, R36⟩ := hQ36
  have N36 : Fr n0.1 L36 := by rw [l36]; exact Fr.app N29 N36q
  replace R36 : Rep Z n0 T36.heap ((b33, Obj "com/example/sidetrack/sidetrack/codec/BerReader" [("bytes", "[B", (.ref b23)), ("position", "I", (.int (0 : Int32))), ("end", "I", (.int v31))]) :: (b23, Ar .byte [(.int (4 : Int32)), (.int v18), (.int (0 : Int32)), (.int (0 : Int32)), (.int (0 : Int32)), (.int (0 : Int32))]) :: (b5, Obj "com/example/sidetrack/sidetrack/codec/BerReader" [("bytes", "[B", (.ref b2)), ("position", "I", (.int xa)), ("end", "I", (.int xb))]) :: (b2, Ar .byte [(.int (0 : Int32)), (.int (0 : Int32)), (.int (0 : Int32)), (.int (0 : Int32)), (.int (0 : Int32)), (.int (0 : Int32))]) :: []) := R36
  have pre37 : ∀ t, Steps p.tables e below (T36.setTop (mkF m 93 #[.val (.int xa), .val (.int xb), .val (.int xc), .val (.int xd), .val (.ref b2), .val (.ref b5), .val (.int (1 : Int32)), .val (.int v18), .val (.int v20), .val (.ref b23), .val (.int v31), .unset, .unset, .unset, .unset, .unset, .unset, .unset] [(.ref b33)])) t → Steps p.tables e below (s₁.setTop (entryFrame m #[(.int xa), (.int xb), (.int xc), (.int xd)] maxLocals)) t := fun t k => pre35 t (st36.trans k)
  have pre38 : ∀ t, Steps p.tables e below (T36.setTop (mkF m 97 #[.val (.int xa), .val (.int xb), .val (.int xc), .val (.int xd), .val (.ref b2), .val (.ref b5), .val (.int (1 : Int32)), .val (.int v18), .val (.int v20), .val (.ref b23), .val (.int v31), .val (.ref b33), .unset, .unset, .unset, .unset, .unset, .unset] [(.ref b33)])) t → Steps p.tables e below (s₁.setTop (entryFrame m #[(.int xa), (.int xb), (.int xc), (.int xd)] maxLocals)) t := fun t k => pre37 t (by
    show Steps p.tables e below (T36.setTop (mkF m 93 #[.val (.int xa), .val (.int xb), .val (.int xc), .val (.int xd), .val (.ref b2), .val (.ref b5), .val (.int (1 : Int32)), .val (.int v18), .val (.int v20), .val (.ref b23), .val (.int v31), .unset, .unset, .unset, .unset, .unset, .unset, .unset] [(.ref b33)])) _
    refine XS.astore X36.here hx rfl (hb hby at_93) rfl rfl (l' := #[.val (.int xa), .val (.int xb), .val (.int xc), .val (.int xd), .val (.ref b2), .val (.ref b5), .val (.int (1 : Int32)), .val (.int v18), .val (.int v20), .val (.ref b23), .val (.int v31), .val (.ref b33), .unset, .unset, .unset, .unset, .unset, .unset]) rfl ?_
    refine XS.aload X36.here hx rfl (hb hby at_95) rfl rfl ?_
    exact k)
  obtain ⟨cq39, kq39, q39a, q39b, q39c⟩ := isOf hZ rfl (R36.exa (i := 0) rfl)
  obtain ⟨_, _, ⟨T39, L39, k39, n39⟩, -, X39, ⟨Lc39, hQ39, l39, y39, z39⟩, st39⟩ := X36.virtualBack hx (y := (⟨"com/example/sidetrack/sidetrack/codec/BerReader", "atEnd", "()Z"⟩ : MethodName)) (z := (⟨"com/example/sidetrack/sidetrack/codec/BerReader", "atEnd", "()Z"⟩ : MethodName)) hown (mvT hZ (hw _ (List.mem_of_getElem? (i := 16) rfl))) (mvT hZ (hw _ (List.mem_of_getElem? (i := 17) rfl))) (notFace_of_selects (args := #[]) (mvT hZ (hw _ (List.mem_of_getElem? (i := 19) rfl)))) (mvT hZ (hw _ (List.mem_of_getElem? (i := 19) rfl))) (mvT hZ (hw _ (List.mem_of_getElem? (i := 18) rfl))) (by decide) (backOf (W := 0) (rm3 l Z a0 hw [] b33 _ _ _ T36.heap n0 _ R36 ) hZ (hw _ (List.mem_of_getElem? (i := 20) rfl)) (hw _ (List.mem_of_getElem? (i := 3) rfl)) (by decide) (by decide)) q39a q39c (g := (mkF m 97 #[.val (.int xa), .val (.int xb), .val (.int xc), .val (.int xd), .val (.ref b2), .val (.ref b5), .val (.int (1 : Int32)), .val (.int v18), .val (.int v20), .val (.ref b23), .val (.int v31), .val (.ref b33), .unset, .unset, .unset, .unset, .unset, .unset] [(.ref b33)])) rfl (by rw [hml]; rfl) (Steps.refl _) (argsL := []) (rest := []) (lenOf pd__28_29Z rfl) rfl (by show 2 * 0 + _ ≤ _; exact Nat.le_of_eq rfl) (hb hby at_97) (fun _ _ => ⟨rfl, rfl, (by decide : 4 + 0 ≤ _), (by decide : 18 + 0 ≤ _)⟩)
  dsimp only [Pt.U, Pt.locs, Pt.cells, Pt.slots] at X39 l39 y39 z39 st39 hQ39
  subst y39 z39
  obtain ⟨rfl, N39q, R39⟩ := hQ39
  have N39 : Fr n0.1 L39 := by rw [l39]; exact Fr.app N36 N39q
  replace R39 : Rep Z n0 T39.heap ((b33, Obj "com/example/sidetrack/sidetrack/codec/BerReader" [("bytes", "[B", (.ref b23)), ("position", "I", (.int (0 : Int32))), ("end", "I", (.int v31))]) :: (b23, Ar .byte [(.int (4 : Int32)), (.int v18), (.int (0 : Int32)), (.int (0 : Int32)), (.int (0 : Int32)), (.int (0 : Int32))]) :: (b5, Obj "com/example/sidetrack/sidetrack/codec/BerReader" [("bytes", "[B", (.ref b2)), ("position", "I", (.int xa)), ("end", "I", (.int xb))]) :: (b2, Ar .byte [(.int (0 : Int32)), (.int (0 : Int32)), (.int (0 : Int32)), (.int (0 : Int32)), (.int (0 : Int32)), (.int (0 : Int32))]) :: []) := R39
  have pre40 : ∀ t, Steps p.tables e below (T39.setTop (mkF m 100 #[.val (.int xa), .val (.int xb), .val (.int xc), .val (.int xd), .val (.ref b2), .val (.ref b5), .val (.int (1 : Int32)), .val (.int v18), .val (.int v20), .val (.ref b23), .val (.int v31), .val (.ref b33), .unset, .unset, .unset, .unset, .unset, .unset] [(.int (F3 (0 : Int32) v31))])) t → Steps p.tables e below (s₁.setTop (entryFrame m #[(.int xa), (.int xb), (.int xc), (.int xd)] maxLocals)) t := fun t k => pre38 t (st39.trans k)
  have hb41 : (F3 (0 : Int32) v31) = (0 : Int32) := own_A0 hL hX hv31
  have pre42 : ∀ t, Steps p.tables e below (T39.setTop (mkF m 112 #[.val (.int xa), .val (.int xb), .val (.int xc), .val (.int xd), .val (.ref b2), .val (.ref b5), .val (.int (1 : Int32)), .val (.int v18), .val (.int v20), .val (.ref b23), .val (.int v31), .val (.ref b33), .val (.int (1 : Int32)), .unset, .unset, .unset, .unset, .unset] [(.ref b33)])) t → Steps p.tables e below (s₁.setTop (entryFrame m #[(.int xa), (.int xb), (.int xc), (.int xd)] maxLocals)) t := fun t k => pre40 t (by
    show Steps p.tables e below (T39.setTop (mkF m 100 #[.val (.int xa), .val (.int xb), .val (.int xc), .val (.int xd), .val (.ref b2), .val (.ref b5), .val (.int (1 : Int32)), .val (.int v18), .val (.int v20), .val (.ref b23), .val (.int v31), .val (.ref b33), .unset, .unset, .unset, .unset, .unset, .unset] [(.int (F3 (0 : Int32) v31))])) _
    refine XS.ifNo X39.here hx rfl (hb hby at_100) rfl ((if0 _ _).trans (teq hb41).2) ?_
    refine XS.iconst X39.here hx rfl (hb hby at_103) ?_
    refine XS.goto X39.here hx rfl (pc0 := 104) (pc' := 108) rfl (hb hby at_104) (by decide) (by decide) ?_
    refine XS.istore X39.here hx rfl (hb hby at_108) rfl (l' := #[.val (.int xa), .val (.int xb), .val (.int xc), .val (.int xd), .val (.ref b2), .val (.ref b5), .val (.int (1 : Int32)), .val (.int v18), .val (.int v20), .val (.ref b23), .val (.int v31), .val (.ref b33), .val (.int (1 : Int32)), .unset, .unset, .unset, .unset, .unset]) rfl ?_
    refine XS.aload X39.here hx rfl (hb hby at_110) rfl rfl ?_
    exact k)
  obtain ⟨a43, T43, h43, k43, n43, X43, e43, N43, R43, Qm43, hS43, hk43, hZ43, hown43, st43⟩ := gLdcS (s := s) (vm0 := s.vm) X39 hx hZ hown (hw _ (List.mem_of_getElem? (i := 21) rfl)) (own_wS hw) rfl N39 R39 ((State.WarmedH.refl s).since n0.2) (Nat.le_refl _) (g := (mkF m 112 #[.val (.int xa), .val (.int xb), .val (.int xc), .val (.int xd), .val (.ref b2), .val (.ref b5), .val (.int (1 : Int32)), .val (.int v18), .val (.int v20), .val (.ref b23), .val (.int v31), .val (.ref b33), .val (.int (1 : Int32)), .unset, .unset, .unset, .unset, .unset] [(.ref b33)])) rfl (hb hby at_112) 4 (by decide +kernel) (by decide) (by decide) (by decide)
  have Qn43 := Qm43
  replace hZ := hZ43
  replace hown := hown43
  have pre44 : ∀ t, Steps p.tables e below (T43.setTop (mkF m 114 #[.val (.int xa), .val (.int xb), .val (.int xc), .val (.int xd), .val (.ref b2), .val (.ref b5), .val (.int (1 : Int32)), .val (.int v18), .val (.int v20), .val (.ref b23), .val (.int v31), .val (.ref b33), .val (.int (1 : Int32)), .unset, .unset, .unset, .unset, .unset] [(.ref a43), (.ref b33)])) t → Steps p.tables e below (s₁.setTop (entryFrame m #[(.int xa), (.int xb), (.int xc), (.int xd)] maxLocals)) t := fun t k => pre42 t (st43 t k)
  obtain ⟨cq45, kq45, q45a, q45b, q45c⟩ := isOf hZ e43 (R43.exa (i := 0) rfl)
  obtain ⟨_, _, ⟨T45, L45, k45, n45⟩, -, X45, ⟨Lc45, hQ45, l45, y45, z45⟩, st45⟩ := X43.virtualBack hx (y := (⟨"com/example/sidetrack/sidetrack/codec/BerReader", "next", "(Ljava/lang/String;)Lcom/example/sidetrack/sidetrack/codec/BerReader$Element;"⟩ : MethodName)) (z := (⟨"com/example/sidetrack/sidetrack/codec/BerReader", "next", "(Ljava/lang/String;)Lcom/example/sidetrack/sidetrack/codec/BerReader$Element;"⟩ : MethodName)) hown (mvT hZ (hw _ (List.mem_of_getElem? (i := 28) rfl))) (mvT hZ (hw _ (List.mem_of_getElem? (i := 29) rfl))) (notFace_of_selects (args := #[]) (mvT hZ (hw _ (List.mem_of_getElem? (i := 31) rfl)))) (mvT hZ (hw _ (List.mem_of_getElem? (i := 31) rfl))) (mvT hZ (hw _ (List.mem_of_getElem? (i := 30) rfl))) (by decide) (backOf (W := 0) (rm4 l Z a0 hw [] b33 a43 _ _ _ h43 n43 _ R43 (hL) (own_A0 hL hX hv31) (own_A1 hL hX hv31) (own_B hL hX hv31)) hZ (hw _ (List.mem_of_getElem? (i := 32) rfl)) (hw _ (List.mem_of_getElem? (i := 3) rfl)) (by decide) (by decide)) q45a q45c (g := (mkF m 114 #[.val (.int xa), .val (.int xb), .val (.int xc), .val (.int xd), .val (.ref b2), .val (.ref b5), .val (.int (1 : Int32)), .val (.int v18), .val (.int v20), .val (.ref b23), .val (.int v31), .val (.ref b33), .val (.int (1 : Int32)), .unset, .unset, .unset, .unset, .unset] [(.ref a43), (.ref b33)])) rfl (by rw [hml]; rfl) (Steps.refl _) (argsL := [(.ref a43)]) (rest := []) (lenOf pd__28Ljava_2flang_2fString_3b_29Lcom_2fexample_2fsidetrack_2fsidetrack_2fcodec_2fBerReader_24Element_3b rfl) rfl (by show 2 * 0 + _ ≤ _; exact Nat.le_of_eq rfl) (hb hby at_114) (fun _ _ => ⟨rfl, e43, (by decide : 6 + 2 ≤ _), (by decide : 26 + 6 ≤ _)⟩)
  dsimp only [Pt.U, Pt.locs, Pt.cells, Pt.slots] at X45 l45 y45 z45 st45 hQ45
  subst y45 z45
  obtain ⟨rx45, cx45, rfl, N45q, R45⟩ := hQ45
  have N45 : Fr n43.1 L45 := by rw [l45]; exact Fr.app N43 N45q
  replace R45 : Rep Z n43 T45.heap ((b33, Obj "com/example/sidetrack/sidetrack/codec/BerReader" [("bytes", "[B", (.ref b23)), ("position", "I", (.int ((2 : Int32) + v18))), ("end", "I", (.int v31))]) :: (b23, Ar .byte [(.int (4 : Int32)), (.int v18), (.int (0 : Int32)), (.int (0 : Int32)), (.int (0 : Int32)), (.int (0 : Int32))]) :: (rx45, Obj "com/example/sidetrack/sidetrack/codec/BerReader$Element" [("tag", "I", (.int (4 : Int32))), ("offset", "I", (.int (0 : Int32))), ("contents", "Lcom/example/sidetrack/sidetrack/codec/BerReader;", (.ref cx45))]) :: (cx45, Obj "com/example/sidetrack/sidetrack/codec/BerReader" [("bytes", "[B", (.ref b23)), ("position", "I", (.int (2 : Int32))), ("end", "I", (.int ((2 : Int32) + v18)))]) :: (b5, Obj "com/example/sidetrack/sidetrack/codec/BerReader" [("bytes", "[B", (.ref b2)), ("position", "I", (.int xa)), ("end", "I", (.int xb))]) :: (b2, Ar .byte [(.int (0 : Int32)), (.int (0 : Int32)), (.int (0 : Int32)), (.int (0 : Int32)), (.int (0 : Int32)), (.int (0 : Int32))]) :: []) := R45
  have pre46 : ∀ t, Steps p.tables e below (T45.setTop (mkF m 117 #[.val (.int xa), .val (.int xb), .val (.int xc), .val (.int xd), .val (.ref b2), .val (.ref b5), .val (.int (1 : Int32)), .val (.int v18), .val (.int v20), .val (.ref b23), .val (.int v31), .val (.ref b33), .val (.int (1 : Int32)), .unset, .unset, .unset, .unset, .unset] [(.ref rx45)])) t → Steps p.tables e below (s₁.setTop (entryFrame m #[(.int xa), (.int xb), (.int xc), (.int xd)] maxLocals)) t := fun t k => pre44 t (st45.trans k)
  have pre47 : ∀ t, Steps p.tables e below (T45.setTop (mkF m 121 #[.val (.int xa), .val (.int xb), .val (.int xc), .val (.int xd), .val (.ref b2), .val (.ref b5), .val (.int (1 : Int32)), .val (.int v18), .val (.int v20), .val (.ref b23), .val (.int v31), .val (.ref b33), .val (.int (1 : Int32)), .val (.ref rx45), .unset, .unset, .unset, .unset] [(.ref b33)])) t → Steps p.tables e below (s₁.setTop (entryFrame m #[(.int xa), (.int xb), (.int xc), (.int xd)] maxLocals)) t := fun t k => pre46 t (by
    show Steps p.tables e below (T45.setTop (mkF m 117 #[.val (.int xa), .val (.int xb), .val (.int xc), .val (.int xd), .val (.ref b2), .val (.ref b5), .val (.int (1 : Int32)), .val (.int v18), .val (.int v20), .val (.ref b23), .val (.int v31), .val (.ref b33), .val (.int (1 : Int32)), .unset, .unset, .unset, .unset, .unset] [(.ref rx45)])) _
    refine XS.astore X45.here hx rfl (hb hby at_117) rfl rfl (l' := #[.val (.int xa), .val (.int xb), .val (.int xc), .val (.int xd), .val (.ref b2), .val (.ref b5), .val (.int (1 : Int32)), .val (.int v18), .val (.int v20), .val (.ref b23), .val (.int v31), .val (.ref b33), .val (.int (1 : Int32)), .val (.ref rx45), .unset, .unset, .unset, .unset]) rfl ?_
    refine XS.aload X45.here hx rfl (hb hby at_119) rfl rfl ?_
    exact k)
  obtain ⟨cq48, kq48, q48a, q48b, q48c⟩ := isOf hZ rfl (R45.exa (i := 0) rfl)
  obtain ⟨_, _, ⟨T48, L48, k48, n48⟩, -, X48, ⟨Lc48, hQ48, l48, y48, z48⟩, st48⟩ := X45.virtualBack hx (y := (⟨"com/example/sidetrack/sidetrack/codec/BerReader", "atEnd", "()Z"⟩ : MethodName)) (z := (⟨"com/example/sidetrack/sidetrack/codec/BerReader", "atEnd", "()Z"⟩ : MethodName)) hown (mvT hZ (hw _ (List.mem_of_getElem? (i := 16) rfl))) (mvT hZ (hw _ (List.mem_of_getElem? (i := 17) rfl))) (notFace_of_selects (args := #[]) (mvT hZ (hw _ (List.mem_of_getElem? (i := 19) rfl)))) (mvT hZ (hw _ (List.mem_of_getElem? (i := 19) rfl))) (mvT hZ (hw _ (List.mem_of_getElem? (i := 18) rfl))) (by decide) (backOf (W := 0) (rm3 l Z a0 hw [] b33 _ _ _ T45.heap n43 _ R45 ) hZ (hw _ (List.mem_of_getElem? (i := 20) rfl)) (hw _ (List.mem_of_getElem? (i := 3) rfl)) (by decide) (by decide)) q48a q48c (g := (mkF m 121 #[.val (.int xa), .val (.int xb), .val (.int xc), .val (.int xd), .val (.ref b2), .val (.ref b5), .val (.int (1 : Int32)), .val (.int v18), .val (.int v20), .val (.ref b23), .val (.int v31), .val (.ref b33), .val (.int (1 : Int32)), .val (.ref rx45), .unset, .unset, .unset, .unset] [(.ref b33)])) rfl (by rw [hml]; rfl) (Steps.refl _) (argsL := []) (rest := []) (lenOf pd__28_29Z rfl) rfl (by show 2 * 0 + _ ≤ _; exact Nat.le_of_eq rfl) (hb hby at_121) (fun _ _ => ⟨rfl, rfl, (by decide : 8 + 0 ≤ _), (by decide : 32 + 0 ≤ _)⟩)
  dsimp only [Pt.U, Pt.locs, Pt.cells, Pt.slots] at X48 l48 y48 z48 st48 hQ48
  subst y48 z48
  obtain ⟨rfl, N48q, R48⟩ := hQ48
  have N48 : Fr n43.1 L48 := by rw [l48]; exact Fr.app N45 N48q
  replace R48 : Rep Z n43 T48.heap ((b33, Obj "com/example/sidetrack/sidetrack/codec/BerReader" [("bytes", "[B", (.ref b23)), ("position", "I", (.int ((2 : Int32) + v18))), ("end", "I", (.int v31))]) :: (b23, Ar .byte [(.int (4 : Int32)), (.int v18), (.int (0 : Int32)), (.int (0 : Int32)), (.int (0 : Int32)), (.int (0 : Int32))]) :: (rx45, Obj "com/example/sidetrack/sidetrack/codec/BerReader$Element" [("tag", "I", (.int (4 : Int32))), ("offset", "I", (.int (0 : Int32))), ("contents", "Lcom/example/sidetrack/sidetrack/codec/BerReader;", (.ref cx45))]) :: (cx45, Obj "com/example/sidetrack/sidetrack/codec/BerReader" [("bytes", "[B", (.ref b23)), ("position", "I", (.int (2 : Int32))), ("end", "I", (.int ((2 : Int32) + v18)))]) :: (b5, Obj "com/example/sidetrack/sidetrack/codec/BerReader" [("bytes", "[B", (.ref b2)), ("position", "I", (.int xa)), ("end", "I", (.int xb))]) :: (b2, Ar .byte [(.int (0 : Int32)), (.int (0 : Int32)), (.int (0 : Int32)), (.int (0 : Int32)), (.int (0 : Int32)), (.int (0 : Int32))]) :: []) := R48
  have pre49 : ∀ t, Steps p.tables e below (T48.setTop (mkF m 124 #[.val (.int xa), .val (.int xb), .val (.int xc), .val (.int xd), .val (.ref b2), .val (.ref b5), .val (.int (1 : Int32)), .val (.int v18), .val (.int v20), .val (.ref b23), .val (.int v31), .val (.ref b33), .val (.int (1 : Int32)), .val (.ref rx45), .unset, .unset, .unset, .unset] [(.int (F3 ((2 : Int32) + v18) v31))])) t → Steps p.tables e below (s₁.setTop (entryFrame m #[(.int xa), (.int xb), (.int xc), (.int xd)] maxLocals)) t := fun t k => pre47 t (st48.trans k)
  have pre52 : ∀ t, Steps p.tables e below (T48.setTop (mkF m 126 #[.val (.int xa), .val (.int xb), .val (.int xc), .val (.int xd), .val (.ref b2), .val (.ref b5), .val (.int (1 : Int32)), .val (.int v18), .val (.int v20), .val (.ref b23), .val (.int v31), .val (.ref b33), .val (.int (1 : Int32)), .val (.ref rx45), .unset, .unset, .unset, .unset] [(.int v20), (.int (F3 ((2 : Int32) + v18) v31))])) t → Steps p.tables e below (s₁.setTop (entryFrame m #[(.int xa), (.int xb), (.int xc), (.int xd)] maxLocals)) t := fun t k => pre49 t (by
    show Steps p.tables e below (T48.setTop (mkF m 124 #[.val (.int xa), .val (.int xb), .val (.int xc), .val (.int xd), .val (.ref b2), .val (.ref b5), .val (.int (1 : Int32)), .val (.int v18), .val (.int v20), .val (.ref b23), .val (.int v31), .val (.ref b33), .val (.int (1 : Int32)), .val (.ref rx45), .unset, .unset, .unset, .unset] [(.int (F3 ((2 : Int32) + v18) v31))])) _
    refine XS.iload X48.here hx rfl (hb hby at_124) rfl ?_
    exact k)
  have tl51 : ∀ t, Steps p.tables e below (T48.setTop (mkF m 134 #[.val (.int xa), .val (.int xb), .val (.int xc), .val (.int xd), .val (.ref b2), .val (.ref b5), .val (.int (1 : Int32)), .val (.int v18), .val (.int v20), .val (.ref b23), .val (.int v31), .val (.ref b33), .val (.int (1 : Int32)), .val (.ref rx45), .unset, .unset, .unset, .unset] [(.int (bz (v20 = (0 : Int32)))), (.int (F3 ((2 : Int32) + v18) v31))])) t → Steps p.tables e below (T48.setTop (mkF m 126 #[.val (.int xa), .val (.int xb), .val (.int xc), .val (.int xd), .val (.ref b2), .val (.ref b5), .val (.int (1 : Int32)), .val (.int v18), .val (.int v20), .val (.ref b23), .val (.int v31), .val (.ref b33), .val (.int (1 : Int32)), .val (.ref rx45), .unset, .unset, .unset, .unset] [(.int v20), (.int (F3 ((2 : Int32) + v18) v31))])) t := fun t k => by
    by_cases hb50 : v20 = (0 : Int32)
    · refine XS.ifNo X48.here hx rfl (hb hby at_126) rfl ((if0 _ _).trans (teq hb50).2) ?_
      rw [bz_one (P := (v20 = (0 : Int32))) (iff_true_intro hb50)] at k
      show Steps p.tables e below (T48.setTop (mkF m 129 #[.val (.int xa), .val (.int xb), .val (.int xc), .val (.int xd), .val (.ref b2), .val (.ref b5), .val (.int (1 : Int32)), .val (.int v18), .val (.int v20), .val (.ref b23), .val (.int v31), .val (.ref b33), .val (.int (1 : Int32)), .val (.ref rx45), .unset, .unset, .unset, .unset] [(.int (F3 ((2 : Int32) + v18) v31))])) _
      refine XS.iconst X48.here hx rfl (hb hby at_129) ?_
      refine XS.goto X48.here hx rfl (pc0 := 130) (pc' := 134) rfl (hb hby at_130) (by decide) (by decide) ?_
      exact k
    · refine XS.ifYes X48.here hx rfl (pc0 := 126) (pc' := 133) rfl (hb hby at_126) rfl ((if0 _ _).trans (feq hb50).2) (by decide) (by decide) ?_
      rw [bz_zero (P := (v20 = (0 : Int32))) (iff_false_intro hb50)] at k
      show Steps p.tables e below (T48.setTop (mkF m 133 #[.val (.int xa), .val (.int xb), .val (.int xc), .val (.int xd), .val (.ref b2), .val (.ref b5), .val (.int (1 : Int32)), .val (.int v18), .val (.int v20), .val (.ref b23), .val (.int v31), .val (.ref b33), .val (.int (1 : Int32)), .val (.ref rx45), .unset, .unset, .unset, .unset] [(.int (F3 ((2 : Int32) + v18) v31))])) _
      refine XS.iconst X48.here hx rfl (hb hby at_133) ?_
      exact k
  have pre53 : ∀ t, Steps p.tables e below (T48.setTop (mkF m 134 #[.val (.int xa), .val (.int xb), .val (.int xc), .val (.int xd), .val (.ref b2), .val (.ref b5), .val (.int (1 : Int32)), .val (.int v18), .val (.int v20), .val (.ref b23), .val (.int v31), .val (.ref b33), .val (.int (1 : Int32)), .val (.ref rx45), .unset, .unset, .unset, .unset] [(.int (bz (v20 = (0 : Int32)))), (.int (F3 ((2 : Int32) + v18) v31))])) t → Steps p.tables e below (s₁.setTop (entryFrame m #[(.int xa), (.int xb), (.int xc), (.int xd)] maxLocals)) t := fun t k => pre52 t (by
    exact tl51 t k)
  have hb54 : (F3 ((2 : Int32) + v18) v31) = (bz (v20 = (0 : Int32))) := own_C hL hX hv31
  have pre55 : ∀ t, Steps p.tables e below (T48.setTop (mkF m 146 #[.val (.int xa), .val (.int xb), .val (.int xc), .val (.int xd), .val (.ref b2), .val (.ref b5), .val (.int (1 : Int32)), .val (.int v18), .val (.int v20), .val (.ref b23), .val (.int v31), .val (.ref b33), .val (.int (1 : Int32)), .val (.ref rx45), .val (.int (1 : Int32)), .unset, .unset, .unset] [(.ref rx45)])) t → Steps p.tables e below (s₁.setTop (entryFrame m #[(.int xa), (.int xb), (.int xc), (.int xd)] maxLocals)) t := fun t k => pre53 t (by
    show Steps p.tables e below (T48.setTop (mkF m 134 #[.val (.int xa), .val (.int xb), .val (.int xc), .val (.int xd), .val (.ref b2), .val (.ref b5), .val (.int (1 : Int32)), .val (.int v18), .val (.int v20), .val (.ref b23), .val (.int v31), .val (.ref b33), .val (.int (1 : Int32)), .val (.ref rx45), .unset, .unset, .unset, .unset] [(.int (bz (v20 = (0 : Int32)))), (.int (F3 ((2 : Int32) + v18) v31))])) _
    refine XS.icmpNo X48.here hx rfl (hb hby at_134) rfl (teq hb54).2 ?_
    refine XS.iconst X48.here hx rfl (hb hby at_137) ?_
    refine XS.goto X48.here hx rfl (pc0 := 138) (pc' := 142) rfl (hb hby at_138) (by decide) (by decide) ?_
    refine XS.istore X48.here hx rfl (hb hby at_142) rfl (l' := #[.val (.int xa), .val (.int xb), .val (.int xc), .val (.int xd), .val (.ref b2), .val (.ref b5), .val (.int (1 : Int32)), .val (.int v18), .val (.int v20), .val (.ref b23), .val (.int v31), .val (.ref b33), .val (.int (1 : Int32)), .val (.ref rx45), .val (.int (1 : Int32)), .unset, .unset, .unset]) rfl ?_
    refine XS.aload X48.here hx rfl (hb hby at_144) rfl rfl ?_
    exact k)
  have R57 : Rep Z n43 T48.heap ((rx45, Obj "com/example/sidetrack/sidetrack/codec/BerReader$Element" [("tag", "I", (.int (4 : Int32))), ("offset", "I", (.int (0 : Int32))), ("contents", "Lcom/example/sidetrack/sidetrack/codec/BerReader;", (.ref cx45))]) :: (b33, Obj "com/example/sidetrack/sidetrack/codec/BerReader" [("bytes", "[B", (.ref b23)), ("position", "I", (.int ((2 : Int32) + v18))), ("end", "I", (.int v31))]) :: (b23, Ar .byte [(.int (4 : Int32)), (.int v18), (.int (0 : Int32)), (.int (0 : Int32)), (.int (0 : Int32)), (.int (0 : Int32))]) :: (cx45, Obj "com/example/sidetrack/sidetrack/codec/BerReader" [("bytes", "[B", (.ref b23)), ("position", "I", (.int (2 : Int32))), ("end", "I", (.int ((2 : Int32) + v18)))]) :: (b5, Obj "com/example/sidetrack/sidetrack/codec/BerReader" [("bytes", "[B", (.ref b2)), ("position", "I", (.int xa)), ("end", "I", (.int xb))]) :: (b2, Ar .byte [(.int (0 : Int32)), (.int (0 : Int32)), (.int (0 : Int32)), (.int (0 : Int32)), (.int (0 : Int32)), (.int (0 : Int32))]) :: []) := R48.front 2 rfl rfl
  obtain ⟨cq56, kq56, q56a, q56b, q56c⟩ := isOf hZ rfl (R57.exa (i := 0) rfl)
  obtain ⟨_, _, ⟨T56, L56, k56, n56⟩, -, X56, ⟨Lc56, hQ56, l56, y56, z56⟩, st56⟩ := X48.virtualBack hx (y := (⟨"com/example/sidetrack/sidetrack/codec/BerReader$Element", "contents", "()Lcom/example/sidetrack/sidetrack/codec/BerReader;"⟩ : MethodName)) (z := (⟨"com/example/sidetrack/sidetrack/codec/BerReader$Element", "contents", "()Lcom/example/sidetrack/sidetrack/codec/BerReader;"⟩ : MethodName)) hown (mvT hZ (hw _ (List.mem_of_getElem? (i := 63) rfl))) (mvT hZ (hw _ (List.mem_of_getElem? (i := 64) rfl))) (notFace_of_selects (args := #[]) (mvT hZ (hw _ (List.mem_of_getElem? (i := 66) rfl)))) (mvT hZ (hw _ (List.mem_of_getElem? (i := 66) rfl))) (mvT hZ (hw _ (List.mem_of_getElem? (i := 65) rfl))) (by decide) (backOf (W := 0) (rm9 l Z a0 hw [] rx45 _ _ _ T48.heap n43 _ R57 ) hZ (hw _ (List.mem_of_getElem? (i := 67) rfl)) (hw _ (List.mem_of_getElem? (i := 47) rfl)) (by decide) (by decide)) q56a q56c (g := (mkF m 146 #[.val (.int xa), .val (.int xb), .val (.int xc), .val (.int xd), .val (.ref b2), .val (.ref b5), .val (.int (1 : Int32)), .val (.int v18), .val (.int v20), .val (.ref b23), .val (.int v31), .val (.ref b33), .val (.int (1 : Int32)), .val (.ref rx45), .val (.int (1 : Int32)), .unset, .unset, .unset] [(.ref rx45)])) rfl (by rw [hml]; rfl) (Steps.refl _) (argsL := []) (rest := []) (lenOf pd__28_29Lcom_2fexample_2fsidetrack_2fsidetrack_2fcodec_2fBerReader_3b rfl) rfl (by show 2 * 0 + _ ≤ _; exact Nat.le_of_eq rfl) (hb hby at_146) (fun _ _ => ⟨rfl, rfl, (by decide : 8 + 0 ≤ _), (by decide : 32 + 0 ≤ _)⟩)
  dsimp only [Pt.U, Pt.locs, Pt.cells, Pt.slots] at X56 l56 y56 z56 st56 hQ56
  subst y56 z56
  obtain ⟨rfl, N56q, R56⟩ := hQ56
  have N56 : Fr n43.1 L56 := by rw [l56]; exact Fr.app N48 N56q
  replace R56 : Rep Z n43 T56.heap ((rx45, Obj "com/example/sidetrack/sidetrack/codec/BerReader$Element" [("tag", "I", (.int (4 : Int32))), ("offset", "I", (.int (0 : Int32))), ("contents", "Lcom/example/sidetrack/sidetrack/codec/BerReader;", (.ref cx45))]) :: (b33, Obj "com/example/sidetrack/sidetrack/codec/BerReader" [("bytes", "[B", (.ref b23)), ("position", "I", (.int ((2 : Int32) + v18))), ("end", "I", (.int v31))]) :: (b23, Ar .byte [(.int (4 : Int32)), (.int v18), (.int (0 : Int32)), (.int (0 : Int32)), (.int (0 : Int32)), (.int (0 : Int32))]) :: (cx45, Obj "com/example/sidetrack/sidetrack/codec/BerReader" [("bytes", "[B", (.ref b23)), ("position", "I", (.int (2 : Int32))), ("end", "I", (.int ((2 : Int32) + v18)))]) :: (b5, Obj "com/example/sidetrack/sidetrack/codec/BerReader" [("bytes", "[B", (.ref b2)), ("position", "I", (.int xa)), ("end", "I", (.int xb))]) :: (b2, Ar .byte [(.int (0 : Int32)), (.int (0 : Int32)), (.int (0 : Int32)), (.int (0 : Int32)), (.int (0 : Int32)), (.int (0 : Int32))]) :: []) := R56
  have pre58 : ∀ t, Steps p.tables e below (T56.setTop (mkF m 149 #[.val (.int xa), .val (.int xb), .val (.int xc), .val (.int xd), .val (.ref b2), .val (.ref b5), .val (.int (1 : Int32)), .val (.int v18), .val (.int v20), .val (.ref b23), .val (.int v31), .val (.ref b33), .val (.int (1 : Int32)), .val (.ref rx45), .val (.int (1 : Int32)), .unset, .unset, .unset] [(.ref cx45)])) t → Steps p.tables e below (s₁.setTop (entryFrame m #[(.int xa), (.int xb), (.int xc), (.int xd)] maxLocals)) t := fun t k => pre55 t (st56.trans k)
  have R60 : Rep Z n43 T56.heap ((cx45, Obj "com/example/sidetrack/sidetrack/codec/BerReader" [("bytes", "[B", (.ref b23)), ("position", "I", (.int (2 : Int32))), ("end", "I", (.int ((2 : Int32) + v18)))]) :: (rx45, Obj "com/example/sidetrack/sidetrack/codec/BerReader$Element" [("tag", "I", (.int (4 : Int32))), ("offset", "I", (.int (0 : Int32))), ("contents", "Lcom/example/sidetrack/sidetrack/codec/BerReader;", (.ref cx45))]) :: (b33, Obj "com/example/sidetrack/sidetrack/codec/BerReader" [("bytes", "[B", (.ref b23)), ("position", "I", (.int ((2 : Int32) + v18))), ("end", "I", (.int v31))]) :: (b23, Ar .byte [(.int (4 : Int32)), (.int v18), (.int (0 : Int32)), (.int (0 : Int32)), (.int (0 : Int32)), (.int (0 : Int32))]) :: (b5, Obj "com/example/sidetrack/sidetrack/codec/BerReader" [("bytes", "[B", (.ref b2)), ("position", "I", (.int xa)), ("end", "I", (.int xb))]) :: (b2, Ar .byte [(.int (0 : Int32)), (.int (0 : Int32)), (.int (0 : Int32)), (.int (0 : Int32)), (.int (0 : Int32)), (.int (0 : Int32))]) :: []) := R56.front 3 rfl rfl
  obtain ⟨cq59, kq59, q59a, q59b, q59c⟩ := isOf hZ rfl (R60.exa (i := 0) rfl)
  obtain ⟨_, _, ⟨T59, L59, k59, n59⟩, -, X59, ⟨Lc59, hQ59, l59, y59, z59⟩, st59⟩ := X56.virtualBack hx (y := (⟨"com/example/sidetrack/sidetrack/codec/BerReader", "atEnd", "()Z"⟩ : MethodName)) (z := (⟨"com/example/sidetrack/sidetrack/codec/BerReader", "atEnd", "()Z"⟩ : MethodName)) hown (mvT hZ (hw _ (List.mem_of_getElem? (i := 16) rfl))) (mvT hZ (hw _ (List.mem_of_getElem? (i := 17) rfl))) (notFace_of_selects (args := #[]) (mvT hZ (hw _ (List.mem_of_getElem? (i := 19) rfl)))) (mvT hZ (hw _ (List.mem_of_getElem? (i := 19) rfl))) (mvT hZ (hw _ (List.mem_of_getElem? (i := 18) rfl))) (by decide) (backOf (W := 0) (rm3 l Z a0 hw [] cx45 _ _ _ T56.heap n43 _ R60 ) hZ (hw _ (List.mem_of_getElem? (i := 20) rfl)) (hw _ (List.mem_of_getElem? (i := 3) rfl)) (by decide) (by decide)) q59a q59c (g := (mkF m 149 #[.val (.int xa), .val (.int xb), .val (.int xc), .val (.int xd), .val (.ref b2), .val (.ref b5), .val (.int (1 : Int32)), .val (.int v18), .val (.int v20), .val (.ref b23), .val (.int v31), .val (.ref b33), .val (.int (1 : Int32)), .val (.ref rx45), .val (.int (1 : Int32)), .unset, .unset, .unset] [(.ref cx45)])) rfl (by rw [hml]; rfl) (Steps.refl _) (argsL := []) (rest := []) (lenOf pd__28_29Z rfl) rfl (by show 2 * 0 + _ ≤ _; exact Nat.le_of_eq rfl) (hb hby at_149) (fun _ _ => ⟨rfl, rfl, (by decide : 8 + 0 ≤ _), (by decide : 32 + 0 ≤ _)⟩)
  dsimp only [Pt.U, Pt.locs, Pt.cells, Pt.slots] at X59 l59 y59 z59 st59 hQ59
  subst y59 z59
  obtain ⟨rfl, N59q, R59⟩ := hQ59
  have N59 : Fr n43.1 L59 := by rw [l59]; exact Fr.app N56 N59q
  replace R59 : Rep Z n43 T59.heap ((cx45, Obj "com/example/sidetrack/sidetrack/codec/BerReader" [("bytes", "[B", (.ref b23)), ("position", "I", (.int (2 : Int32))), ("end", "I", (.int ((2 : Int32) + v18)))]) :: (rx45, Obj "com/example/sidetrack/sidetrack/codec/BerReader$Element" [("tag", "I", (.int (4 : Int32))), ("offset", "I", (.int (0 : Int32))), ("contents", "Lcom/example/sidetrack/sidetrack/codec/BerReader;", (.ref cx45))]) :: (b33, Obj "com/example/sidetrack/sidetrack/codec/BerReader" [("bytes", "[B", (.ref b23)), ("position", "I", (.int ((2 : Int32) + v18))), ("end", "I", (.int v31))]) :: (b23, Ar .byte [(.int (4 : Int32)), (.int v18), (.int (0 : Int32)), (.int (0 : Int32)), (.int (0 : Int32)), (.int (0 : Int32))]) :: (b5, Obj "com/example/sidetrack/sidetrack/codec/BerReader" [("bytes", "[B", (.ref b2)), ("position", "I", (.int xa)), ("end", "I", (.int xb))]) :: (b2, Ar .byte [(.int (0 : Int32)), (.int (0 : Int32)), (.int (0 : Int32)), (.int (0 : Int32)), (.int (0 : Int32)), (.int (0 : Int32))]) :: []) := R59
  have pre61 : ∀ t, Steps p.tables e below (T59.setTop (mkF m 152 #[.val (.int xa), .val (.int xb), .val (.int xc), .val (.int xd), .val (.ref b2), .val (.ref b5), .val (.int (1 : Int32)), .val (.int v18), .val (.int v20), .val (.ref b23), .val (.int v31), .val (.ref b33), .val (.int (1 : Int32)), .val (.ref rx45), .val (.int (1 : Int32)), .unset, .unset, .unset] [(.int (F3 (2 : Int32) ((2 : Int32) + v18)))])) t → Steps p.tables e below (s₁.setTop (entryFrame m #[(.int xa), (.int xb), (.int xc), (.int xd)] maxLocals)) t := fun t k => pre58 t (st59.trans k)
  have pre64 : ∀ t, Steps p.tables e below (T59.setTop (mkF m 154 #[.val (.int xa), .val (.int xb), .val (.int xc), .val (.int xd), .val (.ref b2), .val (.ref b5), .val (.int (1 : Int32)), .val (.int v18), .val (.int v20), .val (.ref b23), .val (.int v31), .val (.ref b33), .val (.int (1 : Int32)), .val (.ref rx45), .val (.int (1 : Int32)), .unset, .unset, .unset] [(.int v18), (.int (F3 (2 : Int32) ((2 : Int32) + v18)))])) t → Steps p.tables e below (s₁.setTop (entryFrame m #[(.int xa), (.int xb), (.int xc), (.int xd)] maxLocals)) t := fun t k => pre61 t (by
    show Steps p.tables e below (T59.setTop (mkF m 152 #[.val (.int xa), .val (.int xb), .val (.int xc), .val (.int xd), .val (.ref b2), .val (.ref b5), .val (.int (1 : Int32)), .val (.int v18), .val (.int v20), .val (.ref b23), .val (.int v31), .val (.ref b33), .val (.int (1 : Int32)), .val (.ref rx45), .val (.int (1 : Int32)), .unset, .unset, .unset] [(.int (F3 (2 : Int32) ((2 : Int32) + v18)))])) _
    refine XS.iload X59.here hx rfl (hb hby at_152) rfl ?_
    exact k)
  have tl63 : ∀ t, Steps p.tables e below (T59.setTop (mkF m 162 #[.val (.int xa), .val (.int xb), .val (.int xc), .val (.int xd), .val (.ref b2), .val (.ref b5), .val (.int (1 : Int32)), .val (.int v18), .val (.int v20), .val (.ref b23), .val (.int v31), .val (.ref b33), .val (.int (1 : Int32)), .val (.ref rx45), .val (.int (1 : Int32)), .unset, .unset, .unset] [(.int (bz (v18 = (0 : Int32)))), (.int (F3 (2 : Int32) ((2 : Int32) + v18)))])) t → Steps p.tables e below (T59.setTop (mkF m 154 #[.val (.int xa), .val (.int xb), .val (.int xc), .val (.int xd), .val (.ref b2), .val (.ref b5), .val (.int (1 : Int32)), .val (.int v18), .val (.int v20), .val (.ref b23), .val (.int v31), .val (.ref b33), .val (.int (1 : Int32)), .val (.ref rx45), .val (.int (1 : Int32)), .unset, .unset, .unset] [(.int v18), (.int (F3 (2 : Int32) ((2 : Int32) + v18)))])) t := fun t k => by
    by_cases hb62 : v18 = (0 : Int32)
    · refine XS.ifNo X59.here hx rfl (hb hby at_154) rfl ((if0 _ _).trans (teq hb62).2) ?_
      rw [bz_one (P := (v18 = (0 : Int32))) (iff_true_intro hb62)] at k
      show Steps p.tables e below (T59.setTop (mkF m 157 #[.val (.int xa), .val (.int xb), .val (.int xc), .val (.int xd), .val (.ref b2), .val (.ref b5), .val (.int (1 : Int32)), .val (.int v18), .val (.int v20), .val (.ref b23), .val (.int v31), .val (.ref b33), .val (.int (1 : Int32)), .val (.ref rx45), .val (.int (1 : Int32)), .unset, .unset, .unset] [(.int (F3 (2 : Int32) ((2 : Int32) + v18)))])) _
      refine XS.iconst X59.here hx rfl (hb hby at_157) ?_
      refine XS.goto X59.here hx rfl (pc0 := 158) (pc' := 162) rfl (hb hby at_158) (by decide) (by decide) ?_
      exact k
    · refine XS.ifYes X59.here hx rfl (pc0 := 154) (pc' := 161) rfl (hb hby at_154) rfl ((if0 _ _).trans (feq hb62).2) (by decide) (by decide) ?_
      rw [bz_zero (P := (v18 = (0 : Int32))) (iff_false_intro hb62)] at k
      show Steps p.tables e below (T59.setTop (mkF m 161 #[.val (.int xa), .val (.int xb), .val (.int xc), .val (.int xd), .val (.ref b2), .val (.ref b5), .val (.int (1 : Int32)), .val (.int v18), .val (.int v20), .val (.ref b23), .val (.int v31), .val (.ref b33), .val (.int (1 : Int32)), .val (.ref rx45), .val (.int (1 : Int32)), .unset, .unset, .unset] [(.int (F3 (2 : Int32) ((2 : Int32) + v18)))])) _
      refine XS.iconst X59.here hx rfl (hb hby at_161) ?_
      exact k
  have pre65 : ∀ t, Steps p.tables e below (T59.setTop (mkF m 162 #[.val (.int xa), .val (.int xb), .val (.int xc), .val (.int xd), .val (.ref b2), .val (.ref b5), .val (.int (1 : Int32)), .val (.int v18), .val (.int v20), .val (.ref b23), .val (.int v31), .val (.ref b33), .val (.int (1 : Int32)), .val (.ref rx45), .val (.int (1 : Int32)), .unset, .unset, .unset] [(.int (bz (v18 = (0 : Int32)))), (.int (F3 (2 : Int32) ((2 : Int32) + v18)))])) t → Steps p.tables e below (s₁.setTop (entryFrame m #[(.int xa), (.int xb), (.int xc), (.int xd)] maxLocals)) t := fun t k => pre64 t (by
    exact tl63 t k)
  have hb66 : (F3 (2 : Int32) ((2 : Int32) + v18)) = (bz (v18 = (0 : Int32))) := own_D hL
  have pre67 : ∀ t, Steps p.tables e below (T59.setTop (mkF m 174 #[.val (.int xa), .val (.int xb), .val (.int xc), .val (.int xd), .val (.ref b2), .val (.ref b5), .val (.int (1 : Int32)), .val (.int v18), .val (.int v20), .val (.ref b23), .val (.int v31), .val (.ref b33), .val (.int (1 : Int32)), .val (.ref rx45), .val (.int (1 : Int32)), .val (.int (1 : Int32)), .unset, .unset] [(.ref b33)])) t → Steps p.tables e below (s₁.setTop (entryFrame m #[(.int xa), (.int xb), (.int xc), (.int xd)] maxLocals)) t := fun t k => pre65 t (by
    show Steps p.tables e below (T59.setTop (mkF m 162 #[.val (.int xa), .val (.int xb), .val (.int xc), .val (.int xd), .val (.ref b2), .val (.ref b5), .val (.int (1 : Int32)), .val (.int v18), .val (.int v20), .val (.ref b23), .val (.int v31), .val (.ref b33), .val (.int (1 : Int32)), .val (.ref rx45), .val (.int (1 : Int32)), .unset, .unset, .unset] [(.int (bz (v18 = (0 : Int32)))), (.int (F3 (2 : Int32) ((2 : Int32) + v18)))])) _
    refine XS.icmpNo X59.here hx rfl (hb hby at_162) rfl (teq hb66).2 ?_
    refine XS.iconst X59.here hx rfl (hb hby at_165) ?_
    refine XS.goto X59.here hx rfl (pc0 := 166) (pc' := 170) rfl (hb hby at_166) (by decide) (by decide) ?_
    refine XS.istore X59.here hx rfl (hb hby at_170) rfl (l' := #[.val (.int xa), .val (.int xb), .val (.int xc), .val (.int xd), .val (.ref b2), .val (.ref b5), .val (.int (1 : Int32)), .val (.int v18), .val (.int v20), .val (.ref b23), .val (.int v31), .val (.ref b33), .val (.int (1 : Int32)), .val (.ref rx45), .val (.int (1 : Int32)), .val (.int (1 : Int32)), .unset, .unset]) rfl ?_
    refine XS.aload X59.here hx rfl (hb hby at_172) rfl rfl ?_
    exact k)
  have R69 : Rep Z n43 T59.heap ((b23, Ar .byte [(.int (4 : Int32)), (.int v18), (.int (0 : Int32)), (.int (0 : Int32)), (.int (0 : Int32)), (.int (0 : Int32))]) :: (cx45, Obj "com/example/sidetrack/sidetrack/codec/BerReader" [("bytes", "[B", (.ref b23)), ("position", "I", (.int (2 : Int32))), ("end", "I", (.int ((2 : Int32) + v18)))]) :: (rx45, Obj "com/example/sidetrack/sidetrack/codec/BerReader$Element" [("tag", "I", (.int (4 : Int32))), ("offset", "I", (.int (0 : Int32))), ("contents", "Lcom/example/sidetrack/sidetrack/codec/BerReader;", (.ref cx45))]) :: (b33, Obj "com/example/sidetrack/sidetrack/codec/BerReader" [("bytes", "[B", (.ref b23)), ("position", "I", (.int ((2 : Int32) + v18))), ("end", "I", (.int v31))]) :: (b5, Obj "com/example/sidetrack/sidetrack/codec/BerReader" [("bytes", "[B", (.ref b2)), ("position", "I", (.int xa)), ("end", "I", (.int xb))]) :: (b2, Ar .byte [(.int (0 : Int32)), (.int (0 : Int32)), (.int (0 : Int32)), (.int (0 : Int32)), (.int (0 : Int32)), (.int (0 : Int32))]) :: []) := R59.front 3 rfl rfl
  have R70 : Rep Z n43 T59.heap ((b33, Obj "com/example/sidetrack/sidetrack/codec/BerReader" [("bytes", "[B", (.ref b23)), ("position", "I", (.int ((2 : Int32) + v18))), ("end", "I", (.int v31))]) :: (b23, Ar .byte [(.int (4 : Int32)), (.int v18), (.int (0 : Int32)), (.int (0 : Int32)), (.int (0 : Int32)), (.int (0 : Int32))]) :: (cx45, Obj "com/example/sidetrack/sidetrack/codec/BerReader" [("bytes", "[B", (.ref b23)), ("position", "I", (.int (2 : Int32))), ("end", "I", (.int ((2 : Int32) + v18)))]) :: (rx45, Obj "com/example/sidetrack/sidetrack/codec/BerReader$Element" [("tag", "I", (.int (4 : Int32))), ("offset", "I", (.int (0 : Int32))), ("contents", "Lcom/example/sidetrack/sidetrack/codec/BerReader;", (.ref cx45))]) :: (b5, Obj "com/example/sidetrack/sidetrack/codec/BerReader" [("bytes", "[B", (.ref b2)), ("position", "I", (.int xa)), ("end", "I", (.int xb))]) :: (b2, Ar .byte [(.int (0 : Int32)), (.int (0 : Int32)), (.int (0 : Int32)), (.int (0 : Int32)), (.int (0 : Int32)), (.int (0 : Int32))]) :: []) := R69.front 3 rfl rfl
  obtain ⟨cq68, kq68, q68a, q68b, q68c⟩ := isOf hZ rfl (R70.exa (i := 0) rfl)
  obtain ⟨_, _, ⟨T68, L68, k68, n68⟩, -, X68, ⟨Lc68, hQ68, l68, y68, z68⟩, st68⟩ := X59.virtualBack hx (y := (⟨"com/example/sidetrack/sidetrack/codec/BerReader", "rest", "()[B"⟩ : MethodName)) (z := (⟨"com/example/sidetrack/sidetrack/codec/BerReader", "rest", "()[B"⟩ : MethodName)) hown (mvT hZ (hw _ (List.mem_of_getElem? (i := 68) rfl))) (mvT hZ (hw _ (List.mem_of_getElem? (i := 69) rfl))) (notFace_of_selects (args := #[]) (mvT hZ (hw _ (List.mem_of_getElem? (i := 71) rfl)))) (mvT hZ (hw _ (List.mem_of_getElem? (i := 71) rfl))) (mvT hZ (hw _ (List.mem_of_getElem? (i := 70) rfl))) (by decide) (backOf (W := 0) (rm10 l Z a0 hw [] b33 _ _ _ _ _ T59.heap n43 _ R70 (hL) (hX) (rfl) (hv31)) hZ (hw _ (List.mem_of_getElem? (i := 72) rfl)) (hw _ (List.mem_of_getElem? (i := 3) rfl)) (by decide) (by decide)) q68a q68c (g := (mkF m 174 #[.val (.int xa), .val (.int xb), .val (.int xc), .val (.int xd), .val (.ref b2), .val (.ref b5), .val (.int (1 : Int32)), .val (.int v18), .val (.int v20), .val (.ref b23), .val (.int v31), .val (.ref b33), .val (.int (1 : Int32)), .val (.ref rx45), .val (.int (1 : Int32)), .val (.int (1 : Int32)), .unset, .unset] [(.ref b33)])) rfl (by rw [hml]; rfl) (Steps.refl _) (argsL := []) (rest := []) (lenOf pd__28_29_5bB rfl) rfl (by show 2 * 0 + _ ≤ _; exact Nat.le_of_eq rfl) (hb hby at_174) (fun _ _ => ⟨rfl, rfl, (by decide : 8 + 1 ≤ _), (by decide : 32 + 1 ≤ _)⟩)
  dsimp only [Pt.U, Pt.locs, Pt.cells, Pt.slots] at X68 l68 y68 z68 st68 hQ68
  subst y68 z68
  obtain ⟨rx68, rfl, N68q, R68⟩ := hQ68
  have N68 : Fr n43.1 L68 := by rw [l68]; exact Fr.app N59 N68q
  replace R68 : Rep Z n43 T68.heap ((rx68, Ar .byte (zb v20)) :: (b33, Obj "com/example/sidetrack/sidetrack/codec/BerReader" [("bytes", "[B", (.ref b23)), ("position", "I", (.int v31)), ("end", "I", (.int v31))]) :: (b23, Ar .byte [(.int (4 : Int32)), (.int v18), (.int (0 : Int32)), (.int (0 : Int32)), (.int (0 : Int32)), (.int (0 : Int32))]) :: (cx45, Obj "com/example/sidetrack/sidetrack/codec/BerReader" [("bytes", "[B", (.ref b23)), ("position", "I", (.int (2 : Int32))), ("end", "I", (.int ((2 : Int32) + v18)))]) :: (rx45, Obj "com/example/sidetrack/sidetrack/codec/BerReader$Element" [("tag", "I", (.int (4 : Int32))), ("offset", "I", (.int (0 : Int32))), ("contents", "Lcom/example/sidetrack/sidetrack/codec/BerReader;", (.ref cx45))]) :: (b5, Obj "com/example/sidetrack/sidetrack/codec/BerReader" [("bytes", "[B", (.ref b2)), ("position", "I", (.int xa)), ("end", "I", (.int xb))]) :: (b2, Ar .byte [(.int (0 : Int32)), (.int (0 : Int32)), (.int (0 : Int32)), (.int (0 : Int32)), (.int (0 : Int32)), (.int (0 : Int32))]) :: []) := R68
  have pre71 : ∀ t, Steps p.tables e below (T68.setTop (mkF m 177 #[.val (.int xa), .val (.int xb), .val (.int xc), .val (.int xd), .val (.ref b2), .val (.ref b5), .val (.int (1 : Int32)), .val (.int v18), .val (.int v20), .val (.ref b23), .val (.int v31), .val (.ref b33), .val (.int (1 : Int32)), .val (.ref rx45), .val (.int (1 : Int32)), .val (.int (1 : Int32)), .unset, .unset] [(.ref rx68)])) t → Steps p.tables e below (s₁.setTop (entryFrame m #[(.int xa), (.int xb), (.int xc), (.int xd)] maxLocals)) t := fun t k => pre67 t (st68.trans k)
  have pre72 : ∀ t, Steps p.tables e below (T68.setTop (mkF m 181 #[.val (.int xa), .val (.int xb), .val (.int xc), .val (.int xd), .val (.ref b2), .val (.ref b5), .val (.int (1 : Int32)), .val (.int v18), .val (.int v20), .val (.ref b23), .val (.int v31), .val (.ref b33), .val (.int (1 : Int32)), .val (.ref rx45), .val (.int (1 : Int32)), .val (.int (1 : Int32)), .val (.ref rx68), .unset] [(.ref b33)])) t → Steps p.tables e below (s₁.setTop (entryFrame m #[(.int xa), (.int xb), (.int xc), (.int xd)] maxLocals)) t := fun t k => pre71 t (by
    show Steps p.tables e below (T68.setTop (mkF m 177 #[.val (.int xa), .val (.int xb), .val (.int xc), .val (.int xd), .val (.ref b2), .val (.ref b5), .val (.int (1 : Int32)), .val (.int v18), .val (.int v20), .val (.ref b23), .val (.int v31), .val (.ref b33), .val (.int (1 : Int32)), .val (.ref rx45), .val (.int (1 : Int32)), .val (.int (1 : Int32)), .unset, .unset] [(.ref rx68)])) _
    refine XS.astore X68.here hx rfl (hb hby at_177) rfl rfl (l' := #[.val (.int xa), .val (.int xb), .val (.int xc), .val (.int xd), .val (.ref b2), .val (.ref b5), .val (.int (1 : Int32)), .val (.int v18), .val (.int v20), .val (.ref b23), .val (.int v31), .val (.ref b33), .val (.int (1 : Int32)), .val (.ref rx45), .val (.int (1 : Int32)), .val (.int (1 : Int32)), .val (.ref rx68), .unset]) rfl ?_
    refine XS.aload X68.here hx rfl (hb hby at_179) rfl rfl ?_
    exact k)
  have R74 : Rep Z n43 T68.heap ((b33, Obj "com/example/sidetrack/sidetrack/codec/BerReader" [("bytes", "[B", (.ref b23)), ("position", "I", (.int v31)), ("end", "I", (.int v31))]) :: (rx68, Ar .byte (zb v20)) :: (b23, Ar .byte [(.int (4 : Int32)), (.int v18), (.int (0 : Int32)), (.int (0 : Int32)), (.int (0 : Int32)), (.int (0 : Int32))]) :: (cx45, Obj "com/example/sidetrack/sidetrack/codec/BerReader" [("bytes", "[B", (.ref b23)), ("position", "I", (.int (2 : Int32))), ("end", "I", (.int ((2 : Int32) + v18)))]) :: (rx45, Obj "com/example/sidetrack/sidetrack/codec/BerReader$Element" [("tag", "I", (.int (4 : Int32))), ("offset", "I", (.int (0 : Int32))), ("contents", "Lcom/example/sidetrack/sidetrack/codec/BerReader;", (.ref cx45))]) :: (b5, Obj "com/example/sidetrack/sidetrack/codec/BerReader" [("bytes", "[B", (.ref b2)), ("position", "I", (.int xa)), ("end", "I", (.int xb))]) :: (b2, Ar .byte [(.int (0 : Int32)), (.int (0 : Int32)), (.int (0 : Int32)), (.int (0 : Int32)), (.int (0 : Int32)), (.int (0 : Int32))]) :: []) := R68.front 1 rfl rfl
  obtain ⟨cq73, kq73, q73a, q73b, q73c⟩ := isOf hZ rfl (R74.exa (i := 0) rfl)
  obtain ⟨_, _, ⟨T73, L73, k73, n73⟩, -, X73, ⟨Lc73, hQ73, l73, y73, z73⟩, st73⟩ := X68.virtualBack hx (y := (⟨"com/example/sidetrack/sidetrack/codec/BerReader", "atEnd", "()Z"⟩ : MethodName)) (z := (⟨"com/example/sidetrack/sidetrack/codec/BerReader", "atEnd", "()Z"⟩ : MethodName)) hown (mvT hZ (hw _ (List.mem_of_getElem? (i := 16) rfl))) (mvT hZ (hw _ (List.mem_of_getElem? (i := 17) rfl))) (notFace_of_selects (args := #[]) (mvT hZ (hw _ (List.mem_of_getElem? (i := 19) rfl)))) (mvT hZ (hw _ (List.mem_of_getElem? (i := 19) rfl))) (mvT hZ (hw _ (List.mem_of_getElem? (i := 18) rfl))) (by decide) (backOf (W := 0) (rm3 l Z a0 hw [] b33 _ _ _ T68.heap n43 _ R74 ) hZ (hw _ (List.mem_of_getElem? (i := 20) rfl)) (hw _ (List.mem_of_getElem? (i := 3) rfl)) (by decide) (by decide)) q73a q73c (g := (mkF m 181 #[.val (.int xa), .val (.int xb), .val (.int xc), .val (.int xd), .val (.ref b2), .val (.ref b5), .val (.int (1 : Int32)), .val (.int v18), .val (.int v20), .val (.ref b23), .val (.int v31), .val (.ref b33), .val (.int (1 : Int32)), .val (.ref rx45), .val (.int (1 : Int32)), .val (.int (1 : Int32)), .val (.ref rx68), .unset] [(.ref b33)])) rfl (by rw [hml]; rfl) (Steps.refl _) (argsL := []) (rest := []) (lenOf pd__28_29Z rfl) rfl (by show 2 * 0 + _ ≤ _; exact Nat.le_of_eq rfl) (hb hby at_181) (fun _ _ => ⟨rfl, rfl, (by decide : 9 + 0 ≤ _), (by decide : 33 + 0 ≤ _)⟩)
  dsimp only [Pt.U, Pt.locs, Pt.cells, Pt.slots] at X73 l73 y73 z73 st73 hQ73
  subst y73 z73
  obtain ⟨rfl, N73q, R73⟩ := hQ73
  have N73 : Fr n43.1 L73 := by rw [l73]; exact Fr.app N68 N73q
  replace R73 : Rep Z n43 T73.heap ((b33, Obj "com/example/sidetrack/sidetrack/codec/BerReader" [("bytes", "[B", (.ref b23)), ("position", "I", (.int v31)), ("end", "I", (.int v31))]) :: (rx68, Ar .byte (zb v20)) :: (b23, Ar .byte [(.int (4 : Int32)), (.int v18), (.int (0 : Int32)), (.int (0 : Int32)), (.int (0 : Int32)), (.int (0 : Int32))]) :: (cx45, Obj "com/example/sidetrack/sidetrack/codec/BerReader" [("bytes", "[B", (.ref b23)), ("position", "I", (.int (2 : Int32))), ("end", "I", (.int ((2 : Int32) + v18)))]) :: (rx45, Obj "com/example/sidetrack/sidetrack/codec/BerReader$Element" [("tag", "I", (.int (4 : Int32))), ("offset", "I", (.int (0 : Int32))), ("contents", "Lcom/example/sidetrack/sidetrack/codec/BerReader;", (.ref cx45))]) :: (b5, Obj "com/example/sidetrack/sidetrack/codec/BerReader" [("bytes", "[B", (.ref b2)), ("position", "I", (.int xa)), ("end", "I", (.int xb))]) :: (b2, Ar .byte [(.int (0 : Int32)), (.int (0 : Int32)), (.int (0 : Int32)), (.int (0 : Int32)), (.int (0 : Int32)), (.int (0 : Int32))]) :: []) := R73
  have pre75 : ∀ t, Steps p.tables e below (T73.setTop (mkF m 184 #[.val (.int xa), .val (.int xb), .val (.int xc), .val (.int xd), .val (.ref b2), .val (.ref b5), .val (.int (1 : Int32)), .val (.int v18), .val (.int v20), .val (.ref b23), .val (.int v31), .val (.ref b33), .val (.int (1 : Int32)), .val (.ref rx45), .val (.int (1 : Int32)), .val (.int (1 : Int32)), .val (.ref rx68), .unset] [(.int (F3 v31 v31))])) t → Steps p.tables e below (s₁.setTop (entryFrame m #[(.int xa), (.int xb), (.int xc), (.int xd)] maxLocals)) t := fun t k => pre72 t (st73.trans k)
  have hb76 : ¬ ((F3 v31 v31) = (0 : Int32)) := own_E hL hX hv31
  have pre78 : ∀ t, Steps p.tables e below (T73.setTop (mkF m 192 #[.val (.int xa), .val (.int xb), .val (.int xc), .val (.int xd), .val (.ref b2), .val (.ref b5), .val (.int (1 : Int32)), .val (.int v18), .val (.int v20), .val (.ref b23), .val (.int v31), .val (.ref b33), .val (.int (1 : Int32)), .val (.ref rx45), .val (.int (1 : Int32)), .val (.int (1 : Int32)), .val (.ref rx68), .unset] [(.int v20), (.int (Int32.ofNat ((zb v20)).length))])) t → Steps p.tables e below (s₁.setTop (entryFrame m #[(.int xa), (.int xb), (.int xc), (.int xd)] maxLocals)) t := fun t k => pre75 t (by
    show Steps p.tables e below (T73.setTop (mkF m 184 #[.val (.int xa), .val (.int xb), .val (.int xc), .val (.int xd), .val (.ref b2), .val (.ref b5), .val (.int (1 : Int32)), .val (.int v18), .val (.int v20), .val (.ref b23), .val (.int v31), .val (.ref b33), .val (.int (1 : Int32)), .val (.ref rx45), .val (.int (1 : Int32)), .val (.int (1 : Int32)), .val (.ref rx68), .unset] [(.int (F3 v31 v31))])) _
    refine XS.ifNo X73.here hx rfl (hb hby at_184) rfl ((if0 _ _).trans (feq hb76).1) ?_
    refine XS.aload X73.here hx rfl (hb hby at_187) rfl rfl ?_
    refine gLen X73 hx hZ rfl R73 1 rfl (g := (mkF m 189 #[.val (.int xa), .val (.int xb), .val (.int xc), .val (.int xd), .val (.ref b2), .val (.ref b5), .val (.int (1 : Int32)), .val (.int v18), .val (.int v20), .val (.ref b23), .val (.int v31), .val (.ref b33), .val (.int (1 : Int32)), .val (.ref rx45), .val (.int (1 : Int32)), .val (.int (1 : Int32)), .val (.ref rx68), .unset] [(.ref rx68)])) rfl rfl (hb hby at_189) (z := (Int32.ofNat ((zb v20)).length)) (rfl) _ ?_
    refine XS.iload X73.here hx rfl (hb hby at_190) rfl ?_
    exact k)
  have hb77 : (Int32.ofNat ((zb v20)).length) = v20 := own_G hX
  have pre80 : ∀ t, Steps p.tables e below (T73.setTop (mkF m 204 #[.val (.int xa), .val (.int xb), .val (.int xc), .val (.int xd), .val (.ref b2), .val (.ref b5), .val (.int (1 : Int32)), .val (.int v18), .val (.int v20), .val (.ref b23), .val (.int v31), .val (.ref b33), .val (.int (1 : Int32)), .val (.ref rx45), .val (.int (1 : Int32)), .val (.int (1 : Int32)), .val (.ref rx68), .val (.int (1 : Int32))] [(.int (1 : Int32))])) t → Steps p.tables e below (s₁.setTop (entryFrame m #[(.int xa), (.int xb), (.int xc), (.int xd)] maxLocals)) t := fun t k => pre78 t (by
    show Steps p.tables e below (T73.setTop (mkF m 192 #[.val (.int xa), .val (.int xb), .val (.int xc), .val (.int xd), .val (.ref b2), .val (.ref b5), .val (.int (1 : Int32)), .val (.int v18), .val (.int v20), .val (.ref b23), .val (.int v31), .val (.ref b33), .val (.int (1 : Int32)), .val (.ref rx45), .val (.int (1 : Int32)), .val (.int (1 : Int32)), .val (.ref rx68), .unset] [(.int v20), (.int (Int32.ofNat ((zb v20)).length))])) _
    refine XS.icmpNo X73.here hx rfl (hb hby at_192) rfl (teq hb77).2 ?_
    refine XS.iconst X73.here hx rfl (hb hby at_195) ?_
    refine XS.goto X73.here hx rfl (pc0 := 196) (pc' := 200) rfl (hb hby at_196) (by decide) (by decide) ?_
    refine XS.istore X73.here hx rfl (hb hby at_200) rfl (l' := #[.val (.int xa), .val (.int xb), .val (.int xc), .val (.int xd), .val (.ref b2), .val (.ref b5), .val (.int (1 : Int32)), .val (.int v18), .val (.int v20), .val (.ref b23), .val (.int v31), .val (.ref b33), .val (.int (1 : Int32)), .val (.ref rx45), .val (.int (1 : Int32)), .val (.int (1 : Int32)), .val (.ref rx68), .val (.int (1 : Int32))]) rfl ?_
    refine XS.iload X73.here hx rfl (hb hby at_202) rfl ?_
    exact k)
  have hb79 : ¬ ((1 : Int32) = (0 : Int32)) := (by decide)
  have pre82 : ∀ t, Steps p.tables e below (T73.setTop (mkF m 209 #[.val (.int xa), .val (.int xb), .val (.int xc), .val (.int xd), .val (.ref b2), .val (.ref b5), .val (.int (1 : Int32)), .val (.int v18), .val (.int v20), .val (.ref b23), .val (.int v31), .val (.ref b33), .val (.int (1 : Int32)), .val (.ref rx45), .val (.int (1 : Int32)), .val (.int (1 : Int32)), .val (.ref rx68), .val (.int (1 : Int32))] [(.int (1 : Int32))])) t → Steps p.tables e below (s₁.setTop (entryFrame m #[(.int xa), (.int xb), (.int xc), (.int xd)] maxLocals)) t := fun t k => pre80 t (by
    show Steps p.tables e below (T73.setTop (mkF m 204 #[.val (.int xa), .val (.int xb), .val (.int xc), .val (.int xd), .val (.ref b2), .val (.ref b5), .val (.int (1 : Int32)), .val (.int v18), .val (.int v20), .val (.ref b23), .val (.int v31), .val (.ref b33), .val (.int (1 : Int32)), .val (.ref rx45), .val (.int (1 : Int32)), .val (.int (1 : Int32)), .val (.ref rx68), .val (.int (1 : Int32))] [(.int (1 : Int32))])) _
    refine XS.ifNo X73.here hx rfl (hb hby at_204) rfl ((if0 _ _).trans (feq hb79).1) ?_
    refine XS.iload X73.here hx rfl (hb hby at_207) rfl ?_
    exact k)
  have hb81 : ¬ ((1 : Int32) = (0 : Int32)) := (by decide)
  have pre84 : ∀ t, Steps p.tables e below (T73.setTop (mkF m 214 #[.val (.int xa), .val (.int xb), .val (.int xc), .val (.int xd), .val (.ref b2), .val (.ref b5), .val (.int (1 : Int32)), .val (.int v18), .val (.int v20), .val (.ref b23), .val (.int v31), .val (.ref b33), .val (.int (1 : Int32)), .val (.ref rx45), .val (.int (1 : Int32)), .val (.int (1 : Int32)), .val (.ref rx68), .val (.int (1 : Int32))] [(.int (1 : Int32))])) t → Steps p.tables e below (s₁.setTop (entryFrame m #[(.int xa), (.int xb), (.int xc), (.int xd)] maxLocals)) t := fun t k => pre82 t (by
    show Steps p.tables e below (T73.setTop (mkF m 209 #[.val (.int xa), .val (.int xb), .val (.int xc), .val (.int xd), .val (.ref b2), .val (.ref b5), .val (.int (1 : Int32)), .val (.int v18), .val (.int v20), .val (.ref b23), .val (.int v31), .val (.ref b33), .val (.int (1 : Int32)), .val (.ref rx45), .val (.int (1 : Int32)), .val (.int (1 : Int32)), .val (.ref rx68), .val (.int (1 : Int32))] [(.int (1 : Int32))])) _
    refine XS.ifNo X73.here hx rfl (hb hby at_209) rfl ((if0 _ _).trans (feq hb81).1) ?_
    refine XS.iload X73.here hx rfl (hb hby at_212) rfl ?_
    exact k)
  have hb83 : ¬ ((1 : Int32) = (0 : Int32)) := (by decide)
  have pre86 : ∀ t, Steps p.tables e below (T73.setTop (mkF m 219 #[.val (.int xa), .val (.int xb), .val (.int xc), .val (.int xd), .val (.ref b2), .val (.ref b5), .val (.int (1 : Int32)), .val (.int v18), .val (.int v20), .val (.ref b23), .val (.int v31), .val (.ref b33), .val (.int (1 : Int32)), .val (.ref rx45), .val (.int (1 : Int32)), .val (.int (1 : Int32)), .val (.ref rx68), .val (.int (1 : Int32))] [(.int (1 : Int32))])) t → Steps p.tables e below (s₁.setTop (entryFrame m #[(.int xa), (.int xb), (.int xc), (.int xd)] maxLocals)) t := fun t k => pre84 t (by
    show Steps p.tables e below (T73.setTop (mkF m 214 #[.val (.int xa), .val (.int xb), .val (.int xc), .val (.int xd), .val (.ref b2), .val (.ref b5), .val (.int (1 : Int32)), .val (.int v18), .val (.int v20), .val (.ref b23), .val (.int v31), .val (.ref b33), .val (.int (1 : Int32)), .val (.ref rx45), .val (.int (1 : Int32)), .val (.int (1 : Int32)), .val (.ref rx68), .val (.int (1 : Int32))] [(.int (1 : Int32))])) _
    refine XS.ifNo X73.here hx rfl (hb hby at_214) rfl ((if0 _ _).trans (feq hb83).1) ?_
    refine XS.iload X73.here hx rfl (hb hby at_217) rfl ?_
    exact k)
  have hb85 : ¬ ((1 : Int32) = (0 : Int32)) := (by decide)
  have pre88 : ∀ t, Steps p.tables e below (T73.setTop (mkF m 224 #[.val (.int xa), .val (.int xb), .val (.int xc), .val (.int xd), .val (.ref b2), .val (.ref b5), .val (.int (1 : Int32)), .val (.int v18), .val (.int v20), .val (.ref b23), .val (.int v31), .val (.ref b33), .val (.int (1 : Int32)), .val (.ref rx45), .val (.int (1 : Int32)), .val (.int (1 : Int32)), .val (.ref rx68), .val (.int (1 : Int32))] [(.int (1 : Int32))])) t → Steps p.tables e below (s₁.setTop (entryFrame m #[(.int xa), (.int xb), (.int xc), (.int xd)] maxLocals)) t := fun t k => pre86 t (by
    show Steps p.tables e below (T73.setTop (mkF m 219 #[.val (.int xa), .val (.int xb), .val (.int xc), .val (.int xd), .val (.ref b2), .val (.ref b5), .val (.int (1 : Int32)), .val (.int v18), .val (.int v20), .val (.ref b23), .val (.int v31), .val (.ref b33), .val (.int (1 : Int32)), .val (.ref rx45), .val (.int (1 : Int32)), .val (.int (1 : Int32)), .val (.ref rx68), .val (.int (1 : Int32))] [(.int (1 : Int32))])) _
    refine XS.ifNo X73.here hx rfl (hb hby at_219) rfl ((if0 _ _).trans (feq hb85).1) ?_
    refine XS.iload X73.here hx rfl (hb hby at_222) rfl ?_
    exact k)
  have hb87 : ¬ ((1 : Int32) = (0 : Int32)) := (by decide)
  have pre89 : ∀ t, Steps p.tables e below (T73.setTop (mkF m 232 #[.val (.int xa), .val (.int xb), .val (.int xc), .val (.int xd), .val (.ref b2), .val (.ref b5), .val (.int (1 : Int32)), .val (.int v18), .val (.int v20), .val (.ref b23), .val (.int v31), .val (.ref b33), .val (.int (1 : Int32)), .val (.ref rx45), .val (.int (1 : Int32)), .val (.int (1 : Int32)), .val (.ref rx68), .val (.int (1 : Int32))] [(.int (1 : Int32))])) t → Steps p.tables e below (s₁.setTop (entryFrame m #[(.int xa), (.int xb), (.int xc), (.int xd)] maxLocals)) t := fun t k => pre88 t (by
    show Steps p.tables e below (T73.setTop (mkF m 224 #[.val (.int xa), .val (.int xb), .val (.int xc), .val (.int xd), .val (.ref b2), .val (.ref b5), .val (.int (1 : Int32)), .val (.int v18), .val (.int v20), .val (.ref b23), .val (.int v31), .val (.ref b33), .val (.int (1 : Int32)), .val (.ref rx45), .val (.int (1 : Int32)), .val (.int (1 : Int32)), .val (.ref rx68), .val (.int (1 : Int32))] [(.int (1 : Int32))])) _
    refine XS.ifNo X73.here hx rfl (hb hby at_224) rfl ((if0 _ _).trans (feq hb87).1) ?_
    refine XS.iconst X73.here hx rfl (hb hby at_227) ?_
    refine XS.goto X73.here hx rfl (pc0 := 228) (pc' := 232) rfl (hb hby at_228) (by decide) (by decide) ?_
    exact k)
  obtain ⟨fs, hr, hrun, hended, hE⟩ := X73.leaveW (s := s) (vm₁ := T43.vm) hS43 (Nat.le_trans hk43 (by first | exact R73.1.2 | (rw [rfl]; exact R73.1.2))) (v := some (.int (nar .boolean (1 : Int32)))) (fun h => by rw [Bd.returns] at h; cases h)
  refine ⟨_, _, pre89 _ ?_, hrun, hended, _, _, rfl, ?_, hE.1, hE.2.1, hE.2.2.1, hE.2.2.2.mono (by decide) (by decide)⟩
  · show Steps p.tables e below (T73.setTop (mkF m 232 #[.val (.int xa), .val (.int xb), .val (.int xc), .val (.int xd), .val (.ref b2), .val (.ref b5), .val (.int (1 : Int32)), .val (.int v18), .val (.int v20), .val (.ref b23), .val (.int v31), .val (.ref b33), .val (.int (1 : Int32)), .val (.ref rx45), .val (.int (1 : Int32)), .val (.int (1 : Int32)), .val (.ref rx68), .val (.int (1 : Int32))] [(.int (1 : Int32))])) _
    exact retN X73 hx (t := .boolean) Bd.returns (by simp) (hb hby at_232) hr
  · show Q0 Z xa xb xc xd n0 [] _ T73.heap _
    have R90 : Rep Z n43 T73.heap ((rx68, Ar .byte (zb v20)) :: (b23, Ar .byte [(.int (4 : Int32)), (.int v18), (.int (0 : Int32)), (.int (0 : Int32)), (.int (0 : Int32)), (.int (0 : Int32))]) :: (cx45, Obj "com/example/sidetrack/sidetrack/codec/BerReader" [("bytes", "[B", (.ref b23)), ("position", "I", (.int (2 : Int32))), ("end", "I", (.int ((2 : Int32) + v18)))]) :: (rx45, Obj "com/example/sidetrack/sidetrack/codec/BerReader$Element" [("tag", "I", (.int (4 : Int32))), ("offset", "I", (.int (0 : Int32))), ("contents", "Lcom/example/sidetrack/sidetrack/codec/BerReader;", (.ref cx45))]) :: (b5, Obj "com/example/sidetrack/sidetrack/codec/BerReader" [("bytes", "[B", (.ref b2)), ("position", "I", (.int xa)), ("end", "I", (.int xb))]) :: (b2, Ar .byte [(.int (0 : Int32)), (.int (0 : Int32)), (.int (0 : Int32)), (.int (0 : Int32)), (.int (0 : Int32)), (.int (0 : Int32))]) :: []) := (R73.front 0 rfl rfl : Rep Z n43 T73.heap ((b33, Obj "com/example/sidetrack/sidetrack/codec/BerReader" [("bytes", "[B", (.ref b23)), ("position", "I", (.int v31)), ("end", "I", (.int v31))]) :: (rx68, Ar .byte (zb v20)) :: (b23, Ar .byte [(.int (4 : Int32)), (.int v18), (.int (0 : Int32)), (.int (0 : Int32)), (.int (0 : Int32)), (.int (0 : Int32))]) :: (cx45, Obj "com/example/sidetrack/sidetrack/codec/BerReader" [("bytes", "[B", (.ref b23)), ("position", "I", (.int (2 : Int32))), ("end", "I", (.int ((2 : Int32) + v18)))]) :: (rx45, Obj "com/example/sidetrack/sidetrack/codec/BerReader$Element" [("tag", "I", (.int (4 : Int32))), ("offset", "I", (.int (0 : Int32))), ("contents", "Lcom/example/sidetrack/sidetrack/codec/BerReader;", (.ref cx45))]) :: (b5, Obj "com/example/sidetrack/sidetrack/codec/BerReader" [("bytes", "[B", (.ref b2)), ("position", "I", (.int xa)), ("end", "I", (.int xb))]) :: (b2, Ar .byte [(.int (0 : Int32)), (.int (0 : Int32)), (.int (0 : Int32)), (.int (0 : Int32)), (.int (0 : Int32)), (.int (0 : Int32))]) :: [])).tail
    have R91 : Rep Z n43 T73.heap ((b23, Ar .byte [(.int (4 : Int32)), (.int v18), (.int (0 : Int32)), (.int (0 : Int32)), (.int (0 : Int32)), (.int (0 : Int32))]) :: (cx45, Obj "com/example/sidetrack/sidetrack/codec/BerReader" [("bytes", "[B", (.ref b23)), ("position", "I", (.int (2 : Int32))), ("end", "I", (.int ((2 : Int32) + v18)))]) :: (rx45, Obj "com/example/sidetrack/sidetrack/codec/BerReader$Element" [("tag", "I", (.int (4 : Int32))), ("offset", "I", (.int (0 : Int32))), ("contents", "Lcom/example/sidetrack/sidetrack/codec/BerReader;", (.ref cx45))]) :: (b5, Obj "com/example/sidetrack/sidetrack/codec/BerReader" [("bytes", "[B", (.ref b2)), ("position", "I", (.int xa)), ("end", "I", (.int xb))]) :: (b2, Ar .byte [(.int (0 : Int32)), (.int (0 : Int32)), (.int (0 : Int32)), (.int (0 : Int32)), (.int (0 : Int32)), (.int (0 : Int32))]) :: []) := (R90.front 0 rfl rfl : Rep Z n43 T73.heap ((rx68, Ar .byte (zb v20)) :: (b23, Ar .byte [(.int (4 : Int32)), (.int v18), (.int (0 : Int32)), (.int (0 : Int32)), (.int (0 : Int32)), (.int (0 : Int32))]) :: (cx45, Obj "com/example/sidetrack/sidetrack/codec/BerReader" [("bytes", "[B", (.ref b23)), ("position", "I", (.int (2 : Int32))), ("end", "I", (.int ((2 : Int32) + v18)))]) :: (rx45, Obj "com/example/sidetrack/sidetrack/codec/BerReader$Element" [("tag", "I", (.int (4 : Int32))), ("offset", "I", (.int (0 : Int32))), ("contents", "Lcom/example/sidetrack/sidetrack/codec/BerReader;", (.ref cx45))]) :: (b5, Obj "com/example/sidetrack/sidetrack/codec/BerReader" [("bytes", "[B", (.ref b2)), ("position", "I", (.int xa)), ("end", "I", (.int xb))]) :: (b2, Ar .byte [(.int (0 : Int32)), (.int (0 : Int32)), (.int (0 : Int32)), (.int (0 : Int32)), (.int (0 : Int32)), (.int (0 : Int32))]) :: [])).tail
    have R92 : Rep Z n43 T73.heap ((cx45, Obj "com/example/sidetrack/sidetrack/codec/BerReader" [("bytes", "[B", (.ref b23)), ("position", "I", (.int (2 : Int32))), ("end", "I", (.int ((2 : Int32) + v18)))]) :: (rx45, Obj "com/example/sidetrack/sidetrack/codec/BerReader$Element" [("tag", "I", (.int (4 : Int32))), ("offset", "I", (.int (0 : Int32))), ("contents", "Lcom/example/sidetrack/sidetrack/codec/BerReader;", (.ref cx45))]) :: (b5, Obj "com/example/sidetrack/sidetrack/codec/BerReader" [("bytes", "[B", (.ref b2)), ("position", "I", (.int xa)), ("end", "I", (.int xb))]) :: (b2, Ar .byte [(.int (0 : Int32)), (.int (0 : Int32)), (.int (0 : Int32)), (.int (0 : Int32)), (.int (0 : Int32)), (.int (0 : Int32))]) :: []) := (R91.front 0 rfl rfl : Rep Z n43 T73.heap ((b23, Ar .byte [(.int (4 : Int32)), (.int v18), (.int (0 : Int32)), (.int (0 : Int32)), (.int (0 : Int32)), (.int (0 : Int32))]) :: (cx45, Obj "com/example/sidetrack/sidetrack/codec/BerReader" [("bytes", "[B", (.ref b23)), ("position", "I", (.int (2 : Int32))), ("end", "I", (.int ((2 : Int32) + v18)))]) :: (rx45, Obj "com/example/sidetrack/sidetrack/codec/BerReader$Element" [("tag", "I", (.int (4 : Int32))), ("offset", "I", (.int (0 : Int32))), ("contents", "Lcom/example/sidetrack/sidetrack/codec/BerReader;", (.ref cx45))]) :: (b5, Obj "com/example/sidetrack/sidetrack/codec/BerReader" [("bytes", "[B", (.ref b2)), ("position", "I", (.int xa)), ("end", "I", (.int xb))]) :: (b2, Ar .byte [(.int (0 : Int32)), (.int (0 : Int32)), (.int (0 : Int32)), (.int (0 : Int32)), (.int (0 : Int32)), (.int (0 : Int32))]) :: [])).tail
    have R93 : Rep Z n43 T73.heap ((rx45, Obj "com/example/sidetrack/sidetrack/codec/BerReader$Element" [("tag", "I", (.int (4 : Int32))), ("offset", "I", (.int (0 : Int32))), ("contents", "Lcom/example/sidetrack/sidetrack/codec/BerReader;", (.ref cx45))]) :: (b5, Obj "com/example/sidetrack/sidetrack/codec/BerReader" [("bytes", "[B", (.ref b2)), ("position", "I", (.int xa)), ("end", "I", (.int xb))]) :: (b2, Ar .byte [(.int (0 : Int32)), (.int (0 : Int32)), (.int (0 : Int32)), (.int (0 : Int32)), (.int (0 : Int32)), (.int (0 : Int32))]) :: []) := (R92.front 0 rfl rfl : Rep Z n43 T73.heap ((cx45, Obj "com/example/sidetrack/sidetrack/codec/BerReader" [("bytes", "[B", (.ref b23)), ("position", "I", (.int (2 : Int32))), ("end", "I", (.int ((2 : Int32) + v18)))]) :: (rx45, Obj "com/example/sidetrack/sidetrack/codec/BerReader$Element" [("tag", "I", (.int (4 : Int32))), ("offset", "I", (.int (0 : Int32))), ("contents", "Lcom/example/sidetrack/sidetrack/codec/BerReader;", (.ref cx45))]) :: (b5, Obj "com/example/sidetrack/sidetrack/codec/BerReader" [("bytes", "[B", (.ref b2)), ("position", "I", (.int xa)), ("end", "I", (.int xb))]) :: (b2, Ar .byte [(.int (0 : Int32)), (.int (0 : Int32)), (.int (0 : Int32)), (.int (0 : Int32)), (.int (0 : Int32)), (.int (0 : Int32))]) :: [])).tail
    have R94 : Rep Z n43 T73.heap ((b5, Obj "com/example/sidetrack/sidetrack/codec/BerReader" [("bytes", "[B", (.ref b2)), ("position", "I", (.int xa)), ("end", "I", (.int xb))]) :: (b2, Ar .byte [(.int (0 : Int32)), (.int (0 : Int32)), (.int (0 : Int32)), (.int (0 : Int32)), (.int (0 : Int32)), (.int (0 : Int32))]) :: []) := (R93.front 0 rfl rfl : Rep Z n43 T73.heap ((rx45, Obj "com/example/sidetrack/sidetrack/codec/BerReader$Element" [("tag", "I", (.int (4 : Int32))), ("offset", "I", (.int (0 : Int32))), ("contents", "Lcom/example/sidetrack/sidetrack/codec/BerReader;", (.ref cx45))]) :: (b5, Obj "com/example/sidetrack/sidetrack/codec/BerReader" [("bytes", "[B", (.ref b2)), ("position", "I", (.int xa)), ("end", "I", (.int xb))]) :: (b2, Ar .byte [(.int (0 : Int32)), (.int (0 : Int32)), (.int (0 : Int32)), (.int (0 : Int32)), (.int (0 : Int32)), (.int (0 : Int32))]) :: [])).tail
    have R95 : Rep Z n43 T73.heap ((b2, Ar .byte [(.int (0 : Int32)), (.int (0 : Int32)), (.int (0 : Int32)), (.int (0 : Int32)), (.int (0 : Int32)), (.int (0 : Int32))]) :: []) := (R94.front 0 rfl rfl : Rep Z n43 T73.heap ((b5, Obj "com/example/sidetrack/sidetrack/codec/BerReader" [("bytes", "[B", (.ref b2)), ("position", "I", (.int xa)), ("end", "I", (.int xb))]) :: (b2, Ar .byte [(.int (0 : Int32)), (.int (0 : Int32)), (.int (0 : Int32)), (.int (0 : Int32)), (.int (0 : Int32)), (.int (0 : Int32))]) :: [])).tail
    have R96 : Rep Z n43 T73.heap ([]) := (R95.front 0 rfl rfl : Rep Z n43 T73.heap ((b2, Ar .byte [(.int (0 : Int32)), (.int (0 : Int32)), (.int (0 : Int32)), (.int (0 : Int32)), (.int (0 : Int32)), (.int (0 : Int32))]) :: [])).tail
    exact ⟨(by rfl), (by rw [← Qn43.1]; exact N73), (Rep.low R96 Qn43)⟩
set_option maxRecDepth 65536 in
set_option maxHeartbeats 40000000 in
theorem comes_1 {Post : Tables → Env → Array Value → State → Outcome → State → Prop} (hpost : ∀ tb e args s v u, (limb_1_1.after args s (.returned v) u = true ∧ limb_1_2.after args s (.returned v) u = true ∧ True) → ReturnedEndW s (.returned v) u (Jvm.fieldLocs frame_1_writes args s ++ Jvm.arrayLocs frame_1_arrays args s ++ Jvm.staticLocs frame_1_statics s) 24 1152 → Post tb e args s (.returned v) u) :
    ArmFor flags0 classFile x code maxLocals ret World_1 tables_1 room_1 Calls_1 rest_1 Pre_1 Post := by
  intro l hfl _ _ p e ha hc hk s m args below hf hA hF happ hP
  obtain ⟨hcalls, hrest, hpre⟩ := hP
  obtain ⟨-, -, -, hnamed, -, -, -, hat⟩ := (Spec.applies_iff hf).mp happ
  obtain ⟨hg, hn⟩ := and_e (Cond.before_iff.mp (show (Jvm.Cond.and given_1 narrow_1).before args s = true from hpre))
  obtain ⟨hct, hg⟩ := and_e hg
  obtain ⟨hg0, hg⟩ := and_e hg
  obtain ⟨hg1, hg⟩ := and_e hg
  obtain ⟨hg2, hg⟩ := and_e hg
  have hg3 := hg
  obtain ⟨w0, w1, w2, w3, rfl⟩ : ∃ w0 w1 w2 w3 : Value, args = #[w0, w1, w2, w3] := by
    have hs : args.size = 4 := by simpa [Cond.value, given_1] using hct
    obtain ⟨L⟩ := args
    match L, hs with
    | [w0, w1, w2, w3], _ => exact ⟨w0, w1, w2, w3, rfl⟩
  have hw := fun d (hd : d ∈ tables_1) => atoms_spec (ws := Jvm.Cond.code x code maxLocals ret :: tables_1) hat d (List.mem_cons_of_mem _ hd)
  obtain ⟨i0, ei0⟩ := is_v hg0
  obtain rfl : w0 = (.int i0) := Option.some.inj ei0
  obtain ⟨i1, ei1⟩ := is_v hg1
  obtain rfl : w1 = (.int i1) := Option.some.inj ei1
  obtain ⟨i2, ei2⟩ := is_v hg2
  obtain rfl : w2 = (.int i2) := Option.some.inj ei2
  obtain ⟨i3, ei3⟩ := is_v hg3
  obtain rfl : w3 = (.int i3) := Option.some.inj ei3
  obtain ⟨n, o, h1, h2, h3, _, L, rfl, ⟨rfl, N, -⟩, hq⟩ := rm0 l s _ hw tables_1 i0 i1 i2 i3 s.heap (s.heap.size, s.heap.size) (Rep.nil _) p e ha hc hk s m _ below hf ((Spec.applies_iff_loose hf).mp happ).1 ⟨rfl, State.Warmed39.refl s, rfl⟩ trivial
  refine ⟨n, _, h1, h2, h3, hpost _ _ _ _ _ _ ⟨Cond.after_iff.mpr rfl, Cond.after_iff.mpr (eq_i res_at (Term.int_eval (1)) rfl), trivial⟩ ⟨hq.1, hq.2.1, hq.2.2.1, (hq.2.2.2.sift fun y hy => Or.inr (N y hy)).mono (by decide) (by decide)⟩⟩
theorem main_1_1 : Claimed_1_1 := comes_1 fun _ _ _ _ _ _ h hF => ⟨h.1, hF⟩
theorem main_1_2 : Claimed_1_2 := comes_1 fun _ _ _ _ _ _ h hF => ⟨h.2.1, hF⟩
end Jvm.Pilot.@@N@@
namespace Jvm.Pilot.@@N@@
open Jvm Jvm.ClassFile Sem Op Lib Jvm.Free Jvm.Stand Jvm.Pilot.@@N@@.Jvm.D
/-! MADE BY PROGRAM (witnessworld.py) out of the Statement's table words and the real class files: 19 classes; the members and pool entries that the words name. The judged class is class 1, her method 1. -/
namespace start1
open Jvm.ClassFile
def u (s : String) : CpInfo := .utf8 (stringToUtf16 s)
/-- a pool by its gaps: so many unusable entries, then the entry; so many at the end -/
def gap : Nat → List CpInfo → List CpInfo
  | 0, r => r
  | n + 1, r => .unusable :: gap n r
def poolList (es : List (Nat × CpInfo)) (last : Nat) : List CpInfo := es.foldr (fun e r => gap e.1 (e.2 :: r)) (gap last [])
def pool (es : List (Nat × CpInfo)) (last : Nat) : Array CpInfo := ⟨poolList es last⟩
def fileOf (pool : Array CpInfo) (this : Nat) (attrs : Array Attribute := #[]) (ms : Array MethodInfo := #[]) (fl : Nat := 33) (sup : Nat := 0) (ifs : Array Nat := #[]) (fds : Array FieldInfo := #[]) : ClassFile where
  minorVersion := 0
  majorVersion := 65
  constantPool := pool
  accessFlags := fl
  thisClass := this
  superClass := sup
  interfaces := ifs
  fields := fds
  methods := ms
  attributes := attrs
def plain (name : String) (sup : Option ClassId) : Class where
  name := name
  kind := .ordinary
  loader := none
  accessFlags := 33
  super := sup
  interfaces := #[]
  cf := none
  fields := #[]
  methods := #[]
  instanceTypes := #[]
  staticTypes := #[]
  resolved := #[]
  callSites := []
  init := .initialized
  statics := none
  mirror := none

def pool0 : Array CpInfo := pool [(5, u "<init>"), (0, u "()V"), (1, .class_ 10), (1, u "java/lang/Object")] 113

def k0c0 : Code := { maxStack := 0, maxLocals := 1, code := object_method_1_code, exceptionTable := #[], attributes := #[] }
def k0m0 : Method := { name := "<init>", desc := "()V", sig := { parameters := [], returnType := none }, accessFlags := 1, code := some k0c0 }
/-- java/lang/Object -/
def k0 : Class := { plain "java/lang/Object" none with
  accessFlags := 33
  interfaces := #[]
  cf := some (fileOf pool0 8 #[] #[{ accessFlags := 1, nameIndex := 5, descriptorIndex := 6, attributes := #[] }] 33 0 #[] #[])
  fields := #[]
  methods := #[k0m0]
  instanceTypes := #[]
  staticTypes := #[]
  resolved := Array.replicate 124 none
  statics := none }

def pool1 : Array CpInfo := pool [(2, .class_ 4), (1, u "java/lang/Object"), (0, u "<init>"), (0, u "()V"), (0, .class_ 8), (0, u "com/example/sidetrack/sidetrack/codec/BerReader"), (0, .methodref 7 10), (0, .nameAndType 5 11), (0, u "([BII)V"), (0, .methodref 7 13), (0, .nameAndType 14 15), (0, u "atEnd"), (0, u "()Z"), (0, .string 17), (0, u "x"), (0, .methodref 7 19), (0, .nameAndType 20 21), (0, u "next"), (0, u "(Ljava/lang/String;)Lcom/example/sidetrack/sidetrack/codec/BerReader$Element;"), (0, .methodref 23 24), (0, .class_ 25), (0, .nameAndType 26 27), (0, u "com/example/sidetrack/sidetrack/codec/BerReader$Element"), (0, u "contents"), (0, u "()Lcom/example/sidetrack/sidetrack/codec/BerReader;"), (0, .methodref 7 29), (0, .nameAndType 30 31), (0, u "rest"), (0, u "()[B"), (0, .class_ 33), (0, u "com/example/sidetrack/sidetrack/codec/BerReaderAtEndPinLaw"), (2, u "law"), (0, u "(IIII)Z")] 10

def k1m0 : Method := { name := "<init>", desc := "()V", sig := { parameters := [], returnType := none }, accessFlags := 2, code := none }
def k1c1 : Code := { maxStack := 5, maxLocals := 18, code := code, exceptionTable := #[], attributes := #[] }
def k1m1 : Method := { name := "law", desc := "(IIII)Z", sig := { parameters := [.int, .int, .int, .int], returnType := some .boolean }, accessFlags := 9, code := some k1c1 }
/-- com/example/sidetrack/sidetrack/codec/BerReaderAtEndPinLaw -/
def k1 : Class := { plain "com/example/sidetrack/sidetrack/codec/BerReaderAtEndPinLaw" (some 0) with
  accessFlags := 49
  interfaces := #[]
  cf := some (fileOf pool1 32 #[] #[{ accessFlags := 2, nameIndex := 5, descriptorIndex := 6, attributes := #[] }, { accessFlags := 9, nameIndex := 36, descriptorIndex := 37, attributes := #[] }] 49 2 #[] #[])
  fields := #[]
  methods := #[k1m0, k1m1]
  instanceTypes := #[]
  staticTypes := #[]
  resolved := Array.replicate 48 none
  statics := none }

def pool2 : Array CpInfo := pool [(1, .methodref 2 3), (0, .class_ 4), (0, .nameAndType 5 6), (0, u "java/lang/Object"), (0, u "<init>"), (0, u "()V"), (0, .fieldref 8 9), (0, .class_ 10), (0, .nameAndType 11 12), (0, u "com/example/sidetrack/sidetrack/codec/BerReader"), (0, u "bytes"), (0, u "[B"), (0, .fieldref 8 14), (0, .nameAndType 15 16), (0, u "position"), (0, u "I"), (0, .fieldref 8 18), (0, .nameAndType 19 16), (0, u "end"), (0, .methodref 8 21), (0, .nameAndType 22 23), (0, u "atEnd"), (0, u "()Z"), (0, .methodref 8 25), (0, .nameAndType 26 27), (0, u "peekTag"), (0, u "()I"), (20, u "next"), (0, u "(Ljava/lang/String;)Lcom/example/sidetrack/sidetrack/codec/BerReader$Element;"), (4, .methodref 8 55), (0, .nameAndType 56 57), (0, u "readLength"), (0, u "(Ljava/lang/String;)I"), (6, .methodref 8 65), (0, .nameAndType 5 66), (0, u "([BII)V"), (0, .class_ 68), (0, u "com/example/sidetrack/sidetrack/codec/BerReader$Element"), (0, .methodref 67 70), (0, .nameAndType 5 71), (0, u "(IILcom/example/sidetrack/sidetrack/codec/BerReader;)V"), (0, .methodref 73 74), (0, .class_ 75), (0, .nameAndType 76 77), (0, u "java/util/Arrays"), (0, u "copyOfRange"), (0, u "([BII)[B"), (14, u "TAG_NUMBER_BITS"), (2, u "INDEFINITE_LENGTH"), (1, u "LONGEST_LENGTH_FORM"), (7, u "rest"), (0, u "()[B")] 7

def k2c0 : Code := { maxStack := 2, maxLocals := 4, code := prog_13_method_1_code, exceptionTable := #[], attributes := #[] }
def k2m0 : Method := { name := "<init>", desc := "([BII)V", sig := { parameters := [(.array .byte), .int, .int], returnType := none }, accessFlags := 0, code := some k2c0 }
def k2c1 : Code := { maxStack := 2, maxLocals := 1, code := prog_13_method_2_code, exceptionTable := #[], attributes := #[] }
def k2m1 : Method := { name := "atEnd", desc := "()Z", sig := { parameters := [], returnType := some .boolean }, accessFlags := 0, code := some k2c1 }
def k2c2 : Code := { maxStack := 2, maxLocals := 1, code := prog_13_method_3_code, exceptionTable := #[], attributes := #[] }
def k2m2 : Method := { name := "peekTag", desc := "()I", sig := { parameters := [], returnType := some .int }, accessFlags := 0, code := some k2c2 }
def k2c3 : Code := { maxStack := 7, maxLocals := 6, code := prog_13_method_5_code, exceptionTable := #[], attributes := #[] }
def k2m3 : Method := { name := "next", desc := "(Ljava/lang/String;)Lcom/example/sidetrack/sidetrack/codec/BerReader$Element;", sig := { parameters := [(.object "java/lang/String")], returnType := some (.object "com/example/sidetrack/sidetrack/codec/BerReader$Element") }, accessFlags := 0, code := some k2c3 }
def k2c4 : Code := { maxStack := 3, maxLocals := 2, code := prog_13_method_6_code, exceptionTable := #[], attributes := #[] }
def k2m4 : Method := { name := "rest", desc := "()[B", sig := { parameters := [], returnType := some (.array .byte) }, accessFlags := 0, code := some k2c4 }
def k2c5 : Code := { maxStack := 7, maxLocals := 7, code := prog_13_method_9_code, exceptionTable := #[], attributes := #[] }
def k2m5 : Method := { name := "readLength", desc := "(Ljava/lang/String;)I", sig := { parameters := [(.object "java/lang/String")], returnType := some .int }, accessFlags := 2, code := some k2c5 }
/-- com/example/sidetrack/sidetrack/codec/BerReader -/
def k2 : Class := { plain "com/example/sidetrack/sidetrack/codec/BerReader" (some 0) with
  accessFlags := 48
  interfaces := #[]
  cf := some (fileOf pool2 8 #[.nestMembers #[67]] #[{ accessFlags := 0, nameIndex := 5, descriptorIndex := 66, attributes := #[] }, { accessFlags := 0, nameIndex := 22, descriptorIndex := 23, attributes := #[] }, { accessFlags := 0, nameIndex := 26, descriptorIndex := 27, attributes := #[] }, { accessFlags := 0, nameIndex := 48, descriptorIndex := 49, attributes := #[] }, { accessFlags := 0, nameIndex := 105, descriptorIndex := 106, attributes := #[] }, { accessFlags := 2, nameIndex := 56, descriptorIndex := 57, attributes := #[] }] 48 2 #[] #[{ accessFlags := 26, nameIndex := 92, descriptorIndex := 16, attributes := #[] }, { accessFlags := 26, nameIndex := 95, descriptorIndex := 16, attributes := #[] }, { accessFlags := 26, nameIndex := 97, descriptorIndex := 16, attributes := #[] }, { accessFlags := 18, nameIndex := 11, descriptorIndex := 12, attributes := #[] }, { accessFlags := 18, nameIndex := 19, descriptorIndex := 16, attributes := #[] }, { accessFlags := 2, nameIndex := 15, descriptorIndex := 16, attributes := #[] }])
  fields := #[{ name := "TAG_NUMBER_BITS", type := .int, accessFlags := 26, slot := 0, constantValue := 0 }, { name := "INDEFINITE_LENGTH", type := .int, accessFlags := 26, slot := 1, constantValue := 0 }, { name := "LONGEST_LENGTH_FORM", type := .int, accessFlags := 26, slot := 2, constantValue := 0 }, { name := "bytes", type := (.array .byte), accessFlags := 18, slot := 0, constantValue := 0 }, { name := "end", type := .int, accessFlags := 18, slot := 1, constantValue := 0 }, { name := "position", type := .int, accessFlags := 2, slot := 2, constantValue := 0 }]
  methods := #[k2m0, k2m1, k2m2, k2m3, k2m4, k2m5]
  instanceTypes := #[(.array .byte), .int, .int]
  staticTypes := #[.int, .int, .int]
  resolved := Array.replicate 114 none
  statics := none }

def pool3 : Array CpInfo := pool [(1, .class_ 2), (0, u "java/io/Serializable"), (0, .class_ 4), (0, u "java/lang/Object")] 2

/-- java/io/Serializable -/
def k3 : Class := { plain "java/io/Serializable" (some 0) with
  accessFlags := 1537
  interfaces := #[]
  cf := some (fileOf pool3 1 #[] #[] 1537 3 #[] #[])
  fields := #[]
  methods := #[]
  instanceTypes := #[]
  staticTypes := #[]
  resolved := Array.replicate 7 none
  statics := none }

def pool4 : Array CpInfo := pool [(1, .class_ 2), (0, u "java/lang/Comparable"), (0, .class_ 4), (0, u "java/lang/Object")] 7

/-- java/lang/Comparable -/
def k4 : Class := { plain "java/lang/Comparable" (some 0) with
  accessFlags := 1537
  interfaces := #[]
  cf := some (fileOf pool4 1 #[] #[] 1537 3 #[] #[])
  fields := #[]
  methods := #[]
  instanceTypes := #[]
  staticTypes := #[]
  resolved := Array.replicate 12 none
  statics := none }

def pool5 : Array CpInfo := pool [(2, .class_ 4), (1, u "java/lang/CharSequence"), (42, .class_ 48), (0, u "java/lang/CharSequence$1CodePointIterator"), (10, .class_ 60), (0, u "java/lang/CharSequence$1CharIterator"), (5, .class_ 67), (0, u "java/lang/Object")] 63

/-- java/lang/CharSequence -/
def k5 : Class := { plain "java/lang/CharSequence" (some 0) with
  accessFlags := 1537
  interfaces := #[]
  cf := some (fileOf pool5 2 #[.nestMembers #[47, 59]] #[] 1537 66 #[] #[])
  fields := #[]
  methods := #[]
  instanceTypes := #[]
  staticTypes := #[]
  resolved := Array.replicate 131 none
  statics := none }

def pool6 : Array CpInfo := pool [(1, .class_ 2), (0, u "java/lang/constant/Constable"), (0, .class_ 4), (0, u "java/lang/Object")] 6

/-- java/lang/constant/Constable -/
def k6 : Class := { plain "java/lang/constant/Constable" (some 0) with
  accessFlags := 1537
  interfaces := #[]
  cf := some (fileOf pool6 1 #[] #[] 1537 3 #[] #[])
  fields := #[]
  methods := #[]
  instanceTypes := #[]
  staticTypes := #[]
  resolved := Array.replicate 11 none
  statics := none }

def pool7 : Array CpInfo := pool [(1, .class_ 2), (0, u "java/lang/constant/ConstantDesc"), (0, .class_ 4), (0, u "java/lang/Object")] 32

/-- java/lang/constant/ConstantDesc -/
def k7 : Class := { plain "java/lang/constant/ConstantDesc" (some 0) with
  accessFlags := 1537
  interfaces := #[]
  cf := some (fileOf pool7 1 #[] #[] 1537 3 #[] #[])
  fields := #[]
  methods := #[]
  instanceTypes := #[]
  staticTypes := #[]
  resolved := Array.replicate 37 none
  statics := none }

def pool8 : Array CpInfo := pool [(2, .class_ 4), (1, u "java/lang/Object"), (0, u "<init>"), (0, u "()V"), (3, .class_ 12), (1, u "java/lang/String"), (0, u "value"), (0, u "[B"), (2, u "coder"), (0, u "B"), (2, u "hash"), (0, u "I"), (2, u "hashIsZero"), (0, u "Z"), (13, u "COMPACT_STRINGS"), (534, .class_ 576), (0, u "java/lang/CharSequence"), (22, u "CASE_INSENSITIVE_ORDER"), (0, u "Ljava/util/Comparator;"), (500, u "serialPersistentFields"), (0, u "[Ljava/io/ObjectStreamField;"), (0, .class_ 1104), (0, u "java/lang/String$CaseInsensitiveComparator"), (1, .class_ 1107), (0, u "java/io/Serializable"), (0, .class_ 1109), (0, u "java/lang/Comparable"), (0, .class_ 1111), (0, u "java/lang/constant/Constable"), (0, .class_ 1113), (0, u "java/lang/constant/ConstantDesc"), (2, u "serialVersionUID"), (0, u "J"), (3, u "REPL"), (0, u "C"), (2, u "LATIN1"), (1, u "UTF16")] 323

def k8m0 : Method := { name := "<init>", desc := "()V", sig := { parameters := [], returnType := none }, accessFlags := 1, code := none }
/-- java/lang/String -/
def k8 : Class := { plain "java/lang/String" (some 0) with
  accessFlags := 49
  interfaces := #[3, 4, 5, 6, 7]
  cf := some (fileOf pool8 10 #[.nestMembers #[1103]] #[{ accessFlags := 1, nameIndex := 5, descriptorIndex := 6, attributes := #[] }] 49 2 #[1106, 1108, 575, 1110, 1112] #[{ accessFlags := 18, nameIndex := 13, descriptorIndex := 14, attributes := #[] }, { accessFlags := 18, nameIndex := 17, descriptorIndex := 18, attributes := #[] }, { accessFlags := 2, nameIndex := 21, descriptorIndex := 22, attributes := #[] }, { accessFlags := 2, nameIndex := 25, descriptorIndex := 26, attributes := #[] }, { accessFlags := 26, nameIndex := 1116, descriptorIndex := 1117, attributes := #[] }, { accessFlags := 24, nameIndex := 40, descriptorIndex := 26, attributes := #[] }, { accessFlags := 26, nameIndex := 1101, descriptorIndex := 1102, attributes := #[] }, { accessFlags := 26, nameIndex := 1121, descriptorIndex := 1122, attributes := #[] }, { accessFlags := 25, nameIndex := 599, descriptorIndex := 600, attributes := #[] }, { accessFlags := 24, nameIndex := 1125, descriptorIndex := 18, attributes := #[] }, { accessFlags := 24, nameIndex := 1127, descriptorIndex := 18, attributes := #[] }])
  fields := #[{ name := "value", type := (.array .byte), accessFlags := 18, slot := 0, constantValue := 0 }, { name := "coder", type := .byte, accessFlags := 18, slot := 1, constantValue := 0 }, { name := "hash", type := .int, accessFlags := 2, slot := 2, constantValue := 0 }, { name := "hashIsZero", type := .boolean, accessFlags := 2, slot := 3, constantValue := 0 }, { name := "serialVersionUID", type := .long, accessFlags := 26, slot := 0, constantValue := 0 }, { name := "COMPACT_STRINGS", type := .boolean, accessFlags := 24, slot := 1, constantValue := 0 }, { name := "serialPersistentFields", type := (.array (.object "java/io/ObjectStreamField")), accessFlags := 26, slot := 2, constantValue := 0 }, { name := "REPL", type := .char, accessFlags := 26, slot := 3, constantValue := 0 }, { name := "CASE_INSENSITIVE_ORDER", type := (.object "java/util/Comparator"), accessFlags := 25, slot := 4, constantValue := 0 }, { name := "LATIN1", type := .byte, accessFlags := 24, slot := 5, constantValue := 0 }, { name := "UTF16", type := .byte, accessFlags := 24, slot := 6, constantValue := 0 }]
  methods := #[k8m0]
  instanceTypes := #[(.array .byte), .byte, .int, .boolean]
  staticTypes := #[.long, .boolean, (.array (.object "java/io/ObjectStreamField")), .char, (.object "java/util/Comparator"), .byte, .byte]
  resolved := Array.replicate 1451 none
  statics := none }

def pool9 : Array CpInfo := pool [(1, .methodref 2 3), (0, .class_ 4), (0, .nameAndType 5 6), (0, u "java/lang/Object"), (0, u "<init>"), (0, u "()V"), (0, .class_ 8), (0, u "java/lang/Record")] 13

def k9c0 : Code := { maxStack := 1, maxLocals := 1, code := jdk_30_method_1_code, exceptionTable := #[], attributes := #[] }
def k9m0 : Method := { name := "<init>", desc := "()V", sig := { parameters := [], returnType := none }, accessFlags := 4, code := some k9c0 }
/-- java/lang/Record -/
def k9 : Class := { plain "java/lang/Record" (some 0) with
  accessFlags := 1057
  interfaces := #[]
  cf := some (fileOf pool9 7 #[] #[{ accessFlags := 4, nameIndex := 5, descriptorIndex := 6, attributes := #[] }] 1057 2 #[] #[])
  fields := #[]
  methods := #[k9m0]
  instanceTypes := #[]
  staticTypes := #[]
  resolved := Array.replicate 22 none
  statics := none }

def pool10 : Array CpInfo := pool [(1, .methodref 2 3), (0, .class_ 4), (0, .nameAndType 5 6), (0, u "java/lang/Record"), (0, u "<init>"), (0, u "()V"), (0, .fieldref 8 9), (0, .class_ 10), (0, .nameAndType 11 12), (0, u "com/example/sidetrack/sidetrack/codec/BerReader$Element"), (0, u "tag"), (0, u "I"), (0, .fieldref 8 14), (0, .nameAndType 15 12), (0, u "offset"), (0, .fieldref 8 17), (0, .nameAndType 18 19), (0, u "contents"), (0, u "Lcom/example/sidetrack/sidetrack/codec/BerReader;"), (1, .class_ 23), (1, u "com/example/sidetrack/sidetrack/codec/BerReader"), (27, u "(IILcom/example/sidetrack/sidetrack/codec/BerReader;)V"), (8, u "()Lcom/example/sidetrack/sidetrack/codec/BerReader;")] 24

def k10c0 : Code := { maxStack := 2, maxLocals := 4, code := prog_14_method_1_code, exceptionTable := #[], attributes := #[] }
def k10m0 : Method := { name := "<init>", desc := "(IILcom/example/sidetrack/sidetrack/codec/BerReader;)V", sig := { parameters := [.int, .int, (.object "com/example/sidetrack/sidetrack/codec/BerReader")], returnType := none }, accessFlags := 0, code := some k10c0 }
def k10c1 : Code := { maxStack := 1, maxLocals := 1, code := prog_14_method_9_code, exceptionTable := #[], attributes := #[] }
def k10m1 : Method := { name := "contents", desc := "()Lcom/example/sidetrack/sidetrack/codec/BerReader;", sig := { parameters := [], returnType := some (.object "com/example/sidetrack/sidetrack/codec/BerReader") }, accessFlags := 1, code := some k10c1 }
/-- com/example/sidetrack/sidetrack/codec/BerReader$Element -/
def k10 : Class := { plain "com/example/sidetrack/sidetrack/codec/BerReader$Element" (some 9) with
  accessFlags := 48
  interfaces := #[]
  cf := some (fileOf pool10 8 #[.nestHost 21] #[{ accessFlags := 0, nameIndex := 5, descriptorIndex := 51, attributes := #[] }, { accessFlags := 1, nameIndex := 18, descriptorIndex := 60, attributes := #[] }] 48 2 #[] #[{ accessFlags := 18, nameIndex := 11, descriptorIndex := 12, attributes := #[] }, { accessFlags := 18, nameIndex := 15, descriptorIndex := 12, attributes := #[] }, { accessFlags := 18, nameIndex := 18, descriptorIndex := 19, attributes := #[] }])
  fields := #[{ name := "tag", type := .int, accessFlags := 18, slot := 0, constantValue := 0 }, { name := "offset", type := .int, accessFlags := 18, slot := 1, constantValue := 0 }, { name := "contents", type := (.object "com/example/sidetrack/sidetrack/codec/BerReader"), accessFlags := 18, slot := 2, constantValue := 0 }]
  methods := #[k10m0, k10m1]
  instanceTypes := #[.int, .int, (.object "com/example/sidetrack/sidetrack/codec/BerReader")]
  staticTypes := #[]
  resolved := Array.replicate 85 none
  statics := none }

def pool11 : Array CpInfo := pool [(2, .class_ 4), (1, u "java/lang/Object"), (0, u "<init>"), (0, u "()V"), (7, .class_ 16), (1, u "java/util/Arrays"), (57, .class_ 76), (1, u "java/util/Arrays$NaturalOrder"), (36, .class_ 115), (1, u "java/util/Arrays$LegacyMergeSort"), (1, u "Z"), (21, u "copyOfRange"), (10, .methodref 151 152), (0, .class_ 153), (0, .nameAndType 154 155), (0, u "java/lang/System"), (0, u "arraycopy"), (0, u "(Ljava/lang/Object;ILjava/lang/Object;II)V"), (148, .methodref 305 306), (0, .class_ 307), (0, .nameAndType 308 309), (0, u "java/lang/Math"), (0, u "min"), (0, u "(II)I"), (29, .methodref 14 340), (0, .nameAndType 341 342), (0, u "copyOfRangeByte"), (0, u "([BII)[B"), (0, .methodref 14 344), (0, .nameAndType 345 346), (0, u "checkLength"), (0, u "(II)V"), (28, .class_ 376), (0, u "java/util/Arrays$ArrayList"), (68, u "$assertionsDisabled"), (269, u "MIN_ARRAY_SORT_GRAN"), (0, u "I"), (2, u "INSERTIONSORT_THRESHOLD"), (255, .class_ 976), (0, u "java/util/Arrays$ArrayItr")] 52

def k11m0 : Method := { name := "<init>", desc := "()V", sig := { parameters := [], returnType := none }, accessFlags := 2, code := none }
def k11c1 : Code := { maxStack := 4, maxLocals := 2, code := jdk_65_method_131_code, exceptionTable := #[], attributes := #[] }
def k11m1 : Method := { name := "checkLength", desc := "(II)V", sig := { parameters := [.int, .int], returnType := none }, accessFlags := 10, code := some k11c1 }
def k11c2 : Code := { maxStack := 3, maxLocals := 3, code := jdk_65_method_132_code, exceptionTable := #[], attributes := #[] }
def k11m2 : Method := { name := "copyOfRange", desc := "([BII)[B", sig := { parameters := [(.array .byte), .int, .int], returnType := some (.array .byte) }, accessFlags := 9, code := some k11c2 }
def k11c3 : Code := { maxStack := 6, maxLocals := 5, code := jdk_65_method_133_code, exceptionTable := #[], attributes := #[] }
def k11m3 : Method := { name := "copyOfRangeByte", desc := "([BII)[B", sig := { parameters := [(.array .byte), .int, .int], returnType := some (.array .byte) }, accessFlags := 10, code := some k11c3 }
/-- java/util/Arrays -/
def k11 : Class := { plain "java/util/Arrays" (some 0) with
  accessFlags := 49
  interfaces := #[]
  cf := some (fileOf pool11 14 #[.nestMembers #[975, 375, 113, 74]] #[{ accessFlags := 2, nameIndex := 5, descriptorIndex := 6, attributes := #[] }, { accessFlags := 10, nameIndex := 345, descriptorIndex := 346, attributes := #[] }, { accessFlags := 9, nameIndex := 139, descriptorIndex := 342, attributes := #[] }, { accessFlags := 10, nameIndex := 341, descriptorIndex := 342, attributes := #[] }] 49 2 #[] #[{ accessFlags := 26, nameIndex := 715, descriptorIndex := 716, attributes := #[] }, { accessFlags := 26, nameIndex := 719, descriptorIndex := 716, attributes := #[] }, { accessFlags := 4120, nameIndex := 445, descriptorIndex := 117, attributes := #[] }])
  fields := #[{ name := "MIN_ARRAY_SORT_GRAN", type := .int, accessFlags := 26, slot := 0, constantValue := 0 }, { name := "INSERTIONSORT_THRESHOLD", type := .int, accessFlags := 26, slot := 1, constantValue := 0 }, { name := "$assertionsDisabled", type := .boolean, accessFlags := 4120, slot := 2, constantValue := 0 }]
  methods := #[k11m0, k11m1, k11m2, k11m3]
  instanceTypes := #[]
  staticTypes := #[.int, .int, .boolean]
  resolved := Array.replicate 1029 none
  statics := none }

def pool12 : Array CpInfo := pool [(1, .class_ 2), (0, u "java/lang/Math"), (1, .class_ 6), (1, u "java/lang/Object"), (0, u "<init>"), (0, u "()V"), (89, .class_ 100), (1, u "java/lang/Math$RandomNumberGeneratorHolder"), (71, u "negativeZeroFloatBits"), (0, u "J"), (2, u "negativeZeroDoubleBits"), (24, u "min"), (43, u "$assertionsDisabled"), (0, u "Z"), (88, u "(II)I"), (2, u "twoToTheDoubleScaleDown"), (0, u "D"), (4, u "twoToTheDoubleScaleUp"), (9, u "E"), (3, u "PI"), (2, u "TAU"), (2, u "DEGREES_TO_RADIANS"), (0, u "RADIANS_TO_DEGREES")] 94

def k12m0 : Method := { name := "<init>", desc := "()V", sig := { parameters := [], returnType := none }, accessFlags := 2, code := none }
def k12c1 : Code := { maxStack := 2, maxLocals := 2, code := jdk_29_method_69_code, exceptionTable := #[], attributes := #[] }
def k12m1 : Method := { name := "min", desc := "(II)I", sig := { parameters := [.int, .int], returnType := some .int }, accessFlags := 9, code := some k12c1 }
/-- java/lang/Math -/
def k12 : Class := { plain "java/lang/Math" (some 0) with
  accessFlags := 49
  interfaces := #[]
  cf := some (fileOf pool12 1 #[.nestMembers #[98]] #[{ accessFlags := 2, nameIndex := 7, descriptorIndex := 8, attributes := #[] }, { accessFlags := 9, nameIndex := 201, descriptorIndex := 335, attributes := #[] }] 49 4 #[] #[{ accessFlags := 25, nameIndex := 354, descriptorIndex := 339, attributes := #[] }, { accessFlags := 25, nameIndex := 358, descriptorIndex := 339, attributes := #[] }, { accessFlags := 25, nameIndex := 361, descriptorIndex := 339, attributes := #[] }, { accessFlags := 26, nameIndex := 364, descriptorIndex := 339, attributes := #[] }, { accessFlags := 26, nameIndex := 365, descriptorIndex := 339, attributes := #[] }, { accessFlags := 26, nameIndex := 172, descriptorIndex := 173, attributes := #[] }, { accessFlags := 26, nameIndex := 176, descriptorIndex := 173, attributes := #[] }, { accessFlags := 8, nameIndex := 344, descriptorIndex := 339, attributes := #[] }, { accessFlags := 8, nameIndex := 338, descriptorIndex := 339, attributes := #[] }, { accessFlags := 4120, nameIndex := 245, descriptorIndex := 246, attributes := #[] }])
  fields := #[{ name := "E", type := .double, accessFlags := 25, slot := 0, constantValue := 0 }, { name := "PI", type := .double, accessFlags := 25, slot := 1, constantValue := 0 }, { name := "TAU", type := .double, accessFlags := 25, slot := 2, constantValue := 0 }, { name := "DEGREES_TO_RADIANS", type := .double, accessFlags := 26, slot := 3, constantValue := 0 }, { name := "RADIANS_TO_DEGREES", type := .double, accessFlags := 26, slot := 4, constantValue := 0 }, { name := "negativeZeroFloatBits", type := .long, accessFlags := 26, slot := 5, constantValue := 0 }, { name := "negativeZeroDoubleBits", type := .long, accessFlags := 26, slot := 6, constantValue := 0 }, { name := "twoToTheDoubleScaleUp", type := .double, accessFlags := 8, slot := 7, constantValue := 0 }, { name := "twoToTheDoubleScaleDown", type := .double, accessFlags := 8, slot := 8, constantValue := 0 }, { name := "$assertionsDisabled", type := .boolean, accessFlags := 4120, slot := 9, constantValue := 0 }]
  methods := #[k12m0, k12m1]
  instanceTypes := #[]
  staticTypes := #[.double, .double, .double, .double, .double, .long, .long, .double, .double, .boolean]
  resolved := Array.replicate 460 none
  statics := none }

def pool13 : Array CpInfo := pool [(2, .class_ 4), (1, u "java/lang/Object"), (0, u "<init>"), (0, u "()V"), (1, .class_ 10), (1, u "java/lang/System"), (0, u "allowSecurityManager"), (0, u "I"), (16, u "cons"), (0, u "Ljava/io/Console;"), (77, .class_ 110), (1, u "java/lang/System$CallersHolder"), (43, u "initialErrStream"), (0, u "Ljava/io/PrintStream;"), (19, u "security"), (0, u "Ljava/lang/SecurityManager;"), (31, .class_ 209), (0, u "java/lang/System$1"), (7, u "props"), (0, u "Ljava/util/Properties;"), (2, u "lineSeparator"), (0, u "Ljava/lang/String;"), (96, .class_ 321), (1, u "java/lang/System$LoggerFinder"), (5, .class_ 328), (0, u "java/lang/System$Logger"), (67, u "err"), (2, u "out"), (91, u "notSupportedJnuEncoding"), (15, u "in"), (17, u "initialIn"), (0, u "Ljava/io/InputStream;"), (35, u "bootLayer"), (0, u "Ljava/lang/ModuleLayer;"), (99, .class_ 664), (0, u "java/lang/System$2"), (9, u "NEVER"), (2, u "MAYBE"), (49, u "arraycopy"), (0, u "(Ljava/lang/Object;ILjava/lang/Object;II)V"), (72, .class_ 802), (0, u "java/lang/System$Logger$Level")] 31

def k13m0 : Method := { name := "<init>", desc := "()V", sig := { parameters := [], returnType := none }, accessFlags := 2, code := none }
def k13m1 : Method := { name := "arraycopy", desc := "(Ljava/lang/Object;ILjava/lang/Object;II)V", sig := { parameters := [(.object "java/lang/Object"), .int, (.object "java/lang/Object"), .int, .int], returnType := none }, accessFlags := 265, code := none }
/-- java/lang/System -/
def k13 : Class := { plain "java/lang/System" (some 0) with
  accessFlags := 49
  interfaces := #[]
  cf := some (fileOf pool13 8 #[.nestMembers #[319, 327, 801, 108, 663, 208]] #[{ accessFlags := 2, nameIndex := 5, descriptorIndex := 6, attributes := #[] }, { accessFlags := 265, nameIndex := 727, descriptorIndex := 728, attributes := #[] }] 49 2 #[] #[{ accessFlags := 25, nameIndex := 507, descriptorIndex := 526, attributes := #[] }, { accessFlags := 25, nameIndex := 399, descriptorIndex := 155, attributes := #[] }, { accessFlags := 25, nameIndex := 396, descriptorIndex := 155, attributes := #[] }, { accessFlags := 10, nameIndex := 525, descriptorIndex := 526, attributes := #[] }, { accessFlags := 26, nameIndex := 674, descriptorIndex := 12, attributes := #[] }, { accessFlags := 26, nameIndex := 677, descriptorIndex := 12, attributes := #[] }, { accessFlags := 10, nameIndex := 11, descriptorIndex := 12, attributes := #[] }, { accessFlags := 74, nameIndex := 175, descriptorIndex := 176, attributes := #[] }, { accessFlags := 10, nameIndex := 491, descriptorIndex := 222, attributes := #[] }, { accessFlags := 74, nameIndex := 29, descriptorIndex := 30, attributes := #[] }, { accessFlags := 74, nameIndex := 154, descriptorIndex := 155, attributes := #[] }, { accessFlags := 10, nameIndex := 217, descriptorIndex := 218, attributes := #[] }, { accessFlags := 10, nameIndex := 221, descriptorIndex := 222, attributes := #[] }, { accessFlags := 8, nameIndex := 562, descriptorIndex := 563, attributes := #[] }])
  fields := #[{ name := "in", type := (.object "java/io/InputStream"), accessFlags := 25, slot := 0, constantValue := 0 }, { name := "out", type := (.object "java/io/PrintStream"), accessFlags := 25, slot := 1, constantValue := 0 }, { name := "err", type := (.object "java/io/PrintStream"), accessFlags := 25, slot := 2, constantValue := 0 }, { name := "initialIn", type := (.object "java/io/InputStream"), accessFlags := 10, slot := 3, constantValue := 0 }, { name := "NEVER", type := .int, accessFlags := 26, slot := 4, constantValue := 0 }, { name := "MAYBE", type := .int, accessFlags := 26, slot := 5, constantValue := 0 }, { name := "allowSecurityManager", type := .int, accessFlags := 10, slot := 6, constantValue := 0 }, { name := "security", type := (.object "java/lang/SecurityManager"), accessFlags := 74, slot := 7, constantValue := 0 }, { name := "notSupportedJnuEncoding", type := (.object "java/lang/String"), accessFlags := 10, slot := 8, constantValue := 0 }, { name := "cons", type := (.object "java/io/Console"), accessFlags := 74, slot := 9, constantValue := 0 }, { name := "initialErrStream", type := (.object "java/io/PrintStream"), accessFlags := 74, slot := 10, constantValue := 0 }, { name := "props", type := (.object "java/util/Properties"), accessFlags := 10, slot := 11, constantValue := 0 }, { name := "lineSeparator", type := (.object "java/lang/String"), accessFlags := 10, slot := 12, constantValue := 0 }, { name := "bootLayer", type := (.object "java/lang/ModuleLayer"), accessFlags := 8, slot := 13, constantValue := 0 }]
  methods := #[k13m0, k13m1]
  instanceTypes := #[]
  staticTypes := #[(.object "java/io/InputStream"), (.object "java/io/PrintStream"), (.object "java/io/PrintStream"), (.object "java/io/InputStream"), .int, .int, .int, (.object "java/lang/SecurityManager"), (.object "java/lang/String"), (.object "java/io/Console"), (.object "java/io/PrintStream"), (.object "java/util/Properties"), (.object "java/lang/String"), (.object "java/lang/ModuleLayer")]
  resolved := Array.replicate 834 none
  statics := none }

def pool14 : Array CpInfo := pool [(1, u "java/lang/Cloneable"), (0, .class_ 1), (0, u "java/lang/Object"), (0, .class_ 3)] 3

/-- java/lang/Cloneable -/
def k14 : Class := { plain "java/lang/Cloneable" (some 0) with
  accessFlags := 1537
  interfaces := #[]
  cf := some (fileOf pool14 2 #[] #[] 1537 4 #[] #[])
  fields := #[]
  methods := #[]
  instanceTypes := #[]
  staticTypes := #[]
  resolved := Array.replicate 8 none
  statics := none }

/-- the primitive byte -/
def k15 : Class := { plain "byte" none with kind := .primitive 'B', accessFlags := 0x411 }
/-- [B -/
def k16 : Class := { plain "[B" (some 0) with kind := .array 15 .byte, interfaces := #[14, 3], accessFlags := 1041 }

/-- the primitive int -/
def k17 : Class := { plain "int" none with kind := .primitive 'I', accessFlags := 0x411 }
/-- [I -/
def k18 : Class := { plain "[I" (some 0) with kind := .array 17 .int, interfaces := #[14, 3], accessFlags := 1041 }

def heap : Heap := #[]
def classes : Array Class := #[k0, k1, k2, k3, k4, k5, k6, k7, k8, k9, k10, k11, k12, k13, k14, k15, k16, k17, k18]
def interned : List (Array UInt16 × Addr) := []
def slotsUsed : Nat := 0
def theMethod : MethodId := ⟨1, 1⟩
def args0 : Array Value := #[.int 1, .int 4, .int 7, .int 8]
def aboutOver (below : List Frame) : State where
  vm := { classes := classes, interned := interned.toArray }
  heap := heap
  slotsUsed := slotsUsed
  threads := #[{ frames := .invoking theMethod args0 :: below }]
def below0 : List Frame := [.native { method := ⟨0, 0⟩, args := #[] }]
def about1 : State := aboutOver below0
def p0 : Program := .bare "" "" ""
def e0 : Env := launch0.env 0 0 0
theorem w_frames : about1.frames = Frame.invoking theMethod args0 :: below0 := rfl
set_option maxRecDepth 65536 in
theorem w_args : argsFit about1.vm theMethod args0 = true := by decide +kernel
set_option maxRecDepth 65536 in
theorem w_heap : heapFits about1 = true := by decide +kernel
set_option maxRecDepth 65536 in
theorem w_runnable : about1.curStatus? = some .runnable := by decide +kernel
set_option maxRecDepth 65536 in
theorem w_alone : about1.alone = true := by decide +kernel
set_option maxRecDepth 65536 in
theorem w_named : about1.methodNamed? x = some theMethod := by decide +kernel
set_option maxRecDepth 65536 in
theorem w_hears : about1.hears theMethod below0 = true := by decide +kernel
set_option maxRecDepth 65536 in
theorem w_ripe : about1.ripe theMethod args0 below0 = true := by decide +kernel
theorem w_running : about1.status = .running := rfl
set_option maxRecDepth 65536 in
theorem w_room : about1.hasRoom e0.platform room_1 = true :=
  launch0.hasRoom_least _ room_1 (by decide +kernel) (by decide +kernel) (by decide +kernel) (by decide +kernel) (by decide +kernel) (by decide +kernel)
theorem allAtoms_all (ts : List Jvm.Cond) (a : Array Jvm.Value) (st : Jvm.State) : (allAtoms ts).before a st = ts.all (fun c => c.before a st) := by
  induction ts with
  | nil => rfl
  | cons c t ih =>
    show (Jvm.Cond.and c (allAtoms t)).before a st = _
    rw [Jvm.Cond.before_and, ih, List.all_cons]
def words1 : List Jvm.Cond := Jvm.Cond.code x code maxLocals ret :: tables_1
/-- a 'code' word, met by the world's own term for the bytes: nothing is compared byte by byte -/
theorem code_word {y : MethodName} {bytes : ByteArray} {mx : Nat} {rt : Option FieldType} {a : Array Value} {s : State} {m : MethodId} {meth : Method} {c : Code} (h1 : s.methodNamed? y = some m) (h2 : s.vm.method? m = some meth) (h3 : meth.code = some c) (h4 : c.code = bytes)
    (h5 : (c.maxLocals == mx && c.exceptionTable.isEmpty && decide (c.maxStack ≤ mostOperands) && decide (meth.sig.returnType = rt) && !meth.locks && decide (parseMethodDescriptor y.desc = some meth.sig)) = true) : (Jvm.Cond.code y bytes mx rt).before a s = true := by
  simp only [Bool.and_eq_true, beq_iff_eq, Bool.not_eq_true', decide_eq_true_eq] at h5
  obtain ⟨⟨⟨⟨⟨g1, g2⟩, g3⟩, g4⟩, g5⟩, g6⟩ := h5
  simp [Cond.before, Cond.holds, Cond.value, h1, h2, h3, h4, g1, g2, g3, g4, g5, g6]
def isCode : Jvm.Cond → Bool
  | .code _ _ _ _ => true
  | _ => false
theorem all_split {L : List Jvm.Cond} {P : Jvm.Cond → Bool} (h1 : L.all (fun c => isCode c || P c) = true) (h2 : ∀ c ∈ L.filter isCode, P c = true) : L.all P = true := by
  refine List.all_eq_true.mpr fun c hc => ?_
  have h := List.all_eq_true.mp h1 c hc
  rcases Bool.eq_false_or_eq_true (isCode c) with hi | hi
  · exact h2 c (List.mem_filter.mpr ⟨hc, hi⟩)
  · simpa [hi] using h
set_option maxRecDepth 65536 in
theorem w_c0 : (Jvm.Cond.code x code maxLocals ret).before args0 about1 = true := code_word (m := ⟨1, 1⟩) (meth := k1m1) (c := k1c1) (by decide +kernel) rfl rfl rfl (by decide +kernel)
set_option maxRecDepth 65536 in
theorem w_c1 : (Jvm.Cond.code ({ cls := "com/example/sidetrack/sidetrack/codec/BerReader", name := "<init>", desc := "([BII)V" } : Jvm.MethodName) prog_13_method_1_code (4 : Nat) (Option.none : Option Jvm.ClassFile.FieldType)).before args0 about1 = true := code_word (m := ⟨2, 0⟩) (meth := k2m0) (c := k2c0) (by decide +kernel) rfl rfl rfl (by decide +kernel)
set_option maxRecDepth 65536 in
theorem w_c2 : (Jvm.Cond.code ({ cls := "java/lang/Object", name := "<init>", desc := "()V" } : Jvm.MethodName) object_method_1_code (1 : Nat) (Option.none : Option Jvm.ClassFile.FieldType)).before args0 about1 = true := code_word (m := ⟨0, 0⟩) (meth := k0m0) (c := k0c0) (by decide +kernel) rfl rfl rfl (by decide +kernel)
set_option maxRecDepth 65536 in
theorem w_c3 : (Jvm.Cond.code ({ cls := "com/example/sidetrack/sidetrack/codec/BerReader", name := "atEnd", desc := "()Z" } : Jvm.MethodName) prog_13_method_2_code (1 : Nat) (Option.some Jvm.ClassFile.FieldType.boolean)).before args0 about1 = true := code_word (m := ⟨2, 1⟩) (meth := k2m1) (c := k2c1) (by decide +kernel) rfl rfl rfl (by decide +kernel)
set_option maxRecDepth 65536 in
theorem w_c4 : (Jvm.Cond.code ({ cls := "com/example/sidetrack/sidetrack/codec/BerReader", name := "next", desc := "(Ljava/lang/String;)Lcom/example/sidetrack/sidetrack/codec/BerReader$Element;" } : Jvm.MethodName) prog_13_method_5_code (6 : Nat) (Option.some (Jvm.ClassFile.FieldType.object "com/example/sidetrack/sidetrack/codec/BerReader$Element"))).before args0 about1 = true := code_word (m := ⟨2, 3⟩) (meth := k2m3) (c := k2c3) (by decide +kernel) rfl rfl rfl (by decide +kernel)
set_option maxRecDepth 65536 in
theorem w_c5 : (Jvm.Cond.code ({ cls := "com/example/sidetrack/sidetrack/codec/BerReader", name := "peekTag", desc := "()I" } : Jvm.MethodName) prog_13_method_3_code (1 : Nat) (Option.some Jvm.ClassFile.FieldType.int)).before args0 about1 = true := code_word (m := ⟨2, 2⟩) (meth := k2m2) (c := k2c2) (by decide +kernel) rfl rfl rfl (by decide +kernel)
set_option maxRecDepth 65536 in
theorem w_c6 : (Jvm.Cond.code ({ cls := "com/example/sidetrack/sidetrack/codec/BerReader", name := "readLength", desc := "(Ljava/lang/String;)I" } : Jvm.MethodName) prog_13_method_9_code (7 : Nat) (Option.some Jvm.ClassFile.FieldType.int)).before args0 about1 = true := code_word (m := ⟨2, 5⟩) (meth := k2m5) (c := k2c5) (by decide +kernel) rfl rfl rfl (by decide +kernel)
set_option maxRecDepth 65536 in
theorem w_c7 : (Jvm.Cond.code ({ cls := "com/example/sidetrack/sidetrack/codec/BerReader$Element", name := "<init>", desc := "(IILcom/example/sidetrack/sidetrack/codec/BerReader;)V" } : Jvm.MethodName) prog_14_method_1_code (4 : Nat) (Option.none : Option Jvm.ClassFile.FieldType)).before args0 about1 = true := code_word (m := ⟨10, 0⟩) (meth := k10m0) (c := k10c0) (by decide +kernel) rfl rfl rfl (by decide +kernel)
set_option maxRecDepth 65536 in
theorem w_c8 : (Jvm.Cond.code ({ cls := "java/lang/Record", name := "<init>", desc := "()V" } : Jvm.MethodName) jdk_30_method_1_code (1 : Nat) (Option.none : Option Jvm.ClassFile.FieldType)).before args0 about1 = true := code_word (m := ⟨9, 0⟩) (meth := k9m0) (c := k9c0) (by decide +kernel) rfl rfl rfl (by decide +kernel)
set_option maxRecDepth 65536 in
theorem w_c9 : (Jvm.Cond.code ({ cls := "com/example/sidetrack/sidetrack/codec/BerReader$Element", name := "contents", desc := "()Lcom/example/sidetrack/sidetrack/codec/BerReader;" } : Jvm.MethodName) prog_14_method_9_code (1 : Nat) (Option.some (Jvm.ClassFile.FieldType.object "com/example/sidetrack/sidetrack/codec/BerReader"))).before args0 about1 = true := code_word (m := ⟨10, 1⟩) (meth := k10m1) (c := k10c1) (by decide +kernel) rfl rfl rfl (by decide +kernel)
set_option maxRecDepth 65536 in
theorem w_c10 : (Jvm.Cond.code ({ cls := "com/example/sidetrack/sidetrack/codec/BerReader", name := "rest", desc := "()[B" } : Jvm.MethodName) prog_13_method_6_code (2 : Nat) (Option.some (Jvm.ClassFile.FieldType.array Jvm.ClassFile.FieldType.byte))).before args0 about1 = true := code_word (m := ⟨2, 4⟩) (meth := k2m4) (c := k2c4) (by decide +kernel) rfl rfl rfl (by decide +kernel)
set_option maxRecDepth 65536 in
theorem w_c11 : (Jvm.Cond.code ({ cls := "java/util/Arrays", name := "copyOfRange", desc := "([BII)[B" } : Jvm.MethodName) jdk_65_method_132_code (3 : Nat) (Option.some (Jvm.ClassFile.FieldType.array Jvm.ClassFile.FieldType.byte))).before args0 about1 = true := code_word (m := ⟨11, 2⟩) (meth := k11m2) (c := k11c2) (by decide +kernel) rfl rfl rfl (by decide +kernel)
set_option maxRecDepth 65536 in
theorem w_c12 : (Jvm.Cond.code ({ cls := "java/util/Arrays", name := "copyOfRangeByte", desc := "([BII)[B" } : Jvm.MethodName) jdk_65_method_133_code (5 : Nat) (Option.some (Jvm.ClassFile.FieldType.array Jvm.ClassFile.FieldType.byte))).before args0 about1 = true := code_word (m := ⟨11, 3⟩) (meth := k11m3) (c := k11c3) (by decide +kernel) rfl rfl rfl (by decide +kernel)
set_option maxRecDepth 65536 in
theorem w_c13 : (Jvm.Cond.code ({ cls := "java/util/Arrays", name := "checkLength", desc := "(II)V" } : Jvm.MethodName) jdk_65_method_131_code (2 : Nat) (Option.none : Option Jvm.ClassFile.FieldType)).before args0 about1 = true := code_word (m := ⟨11, 1⟩) (meth := k11m1) (c := k11c1) (by decide +kernel) rfl rfl rfl (by decide +kernel)
set_option maxRecDepth 65536 in
theorem w_c14 : (Jvm.Cond.code ({ cls := "java/lang/Math", name := "min", desc := "(II)I" } : Jvm.MethodName) jdk_29_method_69_code (2 : Nat) (Option.some Jvm.ClassFile.FieldType.int)).before args0 about1 = true := code_word (m := ⟨12, 1⟩) (meth := k12m1) (c := k12c1) (by decide +kernel) rfl rfl rfl (by decide +kernel)
def codes1 : List Jvm.Cond := [Jvm.Cond.code x code maxLocals ret, Jvm.Cond.code ({ cls := "com/example/sidetrack/sidetrack/codec/BerReader", name := "<init>", desc := "([BII)V" } : Jvm.MethodName) prog_13_method_1_code (4 : Nat) (Option.none : Option Jvm.ClassFile.FieldType), Jvm.Cond.code ({ cls := "java/lang/Object", name := "<init>", desc := "()V" } : Jvm.MethodName) object_method_1_code (1 : Nat) (Option.none : Option Jvm.ClassFile.FieldType), Jvm.Cond.code ({ cls := "com/example/sidetrack/sidetrack/codec/BerReader", name := "atEnd", desc := "()Z" } : Jvm.MethodName) prog_13_method_2_code (1 : Nat) (Option.some Jvm.ClassFile.FieldType.boolean), Jvm.Cond.code ({ cls := "com/example/sidetrack/sidetrack/codec/BerReader", name := "next", desc := "(Ljava/lang/String;)Lcom/example/sidetrack/sidetrack/codec/BerReader$Element;" } : Jvm.MethodName) prog_13_method_5_code (6 : Nat) (Option.some (Jvm.ClassFile.FieldType.object "com/example/sidetrack/sidetrack/codec/BerReader$Element")), Jvm.Cond.code ({ cls := "com/example/sidetrack/sidetrack/codec/BerReader", name := "peekTag", desc := "()I" } : Jvm.MethodName) prog_13_method_3_code (1 : Nat) (Option.some Jvm.ClassFile.FieldType.int), Jvm.Cond.code ({ cls := "com/example/sidetrack/sidetrack/codec/BerReader", name := "readLength", desc := "(Ljava/lang/String;)I" } : Jvm.MethodName) prog_13_method_9_code (7 : Nat) (Option.some Jvm.ClassFile.FieldType.int), Jvm.Cond.code ({ cls := "com/example/sidetrack/sidetrack/codec/BerReader$Element", name := "<init>", desc := "(IILcom/example/sidetrack/sidetrack/codec/BerReader;)V" } : Jvm.MethodName) prog_14_method_1_code (4 : Nat) (Option.none : Option Jvm.ClassFile.FieldType), Jvm.Cond.code ({ cls := "java/lang/Record", name := "<init>", desc := "()V" } : Jvm.MethodName) jdk_30_method_1_code (1 : Nat) (Option.none : Option Jvm.ClassFile.FieldType), Jvm.Cond.code ({ cls := "com/example/sidetrack/sidetrack/codec/BerReader$Element", name := "contents", desc := "()Lcom/example/sidetrack/sidetrack/codec/BerReader;" } : Jvm.MethodName) prog_14_method_9_code (1 : Nat) (Option.some (Jvm.ClassFile.FieldType.object "com/example/sidetrack/sidetrack/codec/BerReader")), Jvm.Cond.code ({ cls := "com/example/sidetrack/sidetrack/codec/BerReader", name := "rest", desc := "()[B" } : Jvm.MethodName) prog_13_method_6_code (2 : Nat) (Option.some (Jvm.ClassFile.FieldType.array Jvm.ClassFile.FieldType.byte)), Jvm.Cond.code ({ cls := "java/util/Arrays", name := "copyOfRange", desc := "([BII)[B" } : Jvm.MethodName) jdk_65_method_132_code (3 : Nat) (Option.some (Jvm.ClassFile.FieldType.array Jvm.ClassFile.FieldType.byte)), Jvm.Cond.code ({ cls := "java/util/Arrays", name := "copyOfRangeByte", desc := "([BII)[B" } : Jvm.MethodName) jdk_65_method_133_code (5 : Nat) (Option.some (Jvm.ClassFile.FieldType.array Jvm.ClassFile.FieldType.byte)), Jvm.Cond.code ({ cls := "java/util/Arrays", name := "checkLength", desc := "(II)V" } : Jvm.MethodName) jdk_65_method_131_code (2 : Nat) (Option.none : Option Jvm.ClassFile.FieldType), Jvm.Cond.code ({ cls := "java/lang/Math", name := "min", desc := "(II)I" } : Jvm.MethodName) jdk_29_method_69_code (2 : Nat) (Option.some Jvm.ClassFile.FieldType.int)]
set_option maxRecDepth 65536 in
theorem codes_eq : words1.filter isCode = codes1 := rfl
theorem w_codes : ∀ c ∈ words1.filter isCode, c.before args0 about1 = true := by
  rw [codes_eq]
  intro c hc
  simp only [codes1, List.mem_cons, List.not_mem_nil, or_false] at hc
  rcases hc with rfl | rfl | rfl | rfl | rfl | rfl | rfl | rfl | rfl | rfl | rfl | rfl | rfl | rfl | rfl
  · exact w_c0
  · exact w_c1
  · exact w_c2
  · exact w_c3
  · exact w_c4
  · exact w_c5
  · exact w_c6
  · exact w_c7
  · exact w_c8
  · exact w_c9
  · exact w_c10
  · exact w_c11
  · exact w_c12
  · exact w_c13
  · exact w_c14
set_option maxRecDepth 65536 in
theorem w_t1 : (words1.take 24).all (fun c => isCode c || c.before args0 about1) = true := by decide +kernel
set_option maxRecDepth 65536 in
theorem w_t2 : ((words1.drop 24).take 24).all (fun c => isCode c || c.before args0 about1) = true := by decide +kernel
set_option maxRecDepth 65536 in
theorem w_t3 : (((words1.drop 24).drop 24).take 24).all (fun c => isCode c || c.before args0 about1) = true := by decide +kernel
set_option maxRecDepth 65536 in
theorem w_t4 : (((words1.drop 24).drop 24).drop 24).all (fun c => isCode c || c.before args0 about1) = true := by decide +kernel
theorem w_tables : (allAtoms (Jvm.Cond.code x code maxLocals ret :: tables_1)).before args0 about1 = true := by
  rw [allAtoms_all]
  show words1.all (fun c => c.before args0 about1) = true
  refine all_split ?_ w_codes
  rw [← List.take_append_drop 24 words1, List.all_append, w_t1, ← List.take_append_drop 24 (words1.drop 24), List.all_append, w_t2, ← List.take_append_drop 24 ((words1.drop 24).drop 24), List.all_append, w_t3, w_t4]
  rfl
set_option maxRecDepth 65536 in
theorem w_case : (Jvm.Cond.and given_1 narrow_1).before args0 about1 = true := by decide +kernel
theorem w_applies : (headSpec (Jvm.Cond.code x code maxLocals ret :: tables_1) room_1).applies x e0.platform about1 = true :=
  (Spec.applies_iff w_frames).mpr ⟨w_running, w_runnable, w_alone, w_named, w_hears, w_ripe, w_room, w_tables⟩
theorem atStart : AtStart classFile x code maxLocals ret World_1 tables_1 room_1 Calls_1 rest_1 Pre_1 launch0 p0 e0 about1 theMethod args0 below0 :=
  ⟨lists_1, trivial, launch0.admits_env _ _ _, launch0.least_env, fairChoices_fair.cas, fairChoices_fair.clock, w_frames, w_args, w_heap, w_applies, trivial, trivial, w_case⟩
end start1
theorem witness_1 : WitnessClaimed_1 := ⟨start1.p0, start1.e0, start1.about1, start1.theMethod, start1.args0, start1.below0, start1.atStart⟩
end Jvm.Pilot.@@N@@
