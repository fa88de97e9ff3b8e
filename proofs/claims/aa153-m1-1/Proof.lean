import JvmDerived
import JvmDerived.Pilot.@@N@@Statement
import JvmDerived.Pilot.@@N@@Code
set_option linter.unusedVariables false
set_option linter.unusedSimpArgs false
namespace Jvm.Own
open Jvm Jvm.ClassFile Sem Op Lib Jvm.Free Jvm.Stand Jvm.LawKit Jvm.RoadKit
/-! ## A heap told by a list: each new object or array by its address and what its cell is -/
abbrev Des : Type := State → Cell → Prop
abbrev RL : Type := List (Addr × Des)
/-- an object of class C, its fields (name, descriptor, value), all declared in C -/
def Obj (C : String) (fs : List (String × String × Value)) : Des := fun Z c =>
  Exa Z (#[c] : Heap) 0 C ∧ (∀ (j : Nat) (x : String × String × Value), fs[j]? = some x → Fld Z (#[c] : Heap) 0 C x.1 x.2.1 x.2.2) ∧
  ∀ (i j : Nat) (x y : String × String × Value), i ≠ j → fs[i]? = some x → fs[j]? = some y → Jvm.RoadKit.slotOf Z C x.1 x.2.1 ≠ Jvm.RoadKit.slotOf Z C y.1 y.2.1
/-- an array of ty, all its values -/
def Ar (ty : FieldType) (vs : List Value) : Des := fun Z c => Z.isArrayOf c ty ∧ c.vm ≠ .unknown ∧ c.slots.toList = vs ∧ (∀ v ∈ vs, fits ty v = true) ∧ Exa Z (#[c] : Heap) 0 ("[" ++ ty.toString)
/-- every one of L lies in h, at or behind n0, no two at one place -/
def Rep (Z : State) (n0 : Nat) (h : Heap) (L : RL) : Prop := n0 ≤ h.size ∧ (L.map (·.1)).Nodup ∧ ∀ x ∈ L, n0 ≤ x.1 ∧ ∃ c : Cell, h[x.1]? = some c ∧ x.2 Z c
section Facts
variable {Z : State} {n0 : Nat} {h h' : Heap} {L : RL} {a : Addr} {c : Cell} {C n d : String} {v w : Value} {i j : Nat} {fs : List (String × String × Value)} {P P' : Des} {ty : FieldType} {vs : List Value}
theorem one_eq {c c' : Cell} (q : (#[c] : Heap)[0]? = some c') : c' = c := by simpa using q.symm
theorem fld_of (hc : h[a]? = some c) (F : Fld Z (#[c] : Heap) 0 C n d v) : Fld Z h a C n d v := by
  obtain ⟨cell, cf, k, i, f, h1, r⟩ := F
  cases one_eq h1
  exact ⟨_, cf, k, i, f, hc, r⟩
theorem fld_to (hc : h[a]? = some c) (F : Fld Z h a C n d v) : Fld Z (#[c] : Heap) 0 C n d v := by
  obtain ⟨cell, cf, k, i, f, h1, r⟩ := F
  cases hc.symm.trans h1
  exact ⟨_, cf, k, i, f, rfl, r⟩
theorem exa_of (hc : h[a]? = some c) (F : Exa Z (#[c] : Heap) 0 C) : Exa Z h a C := by
  obtain ⟨cell, k, h1, r⟩ := F
  cases one_eq h1
  exact ⟨_, k, hc, r⟩
theorem exa_to (hc : h[a]? = some c) (F : Exa Z h a C) : Exa Z (#[c] : Heap) 0 C := by
  obtain ⟨cell, k, h1, r⟩ := F
  cases hc.symm.trans h1
  exact ⟨_, k, rfl, r⟩
theorem Rep.nil (h : Heap) : Rep Z h.size h [] := ⟨Nat.le_refl _, List.nodup_nil, fun _ q => nomatch q⟩
theorem Rep.at (R : Rep Z n0 h L) (hi : L[i]? = some (a, P)) : n0 ≤ a ∧ ∃ c : Cell, h[a]? = some c ∧ P Z c := R.2.2 _ (List.mem_of_getElem? hi)
theorem Rep.ge (R : Rep Z n0 h L) (hi : L[i]? = some (a, P)) : n0 ≤ a := (R.at hi).1
theorem Rep.fld (R : Rep Z n0 h L) (hi : L[i]? = some (a, Obj C fs)) (hj : fs[j]? = some (n, d, v)) : Fld Z h a C n d v := by
  obtain ⟨-, c, hc, -, F, -⟩ := R.at hi
  exact fld_of hc (F j _ hj)
theorem Rep.exa (R : Rep Z n0 h L) (hi : L[i]? = some (a, Obj C fs)) : Exa Z h a C := by
  obtain ⟨-, c, hc, E, -⟩ := R.at hi
  exact exa_of hc E
theorem Rep.arr (R : Rep Z n0 h L) (hi : L[i]? = some (a, Ar ty vs)) : ∃ cl : Cell, Arr Z h a cl ty ∧ cl.slots.toList = vs := by
  obtain ⟨-, c, hc, A, B, V, -⟩ := R.at hi
  exact ⟨c, ⟨hc, A, B⟩, V⟩
theorem Rep.arr' (R : Rep Z n0 h L) (hi : L[i]? = some (a, Ar ty vs)) : ∃ cl : Cell, Arr Z h a cl ty ∧ cl.slots.toList = vs ∧ (∀ v ∈ vs, fits ty v = true) ∧ Exa Z h a ("[" ++ ty.toString) := by
  obtain ⟨-, c, hc, A, B, V, F, E⟩ := R.at hi
  exact ⟨c, ⟨hc, A, B⟩, V, F, exa_of hc E⟩
theorem wr_one {sl : Nat} (hc : h[a]? = some c) (W : Wr h h' a sl v) : Wr (#[c] : Heap) (#[c.setSlot sl v] : Heap) 0 sl v := by
  obtain ⟨cell, h1, h2, h3, -⟩ := W
  cases hc.symm.trans h1
  exact ⟨_, rfl, h2, h3, rfl⟩
theorem Rep.upd {sl : Nat} (R : Rep Z n0 h L) (hi : L[i]? = some (a, P)) (W : Wr h h' a sl v) (hP : ∀ c : Cell, h[a]? = some c → P Z c → P' Z (c.setSlot sl v)) : Rep Z n0 h' (L.set i (a, P')) := by
  have em : (L.set i (a, P')).map (·.1) = L.map (·.1) := by
    rw [List.map_set]
    apply List.ext_getElem?
    intro k
    rw [List.getElem?_set]
    split
    · rename_i e; subst e
      split
      · simp [hi]
      · rename_i e; simp only [List.length_map] at e; simp [List.getElem?_eq_none (Nat.le_of_not_lt e)]
    · rfl
  have il : i < L.length := (List.getElem?_eq_some_iff.mp hi).1
  refine ⟨by rw [W.size]; exact R.1, by rw [em]; exact R.2.1, fun x hx => ?_⟩
  obtain ⟨k, hk⟩ := List.mem_iff_getElem?.mp hx
  rw [List.getElem?_set] at hk
  split at hk
  · rename_i e; subst e
    cases hk
    obtain ⟨g, c, hc, p⟩ := R.at hi
    obtain ⟨c', e1, -, -, -, -, -, e7⟩ := wr_at W hc
    exact ⟨g, c', e1, by rw [(e7 rfl).1]; exact hP c hc p⟩
  · rename_i e
    obtain ⟨g, c, hc, p⟩ := R.2.2 x (List.mem_of_getElem? hk)
    have ne : x.1 ≠ a := fun q => by
      refine e ((List.getElem?_inj (l := L.map (·.1)) (by simpa using il) R.2.1).mp ?_)
      simp [hi, hk, q]
    obtain ⟨c', e1, -, -, -, e5, -⟩ := wr_at W hc
    exact ⟨g, c', e1, by rw [e5 ne]; exact p⟩
theorem Rep.put (R : Rep Z n0 h L) (hi : L[i]? = some (a, Obj C fs)) (hj : fs[j]? = some (n, d, w)) (W : Wr h h' a (Jvm.RoadKit.slotOf Z C n d) v) : Rep Z n0 h' (L.set i (a, Obj C (fs.set j (n, d, v)))) := by
  refine R.upd hi W fun c hc ⟨E, F, S⟩ => ?_
  have W1 := wr_one hc W
  have jl : j < fs.length := (List.getElem?_eq_some_iff.mp hj).1
  have key : ∀ (k : Nat) (x : String × String × Value), (fs.set j (n, d, v))[k]? = some x → ∃ y, fs[k]? = some y ∧ y.1 = x.1 ∧ y.2.1 = x.2.1 ∧ (k ≠ j → y = x) ∧ (k = j → x = (n, d, v)) := by
    intro k x hk
    rw [List.getElem?_set] at hk
    split at hk
    · rename_i e; subst e
      have hx := (Option.some.inj hk).symm
      exact ⟨(n, d, w), hj, by rw [hx], by rw [hx], fun q => absurd rfl q, fun _ => hx⟩
    · rename_i e
      exact ⟨x, hk, rfl, rfl, fun _ => rfl, fun q => absurd q.symm e⟩
  refine ⟨E.wr W1, fun k x hk => ?_, fun k k' x y ne hk hk' => ?_⟩
  · obtain ⟨y, y1, y2, y3, y4, y5⟩ := key k x hk
    by_cases e : k = j
    · subst e
      have hx := y5 rfl
      rw [hx]
      exact (F _ _ hj).same W1
    · have hx := y4 e
      subst hx
      have s : Jvm.RoadKit.slotOf Z C y.1 y.2.1 ≠ Jvm.RoadKit.slotOf Z C n d := S k j y (n, d, w) e y1 hj
      exact Fld.other W1 (F k y y1) (Or.inr s)
  · have kx := key k x hk
    have ky := key k' y hk'
    obtain ⟨x', x1, x2, x3, _⟩ := kx
    obtain ⟨y', y1, y2, y3, _⟩ := ky
    have := S k k' x' y' ne x1 y1
    rw [x2, x3, y2, y3] at this
    exact this
theorem Rep.sto {k : Nat} (R : Rep Z n0 h L) (hi : L[i]? = some (a, Ar ty vs)) (W : Wr h h' a k v) (hf : fits ty v = true) : Rep Z n0 h' (L.set i (a, Ar ty (vs.set k v))) := by
  refine R.upd hi W fun c hc ⟨A, B, V, F, E⟩ => ⟨A, B, ?_, fun x hx => ?_, E.wr (wr_one hc W)⟩
  · show (c.slots.setIfInBounds k v).toList = _
    rw [Array.toList_setIfInBounds, V]
  · rcases List.mem_or_eq_of_mem_set hx with q | q
    · exact F x q
    · rw [q]; exact hf
theorem Rep.add (R : Rep Z n0 h L) (E : Ext h h') (g : a = h.size) (hc : h'[a]? = some c) (p : P Z c) : Rep Z n0 h' ((a, P) :: L) := by
  refine ⟨Nat.le_trans R.1 E.1, ?_, fun x hx => ?_⟩
  · rw [List.map_cons, List.nodup_cons]
    refine ⟨fun q => ?_, R.2.1⟩
    obtain ⟨x, hx, e⟩ := List.mem_map.mp q
    obtain ⟨-, c, hc, -⟩ := R.2.2 x hx
    have := (Array.getElem?_eq_some_iff.mp hc).1
    exact absurd (e.trans g) (Nat.ne_of_lt this)
  · rcases List.mem_cons.mp hx with rfl | hx
    · exact ⟨g ▸ R.1, c, hc, p⟩
    · obtain ⟨q, c, hc, p⟩ := R.2.2 x hx
      exact ⟨q, c, E.2 _ _ hc, p⟩
theorem Rep.ext (R : Rep Z n0 h L) (E : Ext h h') : Rep Z n0 h' L := ⟨Nat.le_trans R.1 E.1, R.2.1, fun x hx => by
  obtain ⟨q, c, hc, p⟩ := R.2.2 x hx
  exact ⟨q, c, E.2 _ _ hc, p⟩⟩
theorem perm_front {α : Type} : ∀ (L : List α) (i : Nat) (x : α), L[i]? = some x → (x :: L.eraseIdx i).Perm L
  | [], _, _, q => nomatch q
  | y :: t, 0, x, q => by cases q; exact List.Perm.refl _
  | y :: t, i + 1, x, q => by
    have ih := perm_front t i x (by simpa using q)
    exact (List.Perm.swap y x (t.eraseIdx i)).trans (ih.cons y)
theorem Rep.front {x : Addr × Des} {L' : RL} (R : Rep Z n0 h L) (i : Nat) (hi : L[i]? = some x) (e : L.eraseIdx i = L') : Rep Z n0 h (x :: L') := by
  subst e
  have pm : (x :: L.eraseIdx i).Perm L := perm_front L i x hi
  exact ⟨R.1, (pm.map _).nodup_iff.mpr R.2.1, fun y hy => R.2.2 y (pm.mem_iff.mp hy)⟩
theorem Rep.tail {x : Addr × Des} (R : Rep Z n0 h (x :: L)) : Rep Z n0 h L := ⟨R.1, (List.nodup_cons.mp (by simpa using R.2.1)).2, fun y hy => R.2.2 y (List.mem_cons_of_mem _ hy)⟩
/-- what the sheet says of the fields of a new object, one by one -/
def LaidAll (Z : State) (a0 : Array Value) (C : String) : List (String × String × Value) → Prop
  | [] => True
  | x :: r => (Laid Z a0 C C x.1 x.2.1 ∧ ∃ ty, parseFieldDescriptor x.2.1 = some ty ∧ x.2.2 = defaultValue ty) ∧ LaidAll Z a0 C r
theorem LaidAll.mem {a0 : Array Value} : ∀ {fs : List (String × String × Value)}, LaidAll Z a0 C fs → ∀ x ∈ fs, Laid Z a0 C C x.1 x.2.1 ∧ ∃ ty, parseFieldDescriptor x.2.1 = some ty ∧ x.2.2 = defaultValue ty
  | [], _, _, hx => nomatch hx
  | y :: r, q, x, hx => (List.mem_cons.mp hx).elim (fun e => e ▸ q.1) (LaidAll.mem q.2 x)
theorem Rep.newO {a0 : Array Value} (R : Rep Z n0 h L) (E : Ext h h') (g : a = h.size) (A : Exa Z h' a C) (D : ∀ {O nm d : String} {ty : FieldType}, Laid Z a0 C O nm d → parseFieldDescriptor d = some ty → Fld Z h' a O nm d (defaultValue ty)) (hl : LaidAll Z a0 C fs) (hn : (fs.map (·.1)).Nodup) : Rep Z n0 h' ((a, Obj C fs) :: L) := by
  obtain ⟨c, k, hc, r⟩ := id A
  refine R.add E g hc ⟨exa_to hc A, fun j x hx => ?_, fun i j x y ne hx hy e => ?_⟩
  · obtain ⟨l, ty, p, q⟩ := hl.mem x (List.mem_of_getElem? hx)
    rw [q]; exact fld_to hc (D l p)
  · obtain ⟨l, ty, p, q⟩ := hl.mem x (List.mem_of_getElem? hx)
    obtain ⟨l', ty', p', q'⟩ := hl.mem y (List.mem_of_getElem? hy)
    refine slot_ne l l' (fun en => ne ?_) p p' e
    refine (List.getElem?_inj (l := fs.map (·.1)) (by simpa using (List.getElem?_eq_some_iff.mp hx).1) hn).mp ?_
    simp [hx, hy, en]
theorem Rep.newAr {z : Int32} {k : ClassId} (R : Rep Z n0 h L) (E : Ext h h') (g : a = h.size) (A : Arr Z h' a (newA k ty z) ty) (X : Exa Z h' a ("[" ++ ty.toString)) (hf : fits ty (defaultValue ty) = true) (hv : List.replicate z.toNatClampNeg (defaultValue ty) = vs) : Rep Z n0 h' ((a, Ar ty vs) :: L) := by
  refine R.add E g A.1 ⟨A.2.1, A.2.2, ?_, fun v hq => ?_, exa_to A.1 X⟩
  · rw [← hv]; simp [newA]
  · rw [← hv] at hq; rw [List.eq_of_mem_replicate hq]; exact hf
theorem in_of {cl : Cell} {q : Int32} (V : cl.slots.toList = vs) (hq : ¬ q < 0) (hv : q.toNatClampNeg < vs.length) : ¬ (q < 0 ∨ cl.slots.size ≤ q.toNatClampNeg) := by
  rintro (q1 | q1)
  · exact hq q1
  · rw [← V, Array.length_toList] at hv; omega
theorem at_of {cl : Cell} {k : Nat} (V : cl.slots.toList = vs) (hv : vs[k]? = some v) : cl.slots[k]? = some v := by
  rw [← hv, ← V, Array.getElem?_toList]
theorem lt_of {k : Nat} (hv : vs[k]? = some v) : k < vs.length := (List.getElem?_eq_some_iff.mp hv).1
end Facts
/-! ## One law a step -/
section Steps
variable {p : Program} {l : Launch} {e : Env} {R : Room} {s : State} {m : MethodId} {args : Array Value} {below : List Frame} {meth : Method} {c : Code} {T : State} {locs : List Loc} {cells slots : Nat} {Z : State} {a0 : Array Value} {h : Heap} {n0 : Nat} {L : RL}
theorem gGet (X : Stand p l e R s m args below meth c T locs cells slots) (hx : p.tables.exec = Jvm.exec) (hZ : Z.Warmed39 s.vm) {own C n d host : String} {index : Nat} (hown : s.vm.findClass own = some m.cls) (w : (Cond.fieldLink own index C n d).before a0 Z = true ∨ (Cond.fieldLinkNest own index C n d host).before a0 Z = true)
    (eT : T.heap = h) (Q : Rep Z n0 h L) (i j : Nat) {a : Addr} {fs : List (String × String × Value)} {v : Value} (hi : L[i]? = some (a, Obj C fs)) (hj : fs[j]? = some (n, d, v)) {g : JFrame} (hg : g.method = m) {rest : List Value} (hs : g.stack = .ref a :: rest) (hd : decode c.code g.pc = .ok (.getfield index, 3)) :
    ∃ T', Stand p l e R s m args below meth c T' locs cells slots ∧ T'.heap = h ∧ ∀ target, Steps p.tables e below (T'.setTop { g with pc := g.pc + 3, stack := v :: rest }) target → Steps p.tables e below (T.setTop g) target :=
  getF X hx hZ hown w Via.refl eT (Q.fld hi hj) hg hs hd
theorem gPut (X : Stand p l e R s m args below meth c T locs cells slots) (hx : p.tables.exec = Jvm.exec) (hZ : Z.Warmed39 s.vm) {own C n d host : String} {index kk : Nat} {ty : FieldType} (hown : s.vm.findClass own = some m.cls) (w : (Cond.fieldLink own index C n d).before a0 Z = true ∨ (Cond.fieldLinkNest own index C n d host).before a0 Z = true)
    (eT : T.heap = h) (N : Fr n0 locs) (Q : Rep Z n0 h L) (i j : Nat) {a : Addr} {fs : List (String × String × Value)} {v old : Value} (hi : L[i]? = some (a, Obj C fs)) (hj : fs[j]? = some (n, d, old))
    (Lw : (Cond.lays C C n d).before a0 Z = true ∨ ((Cond.laysFinal C C n d).before a0 Z = true ∧ own = C ∧ meth.name = "<init>")) (wi : (Cond.instantiable C kk).before a0 Z = true)
    (hty : parseFieldDescriptor d = some ty) (hn : narrow ty v = v) (hf : fits ty v = true) {g : JFrame} (hg : g.method = m) {rest : List Value} (hs : g.stack = v :: .ref a :: rest) (hd : decode c.code g.pc = .ok (.putfield index, 3)) :
    ∃ T' h' locs', Stand p l e R s m args below meth c T' locs' cells slots ∧ T'.heap = h' ∧ Fr n0 locs' ∧ Rep Z n0 h' (L.set i (a, Obj C (fs.set j (n, d, v)))) ∧ ∀ target, Steps p.tables e below (T'.setTop { g with pc := g.pc + 3, stack := rest }) target → Steps p.tables e below (T.setTop g) target := by
  obtain ⟨T', h', X', e', W, st⟩ := putF X hx hZ hown w Via.refl eT (Q.fld hi hj) (Q.exa hi) Lw wi hty hn hf hg hs hd
  exact ⟨T', h', _, X', e', Fr.snoc X' N (Q.ge hi), Q.put hi hj W, st⟩
theorem gNew (X : Stand p l e R s m args below meth c T locs cells slots) (hx : p.tables.exec = Jvm.exec) (hZ : Z.Warmed39 s.vm) {own C : String} {index n : Nat} (hown : s.vm.findClass own = some m.cls) (w : (Cond.classLink own index C).before a0 Z = true) (wi : (Cond.instantiable C n).before a0 Z = true) (wz : (Cond.initialized C).before a0 Z = true)
    (eT : T.heap = h) (Q : Rep Z n0 h L) {fs : List (String × String × Value)} (hl : LaidAll Z a0 C fs) (hn : (fs.map (·.1)).Nodup) {g : JFrame} (hg : g.method = m) (hd : decode c.code g.pc = .ok (.new index, 3)) (hc : cells + 1 ≤ R.cells) (hs : slots + n ≤ R.slots) :
    ∃ T' h' a, Stand p l e R s m args below meth c T' locs (cells + 1) (slots + n) ∧ T'.heap = h' ∧ Rep Z n0 h' ((a, Obj C fs) :: L) ∧ ∀ target, Steps p.tables e below (T'.setTop { g with pc := g.pc + 3, stack := .ref a :: g.stack }) target → Steps p.tables e below (T.setTop g) target := by
  obtain ⟨T', h', X', e', E, A, D, -, st⟩ := newO X hx hZ hown w wi wz eT hg hd hc hs
  exact ⟨T', h', _, X', e', Q.newO E rfl A D hl hn, st⟩
theorem gNewP (X : Stand p l e R s m args below meth c T locs cells slots) (hx : p.tables.exec = Jvm.exec) (hZ : Z.Warmed39 s.vm) {aty : ArrayType} (w : (Cond.arrayClass (newarray.typeOf aty)).before a0 Z = true)
    (eT : T.heap = h) (Q : Rep Z n0 h L) {g : JFrame} (hg : g.method = m) (hd : decode c.code g.pc = .ok (.newarray aty, 2)) {n : Int32} {rest : List Value} (hs : g.stack = .int n :: rest) (hn : ¬ n < 0) (cap : Nat) (hcap : n.toNatClampNeg ≤ cap) (hb : cap * 8 ≤ 536870912) (hc : cells + 1 ≤ R.cells) (hl : slots + cap ≤ R.slots)
    {vs : List Value} (hv : List.replicate n.toNatClampNeg (defaultValue (newarray.typeOf aty)) = vs) :
    ∃ T' h' a, Stand p l e R s m args below meth c T' locs (cells + 1) (slots + cap) ∧ T'.heap = h' ∧ Rep Z n0 h' ((a, Ar (newarray.typeOf aty) vs) :: L) ∧ ∀ target, Steps p.tables e below (T'.setTop { g with pc := g.pc + 2, stack := .ref a :: rest }) target → Steps p.tables e below (T.setTop g) target := by
  obtain ⟨T', h', cA, X', e', E, A, EX, st⟩ := newPE X hx hZ w eT hg hd hs hn hcap hb hc hl rfl
  exact ⟨T', h', _, X', e', Q.newAr E rfl A EX (by cases aty <;> rfl) hv, st⟩
theorem gLen (X : Stand p l e R s m args below meth c T locs cells slots) (hx : p.tables.exec = Jvm.exec) (hZ : Z.Warmed39 s.vm) (eT : T.heap = h) (Q : Rep Z n0 h L) (i : Nat) {a : Addr} {ty : FieldType} {vs : List Value} (hi : L[i]? = some (a, Ar ty vs))
    {g : JFrame} (hg : g.method = m) {rest : List Value} (hs : g.stack = .ref a :: rest) (hd : decode c.code g.pc = .ok (.arraylength, 1)) {z : Int32} (hz : Int32.ofNat vs.length = z) :
    ∀ target, Steps p.tables e below (T.setTop { g with pc := g.pc + 1, stack := .int z :: rest }) target → Steps p.tables e below (T.setTop g) target := by
  obtain ⟨cl, A, V⟩ := Q.arr hi
  intro target k
  refine X.arraylength hx (cell := cl) (by rw [eT]; exact A.1) (State.isArrayOf_alike hZ.alike A.2.1) hg hs hd _ ?_
  have q : cl.slots.size.toInt32 = z := by rw [← hz, ← V, Array.length_toList]
  rw [q]; exact k
theorem gIald (X : Stand p l e R s m args below meth c T locs cells slots) (hx : p.tables.exec = Jvm.exec) (hZ : Z.Warmed39 s.vm) (eT : T.heap = h) (Q : Rep Z n0 h L) (i : Nat) {a : Addr} {vs : List Value} (hi : L[i]? = some (a, Ar .int vs))
    {j : Int32} {v : Value} (hj : ¬ j < 0) (hv : vs[j.toNatClampNeg]? = some v) {g : JFrame} (hg : g.method = m) {rest : List Value} (hs : g.stack = .int j :: .ref a :: rest) (hd : decode c.code g.pc = .ok (.iaload, 1)) :
    ∀ target, Steps p.tables e below (T.setTop { g with pc := g.pc + 1, stack := v :: rest }) target → Steps p.tables e below (T.setTop g) target := by
  obtain ⟨cl, A, V⟩ := Q.arr hi
  intro target k
  exact X.iaload hx (by rw [eT]; exact A.1) (State.isArrayOf_alike hZ.alike A.2.1) A.2.2 (in_of V hj (lt_of hv)) (at_of V hv) hg hs hd _ k
theorem gLald (X : Stand p l e R s m args below meth c T locs cells slots) (hx : p.tables.exec = Jvm.exec) (hZ : Z.Warmed39 s.vm) (eT : T.heap = h) (Q : Rep Z n0 h L) (i : Nat) {a : Addr} {vs : List Value} (hi : L[i]? = some (a, Ar .long vs))
    {j : Int32} {v : Value} (hj : ¬ j < 0) (hv : vs[j.toNatClampNeg]? = some v) {g : JFrame} (hg : g.method = m) {rest : List Value} (hs : g.stack = .int j :: .ref a :: rest) (hd : decode c.code g.pc = .ok (.laload, 1)) :
    ∀ target, Steps p.tables e below (T.setTop { g with pc := g.pc + 1, stack := v :: rest }) target → Steps p.tables e below (T.setTop g) target := by
  obtain ⟨cl, A, V⟩ := Q.arr hi
  intro target k
  exact X.laload hx (by rw [eT]; exact A.1) (State.isArrayOf_alike hZ.alike A.2.1) A.2.2 (in_of V hj (lt_of hv)) (at_of V hv) hg hs hd _ k
theorem gBald (X : Stand p l e R s m args below meth c T locs cells slots) (hx : p.tables.exec = Jvm.exec) (hZ : Z.Warmed39 s.vm) (eT : T.heap = h) (Q : Rep Z n0 h L) (i : Nat) {a : Addr} {vs : List Value} (hi : L[i]? = some (a, Ar .byte vs))
    {j : Int32} {v : Value} (hj : ¬ j < 0) (hv : vs[j.toNatClampNeg]? = some v) {g : JFrame} (hg : g.method = m) {rest : List Value} (hs : g.stack = .int j :: .ref a :: rest) (hd : decode c.code g.pc = .ok (.baload, 1)) :
    ∀ target, Steps p.tables e below (T.setTop { g with pc := g.pc + 1, stack := v :: rest }) target → Steps p.tables e below (T.setTop g) target := by
  obtain ⟨cl, A, V⟩ := Q.arr hi
  intro target k
  exact X.baloadBytes hx (by rw [eT]; exact A.1) (State.isArrayOf_alike hZ.alike A.2.1) A.2.2 (in_of V hj (lt_of hv)) (at_of V hv) hg hs hd _ k
theorem gIst (X : Stand p l e R s m args below meth c T locs cells slots) (hx : p.tables.exec = Jvm.exec) (hZ : Z.Warmed39 s.vm) (eT : T.heap = h) (N : Fr n0 locs) (Q : Rep Z n0 h L) (i : Nat) {a : Addr} {vs : List Value} (hi : L[i]? = some (a, Ar .int vs))
    {j x : Int32} (hj : ¬ j < 0) (k : Nat) (hk : j.toNatClampNeg = k) (hv : k < vs.length) {g : JFrame} (hg : g.method = m) {rest : List Value} (hs : g.stack = .int x :: .int j :: .ref a :: rest) (hd : decode c.code g.pc = .ok (.iastore, 1)) :
    ∃ T' h' locs', Stand p l e R s m args below meth c T' locs' cells slots ∧ T'.heap = h' ∧ Fr n0 locs' ∧ Rep Z n0 h' (L.set i (a, Ar .int (vs.set k (.int x)))) ∧ ∀ target, Steps p.tables e below (T'.setTop { g with pc := g.pc + 1, stack := rest }) target → Steps p.tables e below (T.setTop g) target := by
  obtain ⟨cl, A, V⟩ := Q.arr hi
  subst hk
  obtain ⟨T', h', X', e', W, st⟩ := stI X hx hZ eT A (j := j) (x := x) (in_of V hj hv) hg hs hd
  exact ⟨T', h', _, X', e', Fr.snoc X' N (Q.ge hi), Q.sto hi W rfl, st⟩
theorem gLst (X : Stand p l e R s m args below meth c T locs cells slots) (hx : p.tables.exec = Jvm.exec) (hZ : Z.Warmed39 s.vm) (eT : T.heap = h) (N : Fr n0 locs) (Q : Rep Z n0 h L) (i : Nat) {a : Addr} {vs : List Value} (hi : L[i]? = some (a, Ar .long vs))
    {j : Int32} {x : Int64} (hj : ¬ j < 0) (k : Nat) (hk : j.toNatClampNeg = k) (hv : k < vs.length) {g : JFrame} (hg : g.method = m) {rest : List Value} (hs : g.stack = .long x :: .int j :: .ref a :: rest) (hd : decode c.code g.pc = .ok (.lastore, 1)) :
    ∃ T' h' locs', Stand p l e R s m args below meth c T' locs' cells slots ∧ T'.heap = h' ∧ Fr n0 locs' ∧ Rep Z n0 h' (L.set i (a, Ar .long (vs.set k (.long x)))) ∧ ∀ target, Steps p.tables e below (T'.setTop { g with pc := g.pc + 1, stack := rest }) target → Steps p.tables e below (T.setTop g) target := by
  obtain ⟨cl, A, V⟩ := Q.arr hi
  subst hk
  obtain ⟨T', h', X', e', W, st⟩ := stJ X hx hZ eT A (j := j) (x := x) (in_of V hj hv) hg hs hd
  exact ⟨T', h', _, X', e', Fr.snoc X' N (Q.ge hi), Q.sto hi W rfl, st⟩
theorem gBst (X : Stand p l e R s m args below meth c T locs cells slots) (hx : p.tables.exec = Jvm.exec) (hZ : Z.Warmed39 s.vm) (eT : T.heap = h) (N : Fr n0 locs) (Q : Rep Z n0 h L) (i : Nat) {a : Addr} {vs : List Value} (hi : L[i]? = some (a, Ar .byte vs))
    {j x : Int32} (hj : ¬ j < 0) (k : Nat) (hk : j.toNatClampNeg = k) (hv : k < vs.length) {g : JFrame} (hg : g.method = m) {rest : List Value} (hs : g.stack = .int x :: .int j :: .ref a :: rest) (hd : decode c.code g.pc = .ok (.bastore, 1)) :
    ∃ T' h' locs', Stand p l e R s m args below meth c T' locs' cells slots ∧ T'.heap = h' ∧ Fr n0 locs' ∧ Rep Z n0 h' (L.set i (a, Ar .byte (vs.set k (.int x.toInt8.toInt32)))) ∧ ∀ target, Steps p.tables e below (T'.setTop { g with pc := g.pc + 1, stack := rest }) target → Steps p.tables e below (T.setTop g) target := by
  obtain ⟨cl, A, V⟩ := Q.arr hi
  subst hk
  obtain ⟨T', h', X', e', W, st⟩ := stB X hx hZ eT A (j := j) (x := x) (in_of V hj hv) hg hs hd
  exact ⟨T', h', _, X', e', Fr.snoc X' N (Q.ge hi), Q.sto hi W (fits_nar_byte x), st⟩
theorem gClone (X : Stand p l e R s m args below meth c T locs cells slots) (hx : p.tables.exec = Jvm.exec) (hZ : Z.Warmed39 s.vm) {own ad : String} {index : Nat} (hown : s.vm.findClass own = some m.cls)
    (w1 : (Cond.methodLink own index ⟨ad, "clone", "()Ljava/lang/Object;"⟩).before a0 Z = true) (w2 : (Cond.sameMethod ad "java/lang/Object" "clone" "()Ljava/lang/Object;").before a0 Z = true) (w3 : (Cond.native ⟨"java/lang/Object", "clone", "()Ljava/lang/Object;"⟩).before a0 Z = true)
    (w4 : (Cond.instanceMethod ⟨"java/lang/Object", "clone", "()Ljava/lang/Object;"⟩).before a0 Z = true) (w5 : (Cond.selects ad ⟨ad, "clone", "()Ljava/lang/Object;"⟩ ⟨"java/lang/Object", "clone", "()Ljava/lang/Object;"⟩).before a0 Z = true) (w6 : (Cond.castable ad "java/lang/Cloneable").before a0 Z = true)
    (eT : T.heap = h) (Q : Rep Z n0 h L) (i : Nat) {a : Addr} {ty : FieldType} {vs : List Value} (hi : L[i]? = some (a, Ar ty vs)) (had : "[" ++ ty.toString = ad) {g : JFrame} (hg : g.method = m) (hsize : g.locals.size = c.maxLocals) {rest : List Value} (hs : g.stack = .ref a :: rest) (hd : decode c.code g.pc = .ok (.invokevirtual index, 3))
    (hf : 1 ≤ R.frames) {W : Nat} (cap : Nat) (hW : 2 * g.monitorRoom + (rest.map fun v => v.category).sum ≤ W) (hl : W + 14 ≤ R.locals) (hcap : vs.length ≤ cap) (hc : cells + 1 ≤ R.cells) (hsl : slots + cap ≤ R.slots) :
    ∃ T' h' b, Stand p l e R s m args below meth c T' locs (cells + 1) (slots + cap) ∧ T'.heap = h' ∧ Rep Z n0 h' ((b, Ar ty vs) :: L) ∧ Exa Z h' b ad ∧
      ∀ target, Steps p.tables e below (T'.setTop { g with pc := g.pc + 3, stack := .ref b :: rest }) target → Steps p.tables e below (T.setTop g) target := by
  subst had
  obtain ⟨cl, A, V, F, E⟩ := Q.arr' hi
  have FC : FitC Z cl := fitC_of A fun k hk v hv => F v (by rw [← V]; exact Array.mem_toList_iff.mpr (Array.mem_of_getElem? hv))
  obtain ⟨T', h', X', e', ex, A', E', st⟩ := cloneA X hx hZ hown w1 w2 w3 w4 w5 w6 eT A E FC hg hsize hs hd hf hW hl (by rw [← V, Array.length_toList] at hcap; exact hcap) hc hsl
  exact ⟨T', h', _, X', e', Q.add ex rfl A'.1 ⟨A'.2.1, A'.2.2, V, F, exa_to A'.1 E'⟩, E', st⟩
theorem gCast (X : Stand p l e R s m args below meth c T locs cells slots) (hx : p.tables.exec = Jvm.exec) (hZ : Z.Warmed39 s.vm) {own K : String} {index : Nat} (hown : s.vm.findClass own = some m.cls) (w : (Cond.classLink own index K).before a0 Z = true) (eT : T.heap = h) {a : Addr} (E : Exa Z h a K)
    {g : JFrame} (hg : g.method = m) {rest : List Value} (hs : g.stack = .ref a :: rest) (hd : decode c.code g.pc = .ok (.checkcast index, 3)) : ∃ T', Stand p l e R s m args below meth c T' locs cells slots ∧ T'.heap = h ∧ ∀ target, Steps p.tables e below (T'.setTop { g with pc := g.pc + 3 }) target → Steps p.tables e below (T.setTop g) target :=
  castY X hx hZ hown w eT (Ins.self E) hg hs hd
theorem arv_of {a : Addr} {ty : FieldType} {vs : List Value} {dv : Value} {cl : Cell} (A : Arr Z h a cl ty) (V : cl.slots.toList = vs) (F : ∀ v ∈ vs, fits ty v = true) (hl : vs.length < 2 ^ 31) : Arv Z h a cl.cls ty (Int32.ofNat vs.length) vs dv := by
  have q : (Int32.ofNat vs.length).toNatClampNeg = vs.length := by
    rw [Int32.toNatClampNeg, Int32.toInt_ofNat_of_lt hl]; rfl
  have S : cl.slots.size = vs.length := by rw [← V, Array.length_toList]
  have G : ∀ k, k < cl.slots.size → cl.slots[k]? = some (vs.getD k dv) := fun k hk => by
    rw [← Array.getElem?_toList, V, List.getD_eq_getElem?_getD, List.getElem?_eq_getElem (by omega)]; rfl
  refine ⟨cl, A, rfl, by rw [q, S], ?_, G, fun k hk => ?_⟩
  · rw [Int32.lt_iff_toInt_lt, Int32.toInt_ofNat_of_lt hl, show (0 : Int32).toInt = 0 from rfl]; omega
  · rw [List.getD_eq_getElem?_getD, List.getElem?_eq_getElem (by omega)]
    exact F _ (List.getElem_mem _)
theorem Rep.kept {h' : Heap} {i : Nat} {b : Addr} {P P' : Des} {cb : Cell} (Q : Rep Z n0 h L) (hi : L[i]? = some (b, P)) (K : Keep h h' [b]) (hc : h'[b]? = some cb) (p : P' Z cb) : Rep Z n0 h' (L.set i (b, P')) := by
  have em : (L.set i (b, P')).map (·.1) = L.map (·.1) := by
    rw [List.map_set]
    apply List.ext_getElem?
    intro k
    rw [List.getElem?_set]
    split
    · rename_i e; subst e
      split
      · simp [hi]
      · rename_i e; simp only [List.length_map] at e; simp [List.getElem?_eq_none (Nat.le_of_not_lt e)]
    · rfl
  have il : i < L.length := (List.getElem?_eq_some_iff.mp hi).1
  refine ⟨Nat.le_trans Q.1 K.1, by rw [em]; exact Q.2.1, fun x hx => ?_⟩
  obtain ⟨k, hk⟩ := List.mem_iff_getElem?.mp hx
  rw [List.getElem?_set] at hk
  split at hk
  · rename_i e; subst e
    cases hk
    exact ⟨Q.ge hi, cb, hc, p⟩
  · rename_i e
    obtain ⟨g, c, hc', p'⟩ := Q.2.2 x (List.mem_of_getElem? hk)
    have ne : x.1 ≠ b := fun q => by
      refine e ((List.getElem?_inj (l := L.map (·.1)) (by simpa using il) Q.2.1).mp ?_)
      simp [hi, hk, q]
    exact ⟨g, c, K.2.1 _ _ hc' (by simpa using ne), p'⟩
theorem gCopy (X : Stand p l e R s m args below meth c T locs cells slots) (hx : p.tables.exec = Jvm.exec) (hZ : Z.Warmed39 s.vm) {own : String} {index : Nat} (hown : s.vm.findClass own = some m.cls)
    (w1 : (Cond.methodLink own index Jvm.Stand.acN).before a0 Z = true) (w2 : (Cond.native Jvm.Stand.acN).before a0 Z = true) (w3 : (Cond.static Jvm.Stand.acN).before a0 Z = true) (w4 : (Cond.initialized "java/lang/System").before a0 Z = true) (eT : T.heap = h) (N : Fr n0 locs) (Q : Rep Z n0 h L) (i j : Nat)
    {a b : Addr} {ty : FieldType} {vs vd : List Value} (hi : L[i]? = some (a, Ar ty vs)) (hj : L[j]? = some (b, Ar ty vd)) (hty : refKind ty = false) (l1 : vs.length < 2 ^ 31) (l2 : vd.length < 2 ^ 31) {sp dp nn : Int32} (h1 : ¬ sp < 0) (h2 : ¬ dp < 0) (h3 : ¬ nn < 0) (si di ni : Nat) (es : sp.toNatClampNeg = si) (ed : dp.toNatClampNeg = di) (en : nn.toNatClampNeg = ni)
    (h4 : si + ni ≤ vs.length) (h5 : di + ni ≤ vd.length)
    {g : JFrame} (hg : g.method = m) (hsize : g.locals.size = c.maxLocals) {rest : List Value} (hs : g.stack = .int nn :: .int dp :: .ref b :: .int sp :: .ref a :: rest) (hd : decode c.code g.pc = .ok (.invokestatic index, 3))
    (hf : 1 ≤ R.frames) {W : Nat} (hW : 2 * g.monitorRoom + (rest.map fun v => v.category).sum ≤ W) (hlo : W + (nativeFrameWords "java/lang/System" "arraycopy" 5 + 11) ≤ R.locals) :
    ∃ T' h' L', Stand p l e R s m args below meth c T' L' cells slots ∧ T'.heap = h' ∧ Fr n0 L' ∧ Rep Z n0 h' (L.set j (b, Ar ty (vd.take di ++ (vs.drop si).take ni ++ vd.drop (di + ni)))) ∧
      ∀ target, Steps p.tables e below (T'.setTop { g with pc := g.pc + 3, stack := rest }) target → Steps p.tables e below (T.setTop g) target := by
  subst es ed en
  obtain ⟨ca, A, Va, Fa, Ea⟩ := Q.arr' hi
  obtain ⟨cb, B, Vb, Fb, Eb⟩ := Q.arr' hj
  have za : (Int32.ofNat vs.length).toNatClampNeg = vs.length := by rw [Int32.toNatClampNeg, Int32.toInt_ofNat_of_lt l1]; rfl
  have zb : (Int32.ofNat vd.length).toNatClampNeg = vd.length := by rw [Int32.toNatClampNeg, Int32.toInt_ofNat_of_lt l2]; rfl
  have hus : (vs.drop sp.toNatClampNeg).take nn.toNatClampNeg = (List.range nn.toNatClampNeg).map fun k => vs.getD (sp.toNatClampNeg + k) .null := by
    apply List.ext_getElem?
    intro k
    rw [List.getElem?_take, List.getElem?_drop, List.getElem?_map]
    by_cases q : k < nn.toNatClampNeg
    · rw [if_pos q, List.getElem?_range q, List.getElem?_eq_getElem (by omega)]
      simp [List.getD_eq_getElem?_getD, List.getElem?_eq_getElem (show sp.toNatClampNeg + k < vs.length by omega)]
    · rw [if_neg q, List.getElem?_eq_none (by simpa using q)]; rfl
  obtain ⟨T', h', L', X', e', N', K, ⟨c', A', -, S', -, H', G'⟩, st⟩ := cpA X hx hZ hown w1 w2 w3 w4 eT (arv_of (dv := .null) A Va Fa l1) (arv_of (dv := .null) B Vb Fb l2) (Or.inl ⟨rfl, hty⟩) h1 h2 h3 (by rw [za]; exact h4) (by rw [zb]; exact h5) hus h5 N (Q.ge hj) hg hsize hs hd hf hW hlo
  refine ⟨T', h', L', X', e', N', Q.kept hj K A'.1 ⟨A'.2.1, A'.2.2, ?_, fun v hv => ?_, exa_to A'.1 (Eb.keep K)⟩, st⟩
  · apply List.ext_getElem?
    intro k
    rw [Array.getElem?_toList]
    by_cases q : k < c'.slots.size
    · rw [H' k q, List.getD_eq_getElem?_getD, List.getElem?_eq_getElem]
      · rfl
      · rw [S', zb] at q; simp only [List.length_append, List.length_take, List.length_drop]; omega
    · rw [Array.getElem?_eq_none (by omega), List.getElem?_eq_none]
      rw [S', zb] at q; simp only [List.length_append, List.length_take, List.length_drop]; omega
  · rcases List.mem_append.mp hv with hv | hv
    · rcases List.mem_append.mp hv with hv | hv
      · exact Fb v (List.mem_of_mem_take hv)
      · exact Fa v (List.mem_of_mem_drop (List.mem_of_mem_take hv))
    · exact Fb v (List.mem_of_mem_drop hv)
theorem gMono (X : Stand p l e R s m args below meth c T locs cells slots) {cells' slots' : Nat} (h1 : cells ≤ cells') (h2 : slots ≤ slots') : Stand p l e R s m args below meth c T locs cells' slots' := { X with same := X.same.mono h1 h2 }
theorem retI (X : Stand p l e R s m args below meth c T locs cells slots) (hx : p.tables.exec = Jvm.exec) {pc : Nat} {Ls : Array Slot} {z : Int32} {rest : List Value} (hret : meth.sig.returnType = some .int) (hd : decode c.code pc = .ok (.ireturn, 1)) {fs : List Frame}
    (hl : ∀ (f : JFrame) (acts : List Action), f.method = m → f.locked = none → f.entered = [] → (doReturn e (T.setTop f) acts (some (.int z))).1 = T.setFrames fs) : Steps p.tables e below (T.setTop (mkF m pc Ls (.int z :: rest))) (T.setFrames fs) := by
  have hm' : T.vm.method? m = some meth := X.method'
  have hn : narrow .int (.int z) = .int z := rfl
  show Steps p.tables e below (T.setTop { method := m, pc := pc, locals := Ls, stack := _ :: rest, locked := none }) _
  jvm_step X.here [X.here.top, hx, hd, hm', hret, hn]
  first | (intro acts; rw [hl _ acts rfl rfl rfl]) | rw [hl _ _ rfl rfl rfl]
  exact Steps.refl _
theorem retL (X : Stand p l e R s m args below meth c T locs cells slots) (hx : p.tables.exec = Jvm.exec) {pc : Nat} {Ls : Array Slot} {z : Int64} {rest : List Value} (hret : meth.sig.returnType = some .long) (hd : decode c.code pc = .ok (.lreturn, 1)) {fs : List Frame}
    (hl : ∀ (f : JFrame) (acts : List Action), f.method = m → f.locked = none → f.entered = [] → (doReturn e (T.setTop f) acts (some (.long z))).1 = T.setFrames fs) : Steps p.tables e below (T.setTop (mkF m pc Ls (.long z :: rest))) (T.setFrames fs) := by
  have hm' : T.vm.method? m = some meth := X.method'
  have hn : narrow .long (.long z) = .long z := rfl
  show Steps p.tables e below (T.setTop { method := m, pc := pc, locals := Ls, stack := _ :: rest, locked := none }) _
  jvm_step X.here [X.here.top, hx, hd, hm', hret, hn]
  first | (intro acts; rw [hl _ acts rfl rfl rfl]) | rw [hl _ _ rfl rfl rfl]
  exact Steps.refl _
theorem retA (X : Stand p l e R s m args below meth c T locs cells slots) (hx : p.tables.exec = Jvm.exec) {pc : Nat} {Ls : Array Slot} {a : Addr} {rest : List Value} {t : FieldType} (ht : t.isReference = true) (hret : meth.sig.returnType = some t) (hd : decode c.code pc = .ok (.areturn, 1)) {fs : List Frame}
    (hl : ∀ (f : JFrame) (acts : List Action), f.method = m → f.locked = none → f.entered = [] → (doReturn e (T.setTop f) acts (some (.ref a))).1 = T.setFrames fs) : Steps p.tables e below (T.setTop (mkF m pc Ls (.ref a :: rest))) (T.setFrames fs) := by
  have hm' : T.vm.method? m = some meth := X.method'
  show Steps p.tables e below (T.setTop { method := m, pc := pc, locals := Ls, stack := _ :: rest, locked := none }) _
  jvm_step X.here [X.here.top, hx, hd, hm', hret, ht, Value.isRef]
  first | (intro acts; rw [hl _ acts rfl rfl rfl]) | rw [hl _ _ rfl rfl rfl]
  exact Steps.refl _
end Steps
abbrev iushr (x y : Int32) : Int32 := (x.toUInt32 >>> (y &&& 31).toUInt32).toInt32
abbrev lushr (x : Int64) (y : Int32) : Int64 := (x.toUInt64 >>> (y &&& 0x3f).toInt64.toUInt64).toInt64
abbrev ishl (x y : Int32) : Int32 := x <<< (y &&& 31)
abbrev ishr (x y : Int32) : Int32 := x >>> (y &&& 31)
abbrev lshl (x : Int64) (y : Int32) : Int64 := x <<< (y &&& 0x3f).toInt64
abbrev lshr (x : Int64) (y : Int32) : Int64 := x >>> (y &&& 0x3f).toInt64
/-- a boolean told by a condition, as an int of the machine's -/
abbrev bz (P : Prop) [Decidable P] : Int32 := if P then 1 else 0
theorem nar_b (P : Prop) [Decidable P] : nar .boolean (bz P) = bz P := by unfold bz; split <;> rfl
theorem bz_t {P : Prop} [Decidable P] (h : P) : bz P = 1 := if_pos h
theorem bz_congr {P Q : Prop} [Decidable P] [Decidable Q] (h : P ↔ Q) : bz P = bz Q := by
  by_cases q : Q
  · rw [bz, bz, if_pos q, if_pos (h.mpr q)]
  · rw [bz, bz, if_neg q, if_neg (fun p => q (h.mp p))]
theorem bz_one {P : Prop} [Decidable P] (h : P ↔ True) : bz P = 1 := if_pos (h.mpr trivial)
theorem bz_zero {P : Prop} [Decidable P] (h : P ↔ False) : bz P = 0 := if_neg h.mp
theorem ow_bne_t {P : Prop} [Decidable P] (h : P) : ifCond.holds .ne (bz P) = true := by rw [if0, bz_t h]; decide
theorem ow_bne_f {P : Prop} [Decidable P] (h : ¬ P) : ifCond.holds .ne (bz P) = false := by rw [if0, bz, if_neg h]; decide
theorem ow_beq_t {P : Prop} [Decidable P] (h : ¬ P) : ifCond.holds .eq (bz P) = true := by rw [if0, bz, if_neg h]; decide
theorem ow_beq_f {P : Prop} [Decidable P] (h : P) : ifCond.holds .eq (bz P) = false := by rw [if0, bz_t h]; decide
theorem bz_f {P : Prop} [Decidable P] (h : ¬ P) : bz P = 0 := if_neg h
theorem ite_or_t {α : Type} {c d : Prop} [Decidable c] [Decidable d] {a y : α} (h : c) : (if c ∨ d then a else y) = a := if_pos (Or.inl h)
theorem ite_or_f {α : Type} {c d : Prop} [Decidable c] [Decidable d] {a y : α} (h : ¬ c) : (if c ∨ d then a else y) = (if d then a else y) := by
  by_cases q : d
  · rw [if_pos q, if_pos (Or.inr q)]
  · rw [if_neg q, if_neg (fun z => z.elim h q)]
theorem ite_and_t {α : Type} {c d : Prop} [Decidable c] [Decidable d] {a y : α} (h : c) : (if c ∧ d then a else y) = (if d then a else y) := by
  by_cases q : d
  · rw [if_pos q, if_pos ⟨h, q⟩]
  · rw [if_neg q, if_neg (fun z => q z.2)]
theorem ite_and_f {α : Type} {c d : Prop} [Decidable c] [Decidable d] {a y : α} (h : ¬ c) : (if c ∧ d then a else y) = y := if_neg fun q => h q.1
theorem ow_fin {P : Prop} [Decidable P] (h : P) : some (Value.int (nar .boolean (bz P))) = some (Value.int (1 : Int32)) := by rw [bz_t h]; rfl
theorem ow_fin' {P : Prop} [Decidable P] (h : P) : some (Value.int (bz P)) = some (Value.int (1 : Int32)) := by rw [bz_t h]
end Jvm.Own
namespace Jvm.Own
open Jvm Jvm.RoadKit
/-! ## Longs and ints as natural numbers -/
def nj (x : Int64) : Nat := x.toBitVec.toNat
def ni (x : Int32) : Nat := x.toBitVec.toNat
theorem nj_lt (x : Int64) : nj x < 18446744073709551616 := x.toBitVec.isLt
theorem ni_lt (x : Int32) : ni x < 4294967296 := x.toBitVec.isLt
theorem nj_inj {x y : Int64} (h : nj x = nj y) : x = y := Int64.toBitVec_inj.mp (BitVec.eq_of_toNat_eq h)
theorem ni_inj {x y : Int32} (h : ni x = ni y) : x = y := Int32.toBitVec_inj.mp (BitVec.eq_of_toNat_eq h)
theorem nj_int (x : Int64) : x.toInt = if nj x < 9223372036854775808 then (nj x : Int) else (nj x : Int) - 18446744073709551616 := by
  show x.toBitVec.toInt = _
  rw [BitVec.toInt_eq_toNat_cond]
  show (if 2 * nj x < 2 ^ 64 then (nj x : Int) else (nj x : Int) - (2 ^ 64 : Nat)) = _
  split <;> split <;> omega
theorem ni_int (x : Int32) : x.toInt = if ni x < 2147483648 then (ni x : Int) else (ni x : Int) - 4294967296 := by
  show x.toBitVec.toInt = _
  rw [BitVec.toInt_eq_toNat_cond]
  show (if 2 * ni x < 2 ^ 32 then (ni x : Int) else (ni x : Int) - (2 ^ 32 : Nat)) = _
  split <;> split <;> omega
theorem nj_and (x y : Int64) : nj (x &&& y) = nj x &&& nj y := by show (x.toBitVec &&& y.toBitVec).toNat = _; rw [BitVec.toNat_and]; rfl
theorem nj_or (x y : Int64) : nj (x ||| y) = nj x ||| nj y := by show (x.toBitVec ||| y.toBitVec).toNat = _; rw [BitVec.toNat_or]; rfl
theorem nj_xor (x y : Int64) : nj (x ^^^ y) = nj x ^^^ nj y := by show (x.toBitVec ^^^ y.toBitVec).toNat = _; rw [BitVec.toNat_xor]; rfl
theorem nj_add (x y : Int64) : nj (x + y) = (nj x + nj y) % 18446744073709551616 := by show (x.toBitVec + y.toBitVec).toNat = _; rw [BitVec.toNat_add]; rfl
theorem nj_sub (x y : Int64) : nj (x - y) = (18446744073709551616 - nj y + nj x) % 18446744073709551616 := by show (x.toBitVec - y.toBitVec).toNat = _; rw [BitVec.toNat_sub]; rfl
theorem ni_and (x y : Int32) : ni (x &&& y) = ni x &&& ni y := by show (x.toBitVec &&& y.toBitVec).toNat = _; rw [BitVec.toNat_and]; rfl
theorem nj_lushr (x : Int64) (q : Int32) (k : Nat) (hk : ni q % 64 = k) : nj (lushr x q) = nj x / 2 ^ k := by
  show (x.toBitVec >>> ((q &&& 0x3f).toInt64.toBitVec % 64)).toNat = x.toBitVec.toNat / 2 ^ k
  have h5 := (sm64 q k hk).2
  rw [BitVec.ushiftRight_eq', BitVec.toNat_ushiftRight, Nat.shiftRight_eq_div_pow, BitVec.toNat_umod, (sm64 q k hk).1, BitVec.toNat_ofNat]; congr 2; show k % 2 ^ 64 % 64 = k; omega
theorem nj_lshl (x : Int64) (q : Int32) (k : Nat) (hk : ni q % 64 = k) : nj (lshl x q) = nj x * 2 ^ k % 18446744073709551616 := by
  show (x.toBitVec <<< ((q &&& 0x3f).toInt64.toBitVec.smod 64)).toNat = _
  rw [BitVec.shiftLeft_eq', (sm64 q k hk).1, smod64 k (sm64 q k hk).2, BitVec.toNat_shiftLeft, Nat.shiftLeft_eq]; rfl
theorem ni_l2i (x : Int64) : ni x.toInt32 = nj x % 4294967296 := by
  show (x.toBitVec.signExtend 32).toNat = _
  rw [BitVec.signExtend_eq_setWidth_of_le _ (by decide), BitVec.toNat_setWidth]; rfl
theorem nj_i2l (x : Int32) (h : ni x < 2147483648) : nj x.toInt64 = ni x := by
  have e := nj_int x.toInt64
  rw [Int32.toInt_toInt64, ni_int, if_pos h] at e
  have := nj_lt x.toInt64
  split at e <;> omega
theorem mask_n (x k : Nat) : x &&& (2 ^ k - 1) = x % 2 ^ k := Nat.and_two_pow_sub_one_eq_mod x k
theorem lt64 {x y : Int64} : x < y ↔ x.toInt < y.toInt := Int64.lt_iff_toInt_lt
theorem lt32 {x y : Int32} : x < y ↔ x.toInt < y.toInt := Int32.lt_iff_toInt_lt
/-- the byte at place k of a long, as javac reads it into an int -/
theorem byteI (w : Int64) (q : Int32) (k : Nat) (hk : ni q % 64 = k) : ((lushr w q).toInt32 &&& (255 : Int32)) = Int32.ofNat (nj w / 2 ^ k % 256) := by
  apply ni_inj
  rw [ni_and, ni_l2i, nj_lushr w q k hk, show ni (255 : Int32) = 2 ^ 8 - 1 from rfl, mask_n]
  show _ = (BitVec.ofNat 32 _).toNat
  rw [BitVec.toNat_ofNat]
  omega
theorem byteJ (w : Int64) (q : Int32) (k : Nat) (hk : ni q % 64 = k) : ((lushr w q) &&& (255 : Int64)) = Int64.ofNat (nj w / 2 ^ k % 256) := by
  apply nj_inj
  rw [nj_and, nj_lushr w q k hk, show nj (255 : Int64) = 2 ^ 8 - 1 from rfl, mask_n]
  show _ = (BitVec.ofNat 64 _).toNat
  rw [BitVec.toNat_ofNat]
  omega
theorem all8 {P : Int8 → Prop} (h : ∀ n : Fin 256, P (Int8.ofNat n.1)) (y : Int8) : P y := by
  have q := h ⟨y.toBitVec.toNat, y.toBitVec.isLt⟩
  have e : Int8.ofNat y.toBitVec.toNat = y := by
    apply Int8.toBitVec_inj.mp
    show BitVec.ofNat 8 y.toBitVec.toNat = y.toBitVec
    rw [BitVec.ofNat_toNat]; simp
  rw [e] at q; exact q
/-- an int told by its natural number -/
theorem ofni (x : Int32) : Int32.ofNat (ni x) = x := by
  apply ni_inj
  show (BitVec.ofNat 32 x.toBitVec.toNat).toNat = x.toBitVec.toNat
  rw [BitVec.toNat_ofNat, Nat.mod_eq_of_lt x.toBitVec.isLt]
/-- (x & 0x7fffffff) % m for a small m -/
theorem remN (x : Int32) (m : Int32) (k : Nat) (hm : ni m = k) (h0 : 0 < k) (h1 : k < 2147483648) : ∃ n : Nat, n < k ∧ ((x &&& (2147483647 : Int32)) % m) = Int32.ofNat n := by
  have e1 : ni (x &&& (2147483647 : Int32)) = ni x % 2147483648 := by rw [ni_and, show ni (2147483647 : Int32) = 2 ^ 31 - 1 from rfl, mask_n]
  have m1 : m.toInt = k := by rw [ni_int, if_pos (by omega), hm]
  have a1 : (x &&& (2147483647 : Int32)).toInt = (ni x % 2147483648 : Nat) := by rw [ni_int, if_pos (by omega), e1]
  obtain ⟨p, -⟩ := c_irem (x &&& (2147483647 : Int32)) m k m1
  have r := p (by omega)
  refine ⟨ni x % 2147483648 % k, Nat.mod_lt _ h0, ?_⟩
  have q : ni x % 2147483648 % k < k := Nat.mod_lt _ h0
  apply Int32.toInt_inj.mp
  rw [r, a1, Int32.toInt_ofNat_of_lt (by omega)]; rfl
end Jvm.Own
namespace Jvm.Pilot.@@N@@
open Jvm Jvm.ClassFile Sem Op Lib Jvm.Free Jvm.Stand Jvm.LawKit Jvm.RoadKit Bundle Jvm.Own Jvm.Pilot.@@N@@.Jvm.D
theorem d2_0 : decode method_2_code 0 = .ok (.lload_n 0, 1) := by decide +kernel
theorem d2_1 : decode method_2_code 1 = .ok (.ldc2_w 7, 3) := by decide +kernel
theorem d2_4 : decode method_2_code 4 = .ok (.lcmp, 1) := by decide +kernel
theorem d2_5 : decode method_2_code 5 = .ok (.ifCond .lt 13, 3) := by decide +kernel
theorem d2_18 : decode method_2_code 18 = .ok (.lload_n 0, 1) := by decide +kernel
theorem d2_19 : decode method_2_code 19 = .ok (.ldc2_w 11, 3) := by decide +kernel
theorem d2_22 : decode method_2_code 22 = .ok (.lcmp, 1) := by decide +kernel
theorem d2_23 : decode method_2_code 23 = .ok (.ifCond .lt 13, 3) := by decide +kernel
theorem d2_36 : decode method_2_code 36 = .ok (.lload_n 0, 1) := by decide +kernel
theorem d2_37 : decode method_2_code 37 = .ok (.ldc2_w 15, 3) := by decide +kernel
theorem d2_40 : decode method_2_code 40 = .ok (.lcmp, 1) := by decide +kernel
theorem d2_41 : decode method_2_code 41 = .ok (.ifCond .lt 13, 3) := by decide +kernel
theorem d2_54 : decode method_2_code 54 = .ok (.lload_n 0, 1) := by decide +kernel
theorem d2_55 : decode method_2_code 55 = .ok (.ldc2_w 19, 3) := by decide +kernel
theorem d2_58 : decode method_2_code 58 = .ok (.lcmp, 1) := by decide +kernel
theorem d2_59 : decode method_2_code 59 = .ok (.ifCond .lt 13, 3) := by decide +kernel
theorem d2_72 : decode method_2_code 72 = .ok (.lload_n 0, 1) := by decide +kernel
theorem d2_73 : decode method_2_code 73 = .ok (.ldc2_w 23, 3) := by decide +kernel
theorem d2_76 : decode method_2_code 76 = .ok (.lcmp, 1) := by decide +kernel
theorem d2_77 : decode method_2_code 77 = .ok (.ifCond .lt 13, 3) := by decide +kernel
theorem d2_90 : decode method_2_code 90 = .ok (.lload_n 0, 1) := by decide +kernel
theorem d2_91 : decode method_2_code 91 = .ok (.ldc2_w 27, 3) := by decide +kernel
theorem d2_94 : decode method_2_code 94 = .ok (.lcmp, 1) := by decide +kernel
theorem d2_95 : decode method_2_code 95 = .ok (.ifCond .lt 14, 3) := by decide +kernel
theorem d2_109 : decode method_2_code 109 = .ok (.lload_n 0, 1) := by decide +kernel
theorem d2_110 : decode method_2_code 110 = .ok (.ldc2_w 31, 3) := by decide +kernel
theorem d2_113 : decode method_2_code 113 = .ok (.lcmp, 1) := by decide +kernel
theorem d2_114 : decode method_2_code 114 = .ok (.ifCond .lt 14, 3) := by decide +kernel
theorem d2_128 : decode method_2_code 128 = .ok (.bipush 8, 2) := by decide +kernel
theorem d2_117 : decode method_2_code 117 = .ok (.lload_n 0, 1) := by decide +kernel
theorem d2_118 : decode method_2_code 118 = .ok (.ldc2_w 33, 3) := by decide +kernel
theorem d2_121 : decode method_2_code 121 = .ok (.lcmp, 1) := by decide +kernel
theorem d2_122 : decode method_2_code 122 = .ok (.ifCond .gt 6, 3) := by decide +kernel
theorem d2_125 : decode method_2_code 125 = .ok (.bipush 7, 2) := by decide +kernel
theorem d2_98 : decode method_2_code 98 = .ok (.lload_n 0, 1) := by decide +kernel
theorem d2_99 : decode method_2_code 99 = .ok (.ldc2_w 29, 3) := by decide +kernel
theorem d2_102 : decode method_2_code 102 = .ok (.lcmp, 1) := by decide +kernel
theorem d2_103 : decode method_2_code 103 = .ok (.ifCond .gt 6, 3) := by decide +kernel
theorem d2_106 : decode method_2_code 106 = .ok (.bipush 6, 2) := by decide +kernel
theorem d2_80 : decode method_2_code 80 = .ok (.lload_n 0, 1) := by decide +kernel
theorem d2_81 : decode method_2_code 81 = .ok (.ldc2_w 25, 3) := by decide +kernel
theorem d2_84 : decode method_2_code 84 = .ok (.lcmp, 1) := by decide +kernel
theorem d2_85 : decode method_2_code 85 = .ok (.ifCond .gt 5, 3) := by decide +kernel
theorem d2_88 : decode method_2_code 88 = .ok (.iconst 5, 1) := by decide +kernel
theorem d2_62 : decode method_2_code 62 = .ok (.lload_n 0, 1) := by decide +kernel
theorem d2_63 : decode method_2_code 63 = .ok (.ldc2_w 21, 3) := by decide +kernel
theorem d2_66 : decode method_2_code 66 = .ok (.lcmp, 1) := by decide +kernel
theorem d2_67 : decode method_2_code 67 = .ok (.ifCond .gt 5, 3) := by decide +kernel
theorem d2_70 : decode method_2_code 70 = .ok (.iconst 4, 1) := by decide +kernel
theorem d2_44 : decode method_2_code 44 = .ok (.lload_n 0, 1) := by decide +kernel
theorem d2_45 : decode method_2_code 45 = .ok (.ldc2_w 17, 3) := by decide +kernel
theorem d2_48 : decode method_2_code 48 = .ok (.lcmp, 1) := by decide +kernel
theorem d2_49 : decode method_2_code 49 = .ok (.ifCond .gt 5, 3) := by decide +kernel
theorem d2_52 : decode method_2_code 52 = .ok (.iconst 3, 1) := by decide +kernel
theorem d2_26 : decode method_2_code 26 = .ok (.lload_n 0, 1) := by decide +kernel
theorem d2_27 : decode method_2_code 27 = .ok (.ldc2_w 13, 3) := by decide +kernel
theorem d2_30 : decode method_2_code 30 = .ok (.lcmp, 1) := by decide +kernel
theorem d2_31 : decode method_2_code 31 = .ok (.ifCond .gt 5, 3) := by decide +kernel
theorem d2_34 : decode method_2_code 34 = .ok (.iconst 2, 1) := by decide +kernel
theorem d2_8 : decode method_2_code 8 = .ok (.lload_n 0, 1) := by decide +kernel
theorem d2_9 : decode method_2_code 9 = .ok (.ldc2_w 9, 3) := by decide +kernel
theorem d2_12 : decode method_2_code 12 = .ok (.lcmp, 1) := by decide +kernel
theorem d2_13 : decode method_2_code 13 = .ok (.ifCond .gt 5, 3) := by decide +kernel
theorem d2_16 : decode method_2_code 16 = .ok (.iconst 1, 1) := by decide +kernel
theorem d2_130 : decode method_2_code 130 = .ok (.ireturn, 1) := by decide +kernel
theorem d2_127 : decode method_2_code 127 = .ok (.ireturn, 1) := by decide +kernel
theorem d2_108 : decode method_2_code 108 = .ok (.ireturn, 1) := by decide +kernel
theorem d2_89 : decode method_2_code 89 = .ok (.ireturn, 1) := by decide +kernel
theorem d2_71 : decode method_2_code 71 = .ok (.ireturn, 1) := by decide +kernel
theorem d2_53 : decode method_2_code 53 = .ok (.ireturn, 1) := by decide +kernel
theorem d2_35 : decode method_2_code 35 = .ok (.ireturn, 1) := by decide +kernel
theorem d2_17 : decode method_2_code 17 = .ok (.ireturn, 1) := by decide +kernel
theorem pn_com_example_sidetrack_sidetrack_codec_BerIntegerEncodePinLaw : plainName "com/example/sidetrack/sidetrack/codec/BerIntegerEncodePinLaw" = true := by first | (simp [plainName, overriddenIn]; done) | decide +kernel
theorem ef_2 (m : MethodId) (x0 : Int64) : entryFrame m #[(.long x0)] 2 = mkF m 0 #[.val (.long x0), .second] [] := by first | (simp [entryFrame, mkF, argsToLocals, Value.category]; done) | rfl
def F2 (vx : Int64) : Int32 :=
  (if (vx < (-128 : Int64)) ∨ ((127 : Int64) < vx) then (if (vx < (-32768 : Int64)) ∨ ((32767 : Int64) < vx) then (if (vx < (-8388608 : Int64)) ∨ ((8388607 : Int64) < vx) then (if (vx < (-2147483648 : Int64)) ∨ ((2147483647 : Int64) < vx) then (if (vx < (-549755813888 : Int64)) ∨ ((549755813887 : Int64) < vx) then (if (vx < (-140737488355328 : Int64)) ∨ ((140737488355327 : Int64) < vx) then (if (vx < (-36028797018963968 : Int64)) ∨ ((36028797018963967 : Int64) < vx) then (8 : Int32) else (7 : Int32)) else (6 : Int32)) else (5 : Int32)) else (4 : Int32)) else (3 : Int32)) else (2 : Int32)) else (1 : Int32))
def Q2 (Z : State) (vx : Int64) (n0 : Nat) (Rst : RL) (v : Option Value) (h : Heap) (L : List Loc) : Prop := v = some (.int (F2 vx)) ∧ Fr n0 L ∧ Rep Z n0 h (Rst)
set_option maxRecDepth 65536 in
set_option maxHeartbeats 40000000 in
theorem rm2 (l : Launch) (Z : State) (a0 : Array Value) (hw : ∀ d ∈ tables_1, d.before a0 Z = true) (ws : List Jvm.Cond) (vx : Int64) (h0 : Heap) (n0 : Nat) (Rst : RL) (R0 : Rep Z n0 h0 (Rst)) :
    MetFree l (⟨"com/example/sidetrack/sidetrack/codec/BerIntegerEncodePinLaw", "expectedLength", "(J)I"⟩ : MethodName) (head1 (Jvm.Cond.code (⟨"com/example/sidetrack/sidetrack/codec/BerIntegerEncodePinLaw", "expectedLength", "(J)I"⟩ : MethodName) method_2_code 2 (some .int) :: ws) ({ frames := 0, cells := 0, slots := 0, locals := 0 } : Room)) (fun a U => a = #[(.long vx)] ∧ Z.Warmed39 U.vm ∧ U.heap = h0) (fun _ _ _ _ _ => True) (fun _ U o U' => ∃ v L, o = .returned v ∧ Q2 Z vx n0 Rst v U'.heap L ∧ FrameEnd U o U' L ({ frames := 0, cells := 0, slots := 0, locals := 0 } : Room).cells ({ frames := 0, cells := 0, slots := 0, locals := 0 } : Room).slots) := by
  refine MetFree.of_bodySF (plainFor_of_name pn_com_example_sidetrack_sidetrack_codec_BerIntegerEncodePinLaw) hisR ?_
  intro p e s m args below meth c s₁ Bd hml0 hP hK
  obtain ⟨rfl, hZ, hh⟩ := hP
  have hx := Bd.exec
  have hby := Bd.bytes
  have hml : c.maxLocals = 2 := hml0
  have hown : s.vm.findClass "com/example/sidetrack/sidetrack/codec/BerIntegerEncodePinLaw" = some m.cls := findClass_of_methodNamed Bd.named
  have hnm := (name_of_methodNamed Bd.named Bd.method).1
  have X0 : Stand p l e ({ frames := 0, cells := 0, slots := 0, locals := 0 } : Room) s m #[(.long vx)] below meth c s₁ [] 0 0 := Stand.of_body Bd
  have e0 : s₁.heap = h0 := by rw [← hh, Bd.state]; rfl
  have N0 := Fr.nil n0
  have pre0 : ∀ t, Steps p.tables e below (s₁.setTop (mkF m 0 #[.val (.long vx), .second] [])) t → Steps p.tables e below (s₁.setTop (entryFrame m #[(.long vx)] 2)) t := fun t k => castTop (ef_2 m vx) k
  have pre1 : ∀ t, Steps p.tables e below (s₁.setTop (mkF m 5 #[.val (.long vx), .second] [(.int (XT.cmpL vx (-128 : Int64)))])) t → Steps p.tables e below (s₁.setTop (entryFrame m #[(.long vx)] 2)) t := fun t k => pre0 t (by
    show Steps p.tables e below (s₁.setTop (mkF m 0 #[.val (.long vx), .second] [])) _
    refine XS.lloadN X0.here hx rfl (hb hby d2_0) rfl ?_
    refine X0.ldc2Long hx hown (mvT hZ (hw _ (List.mem_of_getElem? (i := 9) rfl))) (g := (mkF m 1 #[.val (.long vx), .second] [(.long vx)])) rfl (hb hby d2_1) _ ?_
    refine XS.lcmp X0.here hx rfl (hb hby d2_4) rfl ?_
    exact k)
  have tl10 : ∀ fs, (∀ (f : JFrame) (acts : List Action), f.method = m → f.locked = none → f.entered = [] → (doReturn e (s₁.setTop f) acts (some (.int (if (36028797018963967 : Int64) < vx then (8 : Int32) else (7 : Int32))))).1 = s₁.setFrames fs) → Steps p.tables e below (s₁.setTop (mkF m 122 #[.val (.long vx), .second] [(.int (XT.cmpL vx (36028797018963967 : Int64)))])) (s₁.setFrames fs) := fun fs k => by
    by_cases hb9 : (36028797018963967 : Int64) < vx
    · refine XS.ifYes X0.here hx rfl (pc0 := 122) (pc' := 128) rfl (hb hby d2_122) rfl (XT.ll_gt_t hb9) (by decide) (by decide) ?_
      rw [show (if (36028797018963967 : Int64) < vx then (8 : Int32) else (7 : Int32)) = (8 : Int32) from if_pos hb9] at k
      show Steps p.tables e below (s₁.setTop (mkF m 128 #[.val (.long vx), .second] [])) _
      refine XS.bipush X0.here hx rfl (hb hby d2_128) ?_
      exact Jvm.Own.retI X0 hx Bd.returns (hb hby d2_130) k
    · refine XS.ifNo X0.here hx rfl (hb hby d2_122) rfl (XT.ll_gt_f hb9) ?_
      rw [show (if (36028797018963967 : Int64) < vx then (8 : Int32) else (7 : Int32)) = (7 : Int32) from if_neg hb9] at k
      show Steps p.tables e below (s₁.setTop (mkF m 125 #[.val (.long vx), .second] [])) _
      refine XS.bipush X0.here hx rfl (hb hby d2_125) ?_
      exact Jvm.Own.retI X0 hx Bd.returns (hb hby d2_127) k
  have tl11 : ∀ fs, (∀ (f : JFrame) (acts : List Action), f.method = m → f.locked = none → f.entered = [] → (doReturn e (s₁.setTop f) acts (some (.int (if (vx < (-36028797018963968 : Int64)) ∨ ((36028797018963967 : Int64) < vx) then (8 : Int32) else (7 : Int32))))).1 = s₁.setFrames fs) → Steps p.tables e below (s₁.setTop (mkF m 114 #[.val (.long vx), .second] [(.int (XT.cmpL vx (-36028797018963968 : Int64)))])) (s₁.setFrames fs) := fun fs k => by
    by_cases hb8 : vx < (-36028797018963968 : Int64)
    · refine XS.ifYes X0.here hx rfl (pc0 := 114) (pc' := 128) rfl (hb hby d2_114) rfl (XT.ll_lt_t hb8) (by decide) (by decide) ?_
      rw [show (if (vx < (-36028797018963968 : Int64)) ∨ ((36028797018963967 : Int64) < vx) then (8 : Int32) else (7 : Int32)) = (8 : Int32) from ite_or_t hb8] at k
      show Steps p.tables e below (s₁.setTop (mkF m 128 #[.val (.long vx), .second] [])) _
      refine XS.bipush X0.here hx rfl (hb hby d2_128) ?_
      exact Jvm.Own.retI X0 hx Bd.returns (hb hby d2_130) k
    · refine XS.ifNo X0.here hx rfl (hb hby d2_114) rfl (XT.ll_lt_f hb8) ?_
      rw [show (if (vx < (-36028797018963968 : Int64)) ∨ ((36028797018963967 : Int64) < vx) then (8 : Int32) else (7 : Int32)) = (if (36028797018963967 : Int64) < vx then (8 : Int32) else (7 : Int32)) from ite_or_f hb8] at k
      show Steps p.tables e below (s₁.setTop (mkF m 117 #[.val (.long vx), .second] [])) _
      refine XS.lloadN X0.here hx rfl (hb hby d2_117) rfl ?_
      refine X0.ldc2Long hx hown (mvT hZ (hw _ (List.mem_of_getElem? (i := 18) rfl))) (g := (mkF m 118 #[.val (.long vx), .second] [(.long vx)])) rfl (hb hby d2_118) _ ?_
      refine XS.lcmp X0.here hx rfl (hb hby d2_121) rfl ?_
      exact tl10 fs k
  have tl13 : ∀ fs, (∀ (f : JFrame) (acts : List Action), f.method = m → f.locked = none → f.entered = [] → (doReturn e (s₁.setTop f) acts (some (.int (if (140737488355327 : Int64) < vx then (if (vx < (-36028797018963968 : Int64)) ∨ ((36028797018963967 : Int64) < vx) then (8 : Int32) else (7 : Int32)) else (6 : Int32))))).1 = s₁.setFrames fs) → Steps p.tables e below (s₁.setTop (mkF m 103 #[.val (.long vx), .second] [(.int (XT.cmpL vx (140737488355327 : Int64)))])) (s₁.setFrames fs) := fun fs k => by
    by_cases hb12 : (140737488355327 : Int64) < vx
    · refine XS.ifYes X0.here hx rfl (pc0 := 103) (pc' := 109) rfl (hb hby d2_103) rfl (XT.ll_gt_t hb12) (by decide) (by decide) ?_
      rw [show (if (140737488355327 : Int64) < vx then (if (vx < (-36028797018963968 : Int64)) ∨ ((36028797018963967 : Int64) < vx) then (8 : Int32) else (7 : Int32)) else (6 : Int32)) = (if (vx < (-36028797018963968 : Int64)) ∨ ((36028797018963967 : Int64) < vx) then (8 : Int32) else (7 : Int32)) from if_pos hb12] at k
      show Steps p.tables e below (s₁.setTop (mkF m 109 #[.val (.long vx), .second] [])) _
      refine XS.lloadN X0.here hx rfl (hb hby d2_109) rfl ?_
      refine X0.ldc2Long hx hown (mvT hZ (hw _ (List.mem_of_getElem? (i := 16) rfl))) (g := (mkF m 110 #[.val (.long vx), .second] [(.long vx)])) rfl (hb hby d2_110) _ ?_
      refine XS.lcmp X0.here hx rfl (hb hby d2_113) rfl ?_
      exact tl11 fs k
    · refine XS.ifNo X0.here hx rfl (hb hby d2_103) rfl (XT.ll_gt_f hb12) ?_
      rw [show (if (140737488355327 : Int64) < vx then (if (vx < (-36028797018963968 : Int64)) ∨ ((36028797018963967 : Int64) < vx) then (8 : Int32) else (7 : Int32)) else (6 : Int32)) = (6 : Int32) from if_neg hb12] at k
      show Steps p.tables e below (s₁.setTop (mkF m 106 #[.val (.long vx), .second] [])) _
      refine XS.bipush X0.here hx rfl (hb hby d2_106) ?_
      exact Jvm.Own.retI X0 hx Bd.returns (hb hby d2_108) k
  have tl14 : ∀ fs, (∀ (f : JFrame) (acts : List Action), f.method = m → f.locked = none → f.entered = [] → (doReturn e (s₁.setTop f) acts (some (.int (if (vx < (-140737488355328 : Int64)) ∨ ((140737488355327 : Int64) < vx) then (if (vx < (-36028797018963968 : Int64)) ∨ ((36028797018963967 : Int64) < vx) then (8 : Int32) else (7 : Int32)) else (6 : Int32))))).1 = s₁.setFrames fs) → Steps p.tables e below (s₁.setTop (mkF m 95 #[.val (.long vx), .second] [(.int (XT.cmpL vx (-140737488355328 : Int64)))])) (s₁.setFrames fs) := fun fs k => by
    by_cases hb7 : vx < (-140737488355328 : Int64)
    · refine XS.ifYes X0.here hx rfl (pc0 := 95) (pc' := 109) rfl (hb hby d2_95) rfl (XT.ll_lt_t hb7) (by decide) (by decide) ?_
      rw [show (if (vx < (-140737488355328 : Int64)) ∨ ((140737488355327 : Int64) < vx) then (if (vx < (-36028797018963968 : Int64)) ∨ ((36028797018963967 : Int64) < vx) then (8 : Int32) else (7 : Int32)) else (6 : Int32)) = (if (vx < (-36028797018963968 : Int64)) ∨ ((36028797018963967 : Int64) < vx) then (8 : Int32) else (7 : Int32)) from ite_or_t hb7] at k
      show Steps p.tables e below (s₁.setTop (mkF m 109 #[.val (.long vx), .second] [])) _
      refine XS.lloadN X0.here hx rfl (hb hby d2_109) rfl ?_
      refine X0.ldc2Long hx hown (mvT hZ (hw _ (List.mem_of_getElem? (i := 16) rfl))) (g := (mkF m 110 #[.val (.long vx), .second] [(.long vx)])) rfl (hb hby d2_110) _ ?_
      refine XS.lcmp X0.here hx rfl (hb hby d2_113) rfl ?_
      exact tl11 fs k
    · refine XS.ifNo X0.here hx rfl (hb hby d2_95) rfl (XT.ll_lt_f hb7) ?_
      rw [show (if (vx < (-140737488355328 : Int64)) ∨ ((140737488355327 : Int64) < vx) then (if (vx < (-36028797018963968 : Int64)) ∨ ((36028797018963967 : Int64) < vx) then (8 : Int32) else (7 : Int32)) else (6 : Int32)) = (if (140737488355327 : Int64) < vx then (if (vx < (-36028797018963968 : Int64)) ∨ ((36028797018963967 : Int64) < vx) then (8 : Int32) else (7 : Int32)) else (6 : Int32)) from ite_or_f hb7] at k
      show Steps p.tables e below (s₁.setTop (mkF m 98 #[.val (.long vx), .second] [])) _
      refine XS.lloadN X0.here hx rfl (hb hby d2_98) rfl ?_
      refine X0.ldc2Long hx hown (mvT hZ (hw _ (List.mem_of_getElem? (i := 22) rfl))) (g := (mkF m 99 #[.val (.long vx), .second] [(.long vx)])) rfl (hb hby d2_99) _ ?_
      refine XS.lcmp X0.here hx rfl (hb hby d2_102) rfl ?_
      exact tl13 fs k
  have tl16 : ∀ fs, (∀ (f : JFrame) (acts : List Action), f.method = m → f.locked = none → f.entered = [] → (doReturn e (s₁.setTop f) acts (some (.int (if (549755813887 : Int64) < vx then (if (vx < (-140737488355328 : Int64)) ∨ ((140737488355327 : Int64) < vx) then (if (vx < (-36028797018963968 : Int64)) ∨ ((36028797018963967 : Int64) < vx) then (8 : Int32) else (7 : Int32)) else (6 : Int32)) else (5 : Int32))))).1 = s₁.setFrames fs) → Steps p.tables e below (s₁.setTop (mkF m 85 #[.val (.long vx), .second] [(.int (XT.cmpL vx (549755813887 : Int64)))])) (s₁.setFrames fs) := fun fs k => by
    by_cases hb15 : (549755813887 : Int64) < vx
    · refine XS.ifYes X0.here hx rfl (pc0 := 85) (pc' := 90) rfl (hb hby d2_85) rfl (XT.ll_gt_t hb15) (by decide) (by decide) ?_
      rw [show (if (549755813887 : Int64) < vx then (if (vx < (-140737488355328 : Int64)) ∨ ((140737488355327 : Int64) < vx) then (if (vx < (-36028797018963968 : Int64)) ∨ ((36028797018963967 : Int64) < vx) then (8 : Int32) else (7 : Int32)) else (6 : Int32)) else (5 : Int32)) = (if (vx < (-140737488355328 : Int64)) ∨ ((140737488355327 : Int64) < vx) then (if (vx < (-36028797018963968 : Int64)) ∨ ((36028797018963967 : Int64) < vx) then (8 : Int32) else (7 : Int32)) else (6 : Int32)) from if_pos hb15] at k
      show Steps p.tables e below (s₁.setTop (mkF m 90 #[.val (.long vx), .second] [])) _
      refine XS.lloadN X0.here hx rfl (hb hby d2_90) rfl ?_
      refine X0.ldc2Long hx hown (mvT hZ (hw _ (List.mem_of_getElem? (i := 15) rfl))) (g := (mkF m 91 #[.val (.long vx), .second] [(.long vx)])) rfl (hb hby d2_91) _ ?_
      refine XS.lcmp X0.here hx rfl (hb hby d2_94) rfl ?_
      exact tl14 fs k
    · refine XS.ifNo X0.here hx rfl (hb hby d2_85) rfl (XT.ll_gt_f hb15) ?_
      rw [show (if (549755813887 : Int64) < vx then (if (vx < (-140737488355328 : Int64)) ∨ ((140737488355327 : Int64) < vx) then (if (vx < (-36028797018963968 : Int64)) ∨ ((36028797018963967 : Int64) < vx) then (8 : Int32) else (7 : Int32)) else (6 : Int32)) else (5 : Int32)) = (5 : Int32) from if_neg hb15] at k
      show Steps p.tables e below (s₁.setTop (mkF m 88 #[.val (.long vx), .second] [])) _
      refine XS.iconst X0.here hx rfl (hb hby d2_88) ?_
      exact Jvm.Own.retI X0 hx Bd.returns (hb hby d2_89) k
  have tl17 : ∀ fs, (∀ (f : JFrame) (acts : List Action), f.method = m → f.locked = none → f.entered = [] → (doReturn e (s₁.setTop f) acts (some (.int (if (vx < (-549755813888 : Int64)) ∨ ((549755813887 : Int64) < vx) then (if (vx < (-140737488355328 : Int64)) ∨ ((140737488355327 : Int64) < vx) then (if (vx < (-36028797018963968 : Int64)) ∨ ((36028797018963967 : Int64) < vx) then (8 : Int32) else (7 : Int32)) else (6 : Int32)) else (5 : Int32))))).1 = s₁.setFrames fs) → Steps p.tables e below (s₁.setTop (mkF m 77 #[.val (.long vx), .second] [(.int (XT.cmpL vx (-549755813888 : Int64)))])) (s₁.setFrames fs) := fun fs k => by
    by_cases hb6 : vx < (-549755813888 : Int64)
    · refine XS.ifYes X0.here hx rfl (pc0 := 77) (pc' := 90) rfl (hb hby d2_77) rfl (XT.ll_lt_t hb6) (by decide) (by decide) ?_
      rw [show (if (vx < (-549755813888 : Int64)) ∨ ((549755813887 : Int64) < vx) then (if (vx < (-140737488355328 : Int64)) ∨ ((140737488355327 : Int64) < vx) then (if (vx < (-36028797018963968 : Int64)) ∨ ((36028797018963967 : Int64) < vx) then (8 : Int32) else (7 : Int32)) else (6 : Int32)) else (5 : Int32)) = (if (vx < (-140737488355328 : Int64)) ∨ ((140737488355327 : Int64) < vx) then (if (vx < (-36028797018963968 : Int64)) ∨ ((36028797018963967 : Int64) < vx) then (8 : Int32) else (7 : Int32)) else (6 : Int32)) from ite_or_t hb6] at k
      show Steps p.tables e below (s₁.setTop (mkF m 90 #[.val (.long vx), .second] [])) _
      refine XS.lloadN X0.here hx rfl (hb hby d2_90) rfl ?_
      refine X0.ldc2Long hx hown (mvT hZ (hw _ (List.mem_of_getElem? (i := 15) rfl))) (g := (mkF m 91 #[.val (.long vx), .second] [(.long vx)])) rfl (hb hby d2_91) _ ?_
      refine XS.lcmp X0.here hx rfl (hb hby d2_94) rfl ?_
      exact tl14 fs k
    · refine XS.ifNo X0.here hx rfl (hb hby d2_77) rfl (XT.ll_lt_f hb6) ?_
      rw [show (if (vx < (-549755813888 : Int64)) ∨ ((549755813887 : Int64) < vx) then (if (vx < (-140737488355328 : Int64)) ∨ ((140737488355327 : Int64) < vx) then (if (vx < (-36028797018963968 : Int64)) ∨ ((36028797018963967 : Int64) < vx) then (8 : Int32) else (7 : Int32)) else (6 : Int32)) else (5 : Int32)) = (if (549755813887 : Int64) < vx then (if (vx < (-140737488355328 : Int64)) ∨ ((140737488355327 : Int64) < vx) then (if (vx < (-36028797018963968 : Int64)) ∨ ((36028797018963967 : Int64) < vx) then (8 : Int32) else (7 : Int32)) else (6 : Int32)) else (5 : Int32)) from ite_or_f hb6] at k
      show Steps p.tables e below (s₁.setTop (mkF m 80 #[.val (.long vx), .second] [])) _
      refine XS.lloadN X0.here hx rfl (hb hby d2_80) rfl ?_
      refine X0.ldc2Long hx hown (mvT hZ (hw _ (List.mem_of_getElem? (i := 21) rfl))) (g := (mkF m 81 #[.val (.long vx), .second] [(.long vx)])) rfl (hb hby d2_81) _ ?_
      refine XS.lcmp X0.here hx rfl (hb hby d2_84) rfl ?_
      exact tl16 fs k
  have tl19 : ∀ fs, (∀ (f : JFrame) (acts : List Action), f.method = m → f.locked = none → f.entered = [] → (doReturn e (s₁.setTop f) acts (some (.int (if (2147483647 : Int64) < vx then (if (vx < (-549755813888 : Int64)) ∨ ((549755813887 : Int64) < vx) then (if (vx < (-140737488355328 : Int64)) ∨ ((140737488355327 : Int64) < vx) then (if (vx < (-36028797018963968 : Int64)) ∨ ((36028797018963967 : Int64) < vx) then (8 : Int32) else (7 : Int32)) else (6 : Int32)) else (5 : Int32)) else (4 : Int32))))).1 = s₁.setFrames fs) → Steps p.tables e below (s₁.setTop (mkF m 67 #[.val (.long vx), .second] [(.int (XT.cmpL vx (2147483647 : Int64)))])) (s₁.setFrames fs) := fun fs k => by
    by_cases hb18 : (2147483647 : Int64) < vx
    · refine XS.ifYes X0.here hx rfl (pc0 := 67) (pc' := 72) rfl (hb hby d2_67) rfl (XT.ll_gt_t hb18) (by decide) (by decide) ?_
      rw [show (if (2147483647 : Int64) < vx then (if (vx < (-549755813888 : Int64)) ∨ ((549755813887 : Int64) < vx) then (if (vx < (-140737488355328 : Int64)) ∨ ((140737488355327 : Int64) < vx) then (if (vx < (-36028797018963968 : Int64)) ∨ ((36028797018963967 : Int64) < vx) then (8 : Int32) else (7 : Int32)) else (6 : Int32)) else (5 : Int32)) else (4 : Int32)) = (if (vx < (-549755813888 : Int64)) ∨ ((549755813887 : Int64) < vx) then (if (vx < (-140737488355328 : Int64)) ∨ ((140737488355327 : Int64) < vx) then (if (vx < (-36028797018963968 : Int64)) ∨ ((36028797018963967 : Int64) < vx) then (8 : Int32) else (7 : Int32)) else (6 : Int32)) else (5 : Int32)) from if_pos hb18] at k
      show Steps p.tables e below (s₁.setTop (mkF m 72 #[.val (.long vx), .second] [])) _
      refine XS.lloadN X0.here hx rfl (hb hby d2_72) rfl ?_
      refine X0.ldc2Long hx hown (mvT hZ (hw _ (List.mem_of_getElem? (i := 14) rfl))) (g := (mkF m 73 #[.val (.long vx), .second] [(.long vx)])) rfl (hb hby d2_73) _ ?_
      refine XS.lcmp X0.here hx rfl (hb hby d2_76) rfl ?_
      exact tl17 fs k
    · refine XS.ifNo X0.here hx rfl (hb hby d2_67) rfl (XT.ll_gt_f hb18) ?_
      rw [show (if (2147483647 : Int64) < vx then (if (vx < (-549755813888 : Int64)) ∨ ((549755813887 : Int64) < vx) then (if (vx < (-140737488355328 : Int64)) ∨ ((140737488355327 : Int64) < vx) then (if (vx < (-36028797018963968 : Int64)) ∨ ((36028797018963967 : Int64) < vx) then (8 : Int32) else (7 : Int32)) else (6 : Int32)) else (5 : Int32)) else (4 : Int32)) = (4 : Int32) from if_neg hb18] at k
      show Steps p.tables e below (s₁.setTop (mkF m 70 #[.val (.long vx), .second] [])) _
      refine XS.iconst X0.here hx rfl (hb hby d2_70) ?_
      exact Jvm.Own.retI X0 hx Bd.returns (hb hby d2_71) k
  have tl20 : ∀ fs, (∀ (f : JFrame) (acts : List Action), f.method = m → f.locked = none → f.entered = [] → (doReturn e (s₁.setTop f) acts (some (.int (if (vx < (-2147483648 : Int64)) ∨ ((2147483647 : Int64) < vx) then (if (vx < (-549755813888 : Int64)) ∨ ((549755813887 : Int64) < vx) then (if (vx < (-140737488355328 : Int64)) ∨ ((140737488355327 : Int64) < vx) then (if (vx < (-36028797018963968 : Int64)) ∨ ((36028797018963967 : Int64) < vx) then (8 : Int32) else (7 : Int32)) else (6 : Int32)) else (5 : Int32)) else (4 : Int32))))).1 = s₁.setFrames fs) → Steps p.tables e below (s₁.setTop (mkF m 59 #[.val (.long vx), .second] [(.int (XT.cmpL vx (-2147483648 : Int64)))])) (s₁.setFrames fs) := fun fs k => by
    by_cases hb5 : vx < (-2147483648 : Int64)
    · refine XS.ifYes X0.here hx rfl (pc0 := 59) (pc' := 72) rfl (hb hby d2_59) rfl (XT.ll_lt_t hb5) (by decide) (by decide) ?_
      rw [show (if (vx < (-2147483648 : Int64)) ∨ ((2147483647 : Int64) < vx) then (if (vx < (-549755813888 : Int64)) ∨ ((549755813887 : Int64) < vx) then (if (vx < (-140737488355328 : Int64)) ∨ ((140737488355327 : Int64) < vx) then (if (vx < (-36028797018963968 : Int64)) ∨ ((36028797018963967 : Int64) < vx) then (8 : Int32) else (7 : Int32)) else (6 : Int32)) else (5 : Int32)) else (4 : Int32)) = (if (vx < (-549755813888 : Int64)) ∨ ((549755813887 : Int64) < vx) then (if (vx < (-140737488355328 : Int64)) ∨ ((140737488355327 : Int64) < vx) then (if (vx < (-36028797018963968 : Int64)) ∨ ((36028797018963967 : Int64) < vx) then (8 : Int32) else (7 : Int32)) else (6 : Int32)) else (5 : Int32)) from ite_or_t hb5] at k
      show Steps p.tables e below (s₁.setTop (mkF m 72 #[.val (.long vx), .second] [])) _
      refine XS.lloadN X0.here hx rfl (hb hby d2_72) rfl ?_
      refine X0.ldc2Long hx hown (mvT hZ (hw _ (List.mem_of_getElem? (i := 14) rfl))) (g := (mkF m 73 #[.val (.long vx), .second] [(.long vx)])) rfl (hb hby d2_73) _ ?_
      refine XS.lcmp X0.here hx rfl (hb hby d2_76) rfl ?_
      exact tl17 fs k
    · refine XS.ifNo X0.here hx rfl (hb hby d2_59) rfl (XT.ll_lt_f hb5) ?_
      rw [show (if (vx < (-2147483648 : Int64)) ∨ ((2147483647 : Int64) < vx) then (if (vx < (-549755813888 : Int64)) ∨ ((549755813887 : Int64) < vx) then (if (vx < (-140737488355328 : Int64)) ∨ ((140737488355327 : Int64) < vx) then (if (vx < (-36028797018963968 : Int64)) ∨ ((36028797018963967 : Int64) < vx) then (8 : Int32) else (7 : Int32)) else (6 : Int32)) else (5 : Int32)) else (4 : Int32)) = (if (2147483647 : Int64) < vx then (if (vx < (-549755813888 : Int64)) ∨ ((549755813887 : Int64) < vx) then (if (vx < (-140737488355328 : Int64)) ∨ ((140737488355327 : Int64) < vx) then (if (vx < (-36028797018963968 : Int64)) ∨ ((36028797018963967 : Int64) < vx) then (8 : Int32) else (7 : Int32)) else (6 : Int32)) else (5 : Int32)) else (4 : Int32)) from ite_or_f hb5] at k
      show Steps p.tables e below (s₁.setTop (mkF m 62 #[.val (.long vx), .second] [])) _
      refine XS.lloadN X0.here hx rfl (hb hby d2_62) rfl ?_
      refine X0.ldc2Long hx hown (mvT hZ (hw _ (List.mem_of_getElem? (i := 19) rfl))) (g := (mkF m 63 #[.val (.long vx), .second] [(.long vx)])) rfl (hb hby d2_63) _ ?_
      refine XS.lcmp X0.here hx rfl (hb hby d2_66) rfl ?_
      exact tl19 fs k
  have tl22 : ∀ fs, (∀ (f : JFrame) (acts : List Action), f.method = m → f.locked = none → f.entered = [] → (doReturn e (s₁.setTop f) acts (some (.int (if (8388607 : Int64) < vx then (if (vx < (-2147483648 : Int64)) ∨ ((2147483647 : Int64) < vx) then (if (vx < (-549755813888 : Int64)) ∨ ((549755813887 : Int64) < vx) then (if (vx < (-140737488355328 : Int64)) ∨ ((140737488355327 : Int64) < vx) then (if (vx < (-36028797018963968 : Int64)) ∨ ((36028797018963967 : Int64) < vx) then (8 : Int32) else (7 : Int32)) else (6 : Int32)) else (5 : Int32)) else (4 : Int32)) else (3 : Int32))))).1 = s₁.setFrames fs) → Steps p.tables e below (s₁.setTop (mkF m 49 #[.val (.long vx), .second] [(.int (XT.cmpL vx (8388607 : Int64)))])) (s₁.setFrames fs) := fun fs k => by
    by_cases hb21 : (8388607 : Int64) < vx
    · refine XS.ifYes X0.here hx rfl (pc0 := 49) (pc' := 54) rfl (hb hby d2_49) rfl (XT.ll_gt_t hb21) (by decide) (by decide) ?_
      rw [show (if (8388607 : Int64) < vx then (if (vx < (-2147483648 : Int64)) ∨ ((2147483647 : Int64) < vx) then (if (vx < (-549755813888 : Int64)) ∨ ((549755813887 : Int64) < vx) then (if (vx < (-140737488355328 : Int64)) ∨ ((140737488355327 : Int64) < vx) then (if (vx < (-36028797018963968 : Int64)) ∨ ((36028797018963967 : Int64) < vx) then (8 : Int32) else (7 : Int32)) else (6 : Int32)) else (5 : Int32)) else (4 : Int32)) else (3 : Int32)) = (if (vx < (-2147483648 : Int64)) ∨ ((2147483647 : Int64) < vx) then (if (vx < (-549755813888 : Int64)) ∨ ((549755813887 : Int64) < vx) then (if (vx < (-140737488355328 : Int64)) ∨ ((140737488355327 : Int64) < vx) then (if (vx < (-36028797018963968 : Int64)) ∨ ((36028797018963967 : Int64) < vx) then (8 : Int32) else (7 : Int32)) else (6 : Int32)) else (5 : Int32)) else (4 : Int32)) from if_pos hb21] at k
      show Steps p.tables e below (s₁.setTop (mkF m 54 #[.val (.long vx), .second] [])) _
      refine XS.lloadN X0.here hx rfl (hb hby d2_54) rfl ?_
      refine X0.ldc2Long hx hown (mvT hZ (hw _ (List.mem_of_getElem? (i := 13) rfl))) (g := (mkF m 55 #[.val (.long vx), .second] [(.long vx)])) rfl (hb hby d2_55) _ ?_
      refine XS.lcmp X0.here hx rfl (hb hby d2_58) rfl ?_
      exact tl20 fs k
    · refine XS.ifNo X0.here hx rfl (hb hby d2_49) rfl (XT.ll_gt_f hb21) ?_
      rw [show (if (8388607 : Int64) < vx then (if (vx < (-2147483648 : Int64)) ∨ ((2147483647 : Int64) < vx) then (if (vx < (-549755813888 : Int64)) ∨ ((549755813887 : Int64) < vx) then (if (vx < (-140737488355328 : Int64)) ∨ ((140737488355327 : Int64) < vx) then (if (vx < (-36028797018963968 : Int64)) ∨ ((36028797018963967 : Int64) < vx) then (8 : Int32) else (7 : Int32)) else (6 : Int32)) else (5 : Int32)) else (4 : Int32)) else (3 : Int32)) = (3 : Int32) from if_neg hb21] at k
      show Steps p.tables e below (s₁.setTop (mkF m 52 #[.val (.long vx), .second] [])) _
      refine XS.iconst X0.here hx rfl (hb hby d2_52) ?_
      exact Jvm.Own.retI X0 hx Bd.returns (hb hby d2_53) k
  have tl23 : ∀ fs, (∀ (f : JFrame) (acts : List Action), f.method = m → f.locked = none → f.entered = [] → (doReturn e (s₁.setTop f) acts (some (.int (if (vx < (-8388608 : Int64)) ∨ ((8388607 : Int64) < vx) then (if (vx < (-2147483648 : Int64)) ∨ ((2147483647 : Int64) < vx) then (if (vx < (-549755813888 : Int64)) ∨ ((549755813887 : Int64) < vx) then (if (vx < (-140737488355328 : Int64)) ∨ ((140737488355327 : Int64) < vx) then (if (vx < (-36028797018963968 : Int64)) ∨ ((36028797018963967 : Int64) < vx) then (8 : Int32) else (7 : Int32)) else (6 : Int32)) else (5 : Int32)) else (4 : Int32)) else (3 : Int32))))).1 = s₁.setFrames fs) → Steps p.tables e below (s₁.setTop (mkF m 41 #[.val (.long vx), .second] [(.int (XT.cmpL vx (-8388608 : Int64)))])) (s₁.setFrames fs) := fun fs k => by
    by_cases hb4 : vx < (-8388608 : Int64)
    · refine XS.ifYes X0.here hx rfl (pc0 := 41) (pc' := 54) rfl (hb hby d2_41) rfl (XT.ll_lt_t hb4) (by decide) (by decide) ?_
      rw [show (if (vx < (-8388608 : Int64)) ∨ ((8388607 : Int64) < vx) then (if (vx < (-2147483648 : Int64)) ∨ ((2147483647 : Int64) < vx) then (if (vx < (-549755813888 : Int64)) ∨ ((549755813887 : Int64) < vx) then (if (vx < (-140737488355328 : Int64)) ∨ ((140737488355327 : Int64) < vx) then (if (vx < (-36028797018963968 : Int64)) ∨ ((36028797018963967 : Int64) < vx) then (8 : Int32) else (7 : Int32)) else (6 : Int32)) else (5 : Int32)) else (4 : Int32)) else (3 : Int32)) = (if (vx < (-2147483648 : Int64)) ∨ ((2147483647 : Int64) < vx) then (if (vx < (-549755813888 : Int64)) ∨ ((549755813887 : Int64) < vx) then (if (vx < (-140737488355328 : Int64)) ∨ ((140737488355327 : Int64) < vx) then (if (vx < (-36028797018963968 : Int64)) ∨ ((36028797018963967 : Int64) < vx) then (8 : Int32) else (7 : Int32)) else (6 : Int32)) else (5 : Int32)) else (4 : Int32)) from ite_or_t hb4] at k
      show Steps p.tables e below (s₁.setTop (mkF m 54 #[.val (.long vx), .second] [])) _
      refine XS.lloadN X0.here hx rfl (hb hby d2_54) rfl ?_
      refine X0.ldc2Long hx hown (mvT hZ (hw _ (List.mem_of_getElem? (i := 13) rfl))) (g := (mkF m 55 #[.val (.long vx), .second] [(.long vx)])) rfl (hb hby d2_55) _ ?_
      refine XS.lcmp X0.here hx rfl (hb hby d2_58) rfl ?_
      exact tl20 fs k
    · refine XS.ifNo X0.here hx rfl (hb hby d2_41) rfl (XT.ll_lt_f hb4) ?_
      rw [show (if (vx < (-8388608 : Int64)) ∨ ((8388607 : Int64) < vx) then (if (vx < (-2147483648 : Int64)) ∨ ((2147483647 : Int64) < vx) then (if (vx < (-549755813888 : Int64)) ∨ ((549755813887 : Int64) < vx) then (if (vx < (-140737488355328 : Int64)) ∨ ((140737488355327 : Int64) < vx) then (if (vx < (-36028797018963968 : Int64)) ∨ ((36028797018963967 : Int64) < vx) then (8 : Int32) else (7 : Int32)) else (6 : Int32)) else (5 : Int32)) else (4 : Int32)) else (3 : Int32)) = (if (8388607 : Int64) < vx then (if (vx < (-2147483648 : Int64)) ∨ ((2147483647 : Int64) < vx) then (if (vx < (-549755813888 : Int64)) ∨ ((549755813887 : Int64) < vx) then (if (vx < (-140737488355328 : Int64)) ∨ ((140737488355327 : Int64) < vx) then (if (vx < (-36028797018963968 : Int64)) ∨ ((36028797018963967 : Int64) < vx) then (8 : Int32) else (7 : Int32)) else (6 : Int32)) else (5 : Int32)) else (4 : Int32)) else (3 : Int32)) from ite_or_f hb4] at k
      show Steps p.tables e below (s₁.setTop (mkF m 44 #[.val (.long vx), .second] [])) _
      refine XS.lloadN X0.here hx rfl (hb hby d2_44) rfl ?_
      refine X0.ldc2Long hx hown (mvT hZ (hw _ (List.mem_of_getElem? (i := 20) rfl))) (g := (mkF m 45 #[.val (.long vx), .second] [(.long vx)])) rfl (hb hby d2_45) _ ?_
      refine XS.lcmp X0.here hx rfl (hb hby d2_48) rfl ?_
      exact tl22 fs k
  have tl25 : ∀ fs, (∀ (f : JFrame) (acts : List Action), f.method = m → f.locked = none → f.entered = [] → (doReturn e (s₁.setTop f) acts (some (.int (if (32767 : Int64) < vx then (if (vx < (-8388608 : Int64)) ∨ ((8388607 : Int64) < vx) then (if (vx < (-2147483648 : Int64)) ∨ ((2147483647 : Int64) < vx) then (if (vx < (-549755813888 : Int64)) ∨ ((549755813887 : Int64) < vx) then (if (vx < (-140737488355328 : Int64)) ∨ ((140737488355327 : Int64) < vx) then (if (vx < (-36028797018963968 : Int64)) ∨ ((36028797018963967 : Int64) < vx) then (8 : Int32) else (7 : Int32)) else (6 : Int32)) else (5 : Int32)) else (4 : Int32)) else (3 : Int32)) else (2 : Int32))))).1 = s₁.setFrames fs) → Steps p.tables e below (s₁.setTop (mkF m 31 #[.val (.long vx), .second] [(.int (XT.cmpL vx (32767 : Int64)))])) (s₁.setFrames fs) := fun fs k => by
    by_cases hb24 : (32767 : Int64) < vx
    · refine XS.ifYes X0.here hx rfl (pc0 := 31) (pc' := 36) rfl (hb hby d2_31) rfl (XT.ll_gt_t hb24) (by decide) (by decide) ?_
      rw [show (if (32767 : Int64) < vx then (if (vx < (-8388608 : Int64)) ∨ ((8388607 : Int64) < vx) then (if (vx < (-2147483648 : Int64)) ∨ ((2147483647 : Int64) < vx) then (if (vx < (-549755813888 : Int64)) ∨ ((549755813887 : Int64) < vx) then (if (vx < (-140737488355328 : Int64)) ∨ ((140737488355327 : Int64) < vx) then (if (vx < (-36028797018963968 : Int64)) ∨ ((36028797018963967 : Int64) < vx) then (8 : Int32) else (7 : Int32)) else (6 : Int32)) else (5 : Int32)) else (4 : Int32)) else (3 : Int32)) else (2 : Int32)) = (if (vx < (-8388608 : Int64)) ∨ ((8388607 : Int64) < vx) then (if (vx < (-2147483648 : Int64)) ∨ ((2147483647 : Int64) < vx) then (if (vx < (-549755813888 : Int64)) ∨ ((549755813887 : Int64) < vx) then (if (vx < (-140737488355328 : Int64)) ∨ ((140737488355327 : Int64) < vx) then (if (vx < (-36028797018963968 : Int64)) ∨ ((36028797018963967 : Int64) < vx) then (8 : Int32) else (7 : Int32)) else (6 : Int32)) else (5 : Int32)) else (4 : Int32)) else (3 : Int32)) from if_pos hb24] at k
      show Steps p.tables e below (s₁.setTop (mkF m 36 #[.val (.long vx), .second] [])) _
      refine XS.lloadN X0.here hx rfl (hb hby d2_36) rfl ?_
      refine X0.ldc2Long hx hown (mvT hZ (hw _ (List.mem_of_getElem? (i := 12) rfl))) (g := (mkF m 37 #[.val (.long vx), .second] [(.long vx)])) rfl (hb hby d2_37) _ ?_
      refine XS.lcmp X0.here hx rfl (hb hby d2_40) rfl ?_
      exact tl23 fs k
    · refine XS.ifNo X0.here hx rfl (hb hby d2_31) rfl (XT.ll_gt_f hb24) ?_
      rw [show (if (32767 : Int64) < vx then (if (vx < (-8388608 : Int64)) ∨ ((8388607 : Int64) < vx) then (if (vx < (-2147483648 : Int64)) ∨ ((2147483647 : Int64) < vx) then (if (vx < (-549755813888 : Int64)) ∨ ((549755813887 : Int64) < vx) then (if (vx < (-140737488355328 : Int64)) ∨ ((140737488355327 : Int64) < vx) then (if (vx < (-36028797018963968 : Int64)) ∨ ((36028797018963967 : Int64) < vx) then (8 : Int32) else (7 : Int32)) else (6 : Int32)) else (5 : Int32)) else (4 : Int32)) else (3 : Int32)) else (2 : Int32)) = (2 : Int32) from if_neg hb24] at k
      show Steps p.tables e below (s₁.setTop (mkF m 34 #[.val (.long vx), .second] [])) _
      refine XS.iconst X0.here hx rfl (hb hby d2_34) ?_
      exact Jvm.Own.retI X0 hx Bd.returns (hb hby d2_35) k
  have tl26 : ∀ fs, (∀ (f : JFrame) (acts : List Action), f.method = m → f.locked = none → f.entered = [] → (doReturn e (s₁.setTop f) acts (some (.int (if (vx < (-32768 : Int64)) ∨ ((32767 : Int64) < vx) then (if (vx < (-8388608 : Int64)) ∨ ((8388607 : Int64) < vx) then (if (vx < (-2147483648 : Int64)) ∨ ((2147483647 : Int64) < vx) then (if (vx < (-549755813888 : Int64)) ∨ ((549755813887 : Int64) < vx) then (if (vx < (-140737488355328 : Int64)) ∨ ((140737488355327 : Int64) < vx) then (if (vx < (-36028797018963968 : Int64)) ∨ ((36028797018963967 : Int64) < vx) then (8 : Int32) else (7 : Int32)) else (6 : Int32)) else (5 : Int32)) else (4 : Int32)) else (3 : Int32)) else (2 : Int32))))).1 = s₁.setFrames fs) → Steps p.tables e below (s₁.setTop (mkF m 23 #[.val (.long vx), .second] [(.int (XT.cmpL vx (-32768 : Int64)))])) (s₁.setFrames fs) := fun fs k => by
    by_cases hb3 : vx < (-32768 : Int64)
    · refine XS.ifYes X0.here hx rfl (pc0 := 23) (pc' := 36) rfl (hb hby d2_23) rfl (XT.ll_lt_t hb3) (by decide) (by decide) ?_
      rw [show (if (vx < (-32768 : Int64)) ∨ ((32767 : Int64) < vx) then (if (vx < (-8388608 : Int64)) ∨ ((8388607 : Int64) < vx) then (if (vx < (-2147483648 : Int64)) ∨ ((2147483647 : Int64) < vx) then (if (vx < (-549755813888 : Int64)) ∨ ((549755813887 : Int64) < vx) then (if (vx < (-140737488355328 : Int64)) ∨ ((140737488355327 : Int64) < vx) then (if (vx < (-36028797018963968 : Int64)) ∨ ((36028797018963967 : Int64) < vx) then (8 : Int32) else (7 : Int32)) else (6 : Int32)) else (5 : Int32)) else (4 : Int32)) else (3 : Int32)) else (2 : Int32)) = (if (vx < (-8388608 : Int64)) ∨ ((8388607 : Int64) < vx) then (if (vx < (-2147483648 : Int64)) ∨ ((2147483647 : Int64) < vx) then (if (vx < (-549755813888 : Int64)) ∨ ((549755813887 : Int64) < vx) then (if (vx < (-140737488355328 : Int64)) ∨ ((140737488355327 : Int64) < vx) then (if (vx < (-36028797018963968 : Int64)) ∨ ((36028797018963967 : Int64) < vx) then (8 : Int32) else (7 : Int32)) else (6 : Int32)) else (5 : Int32)) else (4 : Int32)) else (3 : Int32)) from ite_or_t hb3] at k
      show Steps p.tables e below (s₁.setTop (mkF m 36 #[.val (.long vx), .second] [])) _
      refine XS.lloadN X0.here hx rfl (hb hby d2_36) rfl ?_
      refine X0.ldc2Long hx hown (mvT hZ (hw _ (List.mem_of_getElem? (i := 12) rfl))) (g := (mkF m 37 #[.val (.long vx), .second] [(.long vx)])) rfl (hb hby d2_37) _ ?_
      refine XS.lcmp X0.here hx rfl (hb hby d2_40) rfl ?_
      exact tl23 fs k
    · refine XS.ifNo X0.here hx rfl (hb hby d2_23) rfl (XT.ll_lt_f hb3) ?_
      rw [show (if (vx < (-32768 : Int64)) ∨ ((32767 : Int64) < vx) then (if (vx < (-8388608 : Int64)) ∨ ((8388607 : Int64) < vx) then (if (vx < (-2147483648 : Int64)) ∨ ((2147483647 : Int64) < vx) then (if (vx < (-549755813888 : Int64)) ∨ ((549755813887 : Int64) < vx) then (if (vx < (-140737488355328 : Int64)) ∨ ((140737488355327 : Int64) < vx) then (if (vx < (-36028797018963968 : Int64)) ∨ ((36028797018963967 : Int64) < vx) then (8 : Int32) else (7 : Int32)) else (6 : Int32)) else (5 : Int32)) else (4 : Int32)) else (3 : Int32)) else (2 : Int32)) = (if (32767 : Int64) < vx then (if (vx < (-8388608 : Int64)) ∨ ((8388607 : Int64) < vx) then (if (vx < (-2147483648 : Int64)) ∨ ((2147483647 : Int64) < vx) then (if (vx < (-549755813888 : Int64)) ∨ ((549755813887 : Int64) < vx) then (if (vx < (-140737488355328 : Int64)) ∨ ((140737488355327 : Int64) < vx) then (if (vx < (-36028797018963968 : Int64)) ∨ ((36028797018963967 : Int64) < vx) then (8 : Int32) else (7 : Int32)) else (6 : Int32)) else (5 : Int32)) else (4 : Int32)) else (3 : Int32)) else (2 : Int32)) from ite_or_f hb3] at k
      show Steps p.tables e below (s₁.setTop (mkF m 26 #[.val (.long vx), .second] [])) _
      refine XS.lloadN X0.here hx rfl (hb hby d2_26) rfl ?_
      refine X0.ldc2Long hx hown (mvT hZ (hw _ (List.mem_of_getElem? (i := 17) rfl))) (g := (mkF m 27 #[.val (.long vx), .second] [(.long vx)])) rfl (hb hby d2_27) _ ?_
      refine XS.lcmp X0.here hx rfl (hb hby d2_30) rfl ?_
      exact tl25 fs k
  have tl28 : ∀ fs, (∀ (f : JFrame) (acts : List Action), f.method = m → f.locked = none → f.entered = [] → (doReturn e (s₁.setTop f) acts (some (.int (if (127 : Int64) < vx then (if (vx < (-32768 : Int64)) ∨ ((32767 : Int64) < vx) then (if (vx < (-8388608 : Int64)) ∨ ((8388607 : Int64) < vx) then (if (vx < (-2147483648 : Int64)) ∨ ((2147483647 : Int64) < vx) then (if (vx < (-549755813888 : Int64)) ∨ ((549755813887 : Int64) < vx) then (if (vx < (-140737488355328 : Int64)) ∨ ((140737488355327 : Int64) < vx) then (if (vx < (-36028797018963968 : Int64)) ∨ ((36028797018963967 : Int64) < vx) then (8 : Int32) else (7 : Int32)) else (6 : Int32)) else (5 : Int32)) else (4 : Int32)) else (3 : Int32)) else (2 : Int32)) else (1 : Int32))))).1 = s₁.setFrames fs) → Steps p.tables e below (s₁.setTop (mkF m 13 #[.val (.long vx), .second] [(.int (XT.cmpL vx (127 : Int64)))])) (s₁.setFrames fs) := fun fs k => by
    by_cases hb27 : (127 : Int64) < vx
    · refine XS.ifYes X0.here hx rfl (pc0 := 13) (pc' := 18) rfl (hb hby d2_13) rfl (XT.ll_gt_t hb27) (by decide) (by decide) ?_
      rw [show (if (127 : Int64) < vx then (if (vx < (-32768 : Int64)) ∨ ((32767 : Int64) < vx) then (if (vx < (-8388608 : Int64)) ∨ ((8388607 : Int64) < vx) then (if (vx < (-2147483648 : Int64)) ∨ ((2147483647 : Int64) < vx) then (if (vx < (-549755813888 : Int64)) ∨ ((549755813887 : Int64) < vx) then (if (vx < (-140737488355328 : Int64)) ∨ ((140737488355327 : Int64) < vx) then (if (vx < (-36028797018963968 : Int64)) ∨ ((36028797018963967 : Int64) < vx) then (8 : Int32) else (7 : Int32)) else (6 : Int32)) else (5 : Int32)) else (4 : Int32)) else (3 : Int32)) else (2 : Int32)) else (1 : Int32)) = (if (vx < (-32768 : Int64)) ∨ ((32767 : Int64) < vx) then (if (vx < (-8388608 : Int64)) ∨ ((8388607 : Int64) < vx) then (if (vx < (-2147483648 : Int64)) ∨ ((2147483647 : Int64) < vx) then (if (vx < (-549755813888 : Int64)) ∨ ((549755813887 : Int64) < vx) then (if (vx < (-140737488355328 : Int64)) ∨ ((140737488355327 : Int64) < vx) then (if (vx < (-36028797018963968 : Int64)) ∨ ((36028797018963967 : Int64) < vx) then (8 : Int32) else (7 : Int32)) else (6 : Int32)) else (5 : Int32)) else (4 : Int32)) else (3 : Int32)) else (2 : Int32)) from if_pos hb27] at k
      show Steps p.tables e below (s₁.setTop (mkF m 18 #[.val (.long vx), .second] [])) _
      refine XS.lloadN X0.here hx rfl (hb hby d2_18) rfl ?_
      refine X0.ldc2Long hx hown (mvT hZ (hw _ (List.mem_of_getElem? (i := 11) rfl))) (g := (mkF m 19 #[.val (.long vx), .second] [(.long vx)])) rfl (hb hby d2_19) _ ?_
      refine XS.lcmp X0.here hx rfl (hb hby d2_22) rfl ?_
      exact tl26 fs k
    · refine XS.ifNo X0.here hx rfl (hb hby d2_13) rfl (XT.ll_gt_f hb27) ?_
      rw [show (if (127 : Int64) < vx then (if (vx < (-32768 : Int64)) ∨ ((32767 : Int64) < vx) then (if (vx < (-8388608 : Int64)) ∨ ((8388607 : Int64) < vx) then (if (vx < (-2147483648 : Int64)) ∨ ((2147483647 : Int64) < vx) then (if (vx < (-549755813888 : Int64)) ∨ ((549755813887 : Int64) < vx) then (if (vx < (-140737488355328 : Int64)) ∨ ((140737488355327 : Int64) < vx) then (if (vx < (-36028797018963968 : Int64)) ∨ ((36028797018963967 : Int64) < vx) then (8 : Int32) else (7 : Int32)) else (6 : Int32)) else (5 : Int32)) else (4 : Int32)) else (3 : Int32)) else (2 : Int32)) else (1 : Int32)) = (1 : Int32) from if_neg hb27] at k
      show Steps p.tables e below (s₁.setTop (mkF m 16 #[.val (.long vx), .second] [])) _
      refine XS.iconst X0.here hx rfl (hb hby d2_16) ?_
      exact Jvm.Own.retI X0 hx Bd.returns (hb hby d2_17) k
  have tl29 : ∀ fs, (∀ (f : JFrame) (acts : List Action), f.method = m → f.locked = none → f.entered = [] → (doReturn e (s₁.setTop f) acts (some (.int (if (vx < (-128 : Int64)) ∨ ((127 : Int64) < vx) then (if (vx < (-32768 : Int64)) ∨ ((32767 : Int64) < vx) then (if (vx < (-8388608 : Int64)) ∨ ((8388607 : Int64) < vx) then (if (vx < (-2147483648 : Int64)) ∨ ((2147483647 : Int64) < vx) then (if (vx < (-549755813888 : Int64)) ∨ ((549755813887 : Int64) < vx) then (if (vx < (-140737488355328 : Int64)) ∨ ((140737488355327 : Int64) < vx) then (if (vx < (-36028797018963968 : Int64)) ∨ ((36028797018963967 : Int64) < vx) then (8 : Int32) else (7 : Int32)) else (6 : Int32)) else (5 : Int32)) else (4 : Int32)) else (3 : Int32)) else (2 : Int32)) else (1 : Int32))))).1 = s₁.setFrames fs) → Steps p.tables e below (s₁.setTop (mkF m 5 #[.val (.long vx), .second] [(.int (XT.cmpL vx (-128 : Int64)))])) (s₁.setFrames fs) := fun fs k => by
    by_cases hb2 : vx < (-128 : Int64)
    · refine XS.ifYes X0.here hx rfl (pc0 := 5) (pc' := 18) rfl (hb hby d2_5) rfl (XT.ll_lt_t hb2) (by decide) (by decide) ?_
      rw [show (if (vx < (-128 : Int64)) ∨ ((127 : Int64) < vx) then (if (vx < (-32768 : Int64)) ∨ ((32767 : Int64) < vx) then (if (vx < (-8388608 : Int64)) ∨ ((8388607 : Int64) < vx) then (if (vx < (-2147483648 : Int64)) ∨ ((2147483647 : Int64) < vx) then (if (vx < (-549755813888 : Int64)) ∨ ((549755813887 : Int64) < vx) then (if (vx < (-140737488355328 : Int64)) ∨ ((140737488355327 : Int64) < vx) then (if (vx < (-36028797018963968 : Int64)) ∨ ((36028797018963967 : Int64) < vx) then (8 : Int32) else (7 : Int32)) else (6 : Int32)) else (5 : Int32)) else (4 : Int32)) else (3 : Int32)) else (2 : Int32)) else (1 : Int32)) = (if (vx < (-32768 : Int64)) ∨ ((32767 : Int64) < vx) then (if (vx < (-8388608 : Int64)) ∨ ((8388607 : Int64) < vx) then (if (vx < (-2147483648 : Int64)) ∨ ((2147483647 : Int64) < vx) then (if (vx < (-549755813888 : Int64)) ∨ ((549755813887 : Int64) < vx) then (if (vx < (-140737488355328 : Int64)) ∨ ((140737488355327 : Int64) < vx) then (if (vx < (-36028797018963968 : Int64)) ∨ ((36028797018963967 : Int64) < vx) then (8 : Int32) else (7 : Int32)) else (6 : Int32)) else (5 : Int32)) else (4 : Int32)) else (3 : Int32)) else (2 : Int32)) from ite_or_t hb2] at k
      show Steps p.tables e below (s₁.setTop (mkF m 18 #[.val (.long vx), .second] [])) _
      refine XS.lloadN X0.here hx rfl (hb hby d2_18) rfl ?_
      refine X0.ldc2Long hx hown (mvT hZ (hw _ (List.mem_of_getElem? (i := 11) rfl))) (g := (mkF m 19 #[.val (.long vx), .second] [(.long vx)])) rfl (hb hby d2_19) _ ?_
      refine XS.lcmp X0.here hx rfl (hb hby d2_22) rfl ?_
      exact tl26 fs k
    · refine XS.ifNo X0.here hx rfl (hb hby d2_5) rfl (XT.ll_lt_f hb2) ?_
      rw [show (if (vx < (-128 : Int64)) ∨ ((127 : Int64) < vx) then (if (vx < (-32768 : Int64)) ∨ ((32767 : Int64) < vx) then (if (vx < (-8388608 : Int64)) ∨ ((8388607 : Int64) < vx) then (if (vx < (-2147483648 : Int64)) ∨ ((2147483647 : Int64) < vx) then (if (vx < (-549755813888 : Int64)) ∨ ((549755813887 : Int64) < vx) then (if (vx < (-140737488355328 : Int64)) ∨ ((140737488355327 : Int64) < vx) then (if (vx < (-36028797018963968 : Int64)) ∨ ((36028797018963967 : Int64) < vx) then (8 : Int32) else (7 : Int32)) else (6 : Int32)) else (5 : Int32)) else (4 : Int32)) else (3 : Int32)) else (2 : Int32)) else (1 : Int32)) = (if (127 : Int64) < vx then (if (vx < (-32768 : Int64)) ∨ ((32767 : Int64) < vx) then (if (vx < (-8388608 : Int64)) ∨ ((8388607 : Int64) < vx) then (if (vx < (-2147483648 : Int64)) ∨ ((2147483647 : Int64) < vx) then (if (vx < (-549755813888 : Int64)) ∨ ((549755813887 : Int64) < vx) then (if (vx < (-140737488355328 : Int64)) ∨ ((140737488355327 : Int64) < vx) then (if (vx < (-36028797018963968 : Int64)) ∨ ((36028797018963967 : Int64) < vx) then (8 : Int32) else (7 : Int32)) else (6 : Int32)) else (5 : Int32)) else (4 : Int32)) else (3 : Int32)) else (2 : Int32)) else (1 : Int32)) from ite_or_f hb2] at k
      show Steps p.tables e below (s₁.setTop (mkF m 8 #[.val (.long vx), .second] [])) _
      refine XS.lloadN X0.here hx rfl (hb hby d2_8) rfl ?_
      refine X0.ldc2Long hx hown (mvT hZ (hw _ (List.mem_of_getElem? (i := 10) rfl))) (g := (mkF m 9 #[.val (.long vx), .second] [(.long vx)])) rfl (hb hby d2_9) _ ?_
      refine XS.lcmp X0.here hx rfl (hb hby d2_12) rfl ?_
      exact tl28 fs k
  obtain ⟨fs, hr, hrun, hended, hW, hsame⟩ := X0.leave (v := some (.int (if (vx < (-128 : Int64)) ∨ ((127 : Int64) < vx) then (if (vx < (-32768 : Int64)) ∨ ((32767 : Int64) < vx) then (if (vx < (-8388608 : Int64)) ∨ ((8388607 : Int64) < vx) then (if (vx < (-2147483648 : Int64)) ∨ ((2147483647 : Int64) < vx) then (if (vx < (-549755813888 : Int64)) ∨ ((549755813887 : Int64) < vx) then (if (vx < (-140737488355328 : Int64)) ∨ ((140737488355327 : Int64) < vx) then (if (vx < (-36028797018963968 : Int64)) ∨ ((36028797018963967 : Int64) < vx) then (8 : Int32) else (7 : Int32)) else (6 : Int32)) else (5 : Int32)) else (4 : Int32)) else (3 : Int32)) else (2 : Int32)) else (1 : Int32)))) (fun h => by rw [Bd.returns] at h; cases h)
  refine ⟨_, _, pre1 _ ?_, hrun, hended, _, _, rfl, ?_, ⟨_, rfl⟩, hW, hsame.mono (by decide) (by decide)⟩
  · skip
    exact tl29 fs hr
  · show Q2 Z vx n0 Rst _ s₁.heap _
    rw [e0]
    exact ⟨(by first | rfl | simp only [F2]), N0, R0⟩
theorem d1_0 : decode prog_12_method_3_code 0 = .ok (.iconst 1, 1) := by decide +kernel
theorem d1_1 : decode prog_12_method_3_code 1 = .ok (.istore_n 2, 1) := by decide +kernel
theorem d1_2 : decode prog_12_method_3_code 2 = .ok (.iload_n 2, 1) := by decide +kernel
theorem d1_3 : decode prog_12_method_3_code 3 = .ok (.bipush 8, 2) := by decide +kernel
theorem d1_5 : decode prog_12_method_3_code 5 = .ok (.if_icmp .ge 25, 3) := by decide +kernel
theorem d1_8 : decode prog_12_method_3_code 8 = .ok (.lload_n 0, 1) := by decide +kernel
theorem d1_9 : decode prog_12_method_3_code 9 = .ok (.iload_n 2, 1) := by decide +kernel
theorem d1_10 : decode prog_12_method_3_code 10 = .ok (.bipush 8, 2) := by decide +kernel
theorem d1_12 : decode prog_12_method_3_code 12 = .ok (.imul, 1) := by decide +kernel
theorem d1_13 : decode prog_12_method_3_code 13 = .ok (.iconst 1, 1) := by decide +kernel
theorem d1_14 : decode prog_12_method_3_code 14 = .ok (.isub, 1) := by decide +kernel
theorem d1_15 : decode prog_12_method_3_code 15 = .ok (.lshr, 1) := by decide +kernel
theorem d1_16 : decode prog_12_method_3_code 16 = .ok (.lload_n 0, 1) := by decide +kernel
theorem d1_17 : decode prog_12_method_3_code 17 = .ok (.bipush 63, 2) := by decide +kernel
theorem d1_19 : decode prog_12_method_3_code 19 = .ok (.lshr, 1) := by decide +kernel
theorem d1_20 : decode prog_12_method_3_code 20 = .ok (.lcmp, 1) := by decide +kernel
theorem d1_21 : decode prog_12_method_3_code 21 = .ok (.ifCond .eq 9, 3) := by decide +kernel
theorem d1_30 : decode prog_12_method_3_code 30 = .ok (.iload_n 2, 1) := by decide +kernel
theorem d1_31 : decode prog_12_method_3_code 31 = .ok (.newarray .byte, 2) := by decide +kernel
theorem d1_33 : decode prog_12_method_3_code 33 = .ok (.astore_n 3, 1) := by decide +kernel
theorem d1_34 : decode prog_12_method_3_code 34 = .ok (.iconst 0, 1) := by decide +kernel
theorem d1_35 : decode prog_12_method_3_code 35 = .ok (.istore 4, 2) := by decide +kernel
theorem d1_37 : decode prog_12_method_3_code 37 = .ok (.iload 4, 2) := by decide +kernel
theorem d1_39 : decode prog_12_method_3_code 39 = .ok (.iload_n 2, 1) := by decide +kernel
theorem d1_40 : decode prog_12_method_3_code 40 = .ok (.if_icmp .ge 26, 3) := by decide +kernel
theorem d1_43 : decode prog_12_method_3_code 43 = .ok (.aload_n 3, 1) := by decide +kernel
theorem d1_44 : decode prog_12_method_3_code 44 = .ok (.iload 4, 2) := by decide +kernel
theorem d1_46 : decode prog_12_method_3_code 46 = .ok (.lload_n 0, 1) := by decide +kernel
theorem d1_47 : decode prog_12_method_3_code 47 = .ok (.iload_n 2, 1) := by decide +kernel
theorem d1_48 : decode prog_12_method_3_code 48 = .ok (.iconst 1, 1) := by decide +kernel
theorem d1_49 : decode prog_12_method_3_code 49 = .ok (.isub, 1) := by decide +kernel
theorem d1_50 : decode prog_12_method_3_code 50 = .ok (.iload 4, 2) := by decide +kernel
theorem d1_52 : decode prog_12_method_3_code 52 = .ok (.isub, 1) := by decide +kernel
theorem d1_53 : decode prog_12_method_3_code 53 = .ok (.bipush 8, 2) := by decide +kernel
theorem d1_55 : decode prog_12_method_3_code 55 = .ok (.imul, 1) := by decide +kernel
theorem d1_56 : decode prog_12_method_3_code 56 = .ok (.lshr, 1) := by decide +kernel
theorem d1_57 : decode prog_12_method_3_code 57 = .ok (.l2i, 1) := by decide +kernel
theorem d1_58 : decode prog_12_method_3_code 58 = .ok (.i2b, 1) := by decide +kernel
theorem d1_59 : decode prog_12_method_3_code 59 = .ok (.bastore, 1) := by decide +kernel
theorem d1_60 : decode prog_12_method_3_code 60 = .ok (.iinc 4 1, 3) := by decide +kernel
theorem d1_63 : decode prog_12_method_3_code 63 = .ok (.goto (-26), 3) := by decide +kernel
theorem d1_66 : decode prog_12_method_3_code 66 = .ok (.aload_n 3, 1) := by decide +kernel
theorem d1_67 : decode prog_12_method_3_code 67 = .ok (.areturn, 1) := by decide +kernel
theorem d1_24 : decode prog_12_method_3_code 24 = .ok (.iinc 2 1, 3) := by decide +kernel
theorem d1_27 : decode prog_12_method_3_code 27 = .ok (.goto (-25), 3) := by decide +kernel
theorem pn_com_example_sidetrack_sidetrack_codec_BerInteger : plainName "com/example/sidetrack/sidetrack/codec/BerInteger" = true := by first | (simp [plainName, overriddenIn]; done) | decide +kernel
theorem ef_1 (m : MethodId) (x0 : Int64) : entryFrame m #[(.long x0)] 5 = mkF m 0 #[.val (.long x0), .second, .unset, .unset, .unset] [] := by first | (simp [entryFrame, mkF, argsToLocals, Value.category]; done) | rfl
def EB (vx : Int64) : List Value :=
  if (lshr vx (7 : Int32)) = (lshr vx (63 : Int32)) then
    [(.int ((((lshr vx (0 : Int32)).toInt32).toInt8.toInt32).toInt8.toInt32))]
  else
    if (lshr vx (15 : Int32)) = (lshr vx (63 : Int32)) then
      [(.int ((((lshr vx (8 : Int32)).toInt32).toInt8.toInt32).toInt8.toInt32)), (.int ((((lshr vx (0 : Int32)).toInt32).toInt8.toInt32).toInt8.toInt32))]
    else
      if (lshr vx (23 : Int32)) = (lshr vx (63 : Int32)) then
        [(.int ((((lshr vx (16 : Int32)).toInt32).toInt8.toInt32).toInt8.toInt32)), (.int ((((lshr vx (8 : Int32)).toInt32).toInt8.toInt32).toInt8.toInt32)), (.int ((((lshr vx (0 : Int32)).toInt32).toInt8.toInt32).toInt8.toInt32))]
      else
        if (lshr vx (31 : Int32)) = (lshr vx (63 : Int32)) then
          [(.int ((((lshr vx (24 : Int32)).toInt32).toInt8.toInt32).toInt8.toInt32)), (.int ((((lshr vx (16 : Int32)).toInt32).toInt8.toInt32).toInt8.toInt32)), (.int ((((lshr vx (8 : Int32)).toInt32).toInt8.toInt32).toInt8.toInt32)), (.int ((((lshr vx (0 : Int32)).toInt32).toInt8.toInt32).toInt8.toInt32))]
        else
          if (lshr vx (39 : Int32)) = (lshr vx (63 : Int32)) then
            [(.int ((((lshr vx (32 : Int32)).toInt32).toInt8.toInt32).toInt8.toInt32)), (.int ((((lshr vx (24 : Int32)).toInt32).toInt8.toInt32).toInt8.toInt32)), (.int ((((lshr vx (16 : Int32)).toInt32).toInt8.toInt32).toInt8.toInt32)), (.int ((((lshr vx (8 : Int32)).toInt32).toInt8.toInt32).toInt8.toInt32)), (.int ((((lshr vx (0 : Int32)).toInt32).toInt8.toInt32).toInt8.toInt32))]
          else
            if (lshr vx (47 : Int32)) = (lshr vx (63 : Int32)) then
              [(.int ((((lshr vx (40 : Int32)).toInt32).toInt8.toInt32).toInt8.toInt32)), (.int ((((lshr vx (32 : Int32)).toInt32).toInt8.toInt32).toInt8.toInt32)), (.int ((((lshr vx (24 : Int32)).toInt32).toInt8.toInt32).toInt8.toInt32)), (.int ((((lshr vx (16 : Int32)).toInt32).toInt8.toInt32).toInt8.toInt32)), (.int ((((lshr vx (8 : Int32)).toInt32).toInt8.toInt32).toInt8.toInt32)), (.int ((((lshr vx (0 : Int32)).toInt32).toInt8.toInt32).toInt8.toInt32))]
            else
              if (lshr vx (55 : Int32)) = (lshr vx (63 : Int32)) then
                [(.int ((((lshr vx (48 : Int32)).toInt32).toInt8.toInt32).toInt8.toInt32)), (.int ((((lshr vx (40 : Int32)).toInt32).toInt8.toInt32).toInt8.toInt32)), (.int ((((lshr vx (32 : Int32)).toInt32).toInt8.toInt32).toInt8.toInt32)), (.int ((((lshr vx (24 : Int32)).toInt32).toInt8.toInt32).toInt8.toInt32)), (.int ((((lshr vx (16 : Int32)).toInt32).toInt8.toInt32).toInt8.toInt32)), (.int ((((lshr vx (8 : Int32)).toInt32).toInt8.toInt32).toInt8.toInt32)), (.int ((((lshr vx (0 : Int32)).toInt32).toInt8.toInt32).toInt8.toInt32))]
              else
                [(.int ((((lshr vx (56 : Int32)).toInt32).toInt8.toInt32).toInt8.toInt32)), (.int ((((lshr vx (48 : Int32)).toInt32).toInt8.toInt32).toInt8.toInt32)), (.int ((((lshr vx (40 : Int32)).toInt32).toInt8.toInt32).toInt8.toInt32)), (.int ((((lshr vx (32 : Int32)).toInt32).toInt8.toInt32).toInt8.toInt32)), (.int ((((lshr vx (24 : Int32)).toInt32).toInt8.toInt32).toInt8.toInt32)), (.int ((((lshr vx (16 : Int32)).toInt32).toInt8.toInt32).toInt8.toInt32)), (.int ((((lshr vx (8 : Int32)).toInt32).toInt8.toInt32).toInt8.toInt32)), (.int ((((lshr vx (0 : Int32)).toInt32).toInt8.toInt32).toInt8.toInt32))]
def Q1 (Z : State) (vx : Int64) (n0 : Nat) (Rst : RL) (v : Option Value) (h : Heap) (L : List Loc) : Prop := ∃ bx : Addr, v = some (.ref bx) ∧ Fr n0 L ∧ Rep Z n0 h ((bx, Ar .byte (EB vx)) :: Rst)
set_option maxRecDepth 65536 in
set_option maxHeartbeats 40000000 in
theorem rm1 (l : Launch) (Z : State) (a0 : Array Value) (hw : ∀ d ∈ tables_1, d.before a0 Z = true) (ws : List Jvm.Cond) (vx : Int64) (h0 : Heap) (n0 : Nat) (Rst : RL) (R0 : Rep Z n0 h0 (Rst)) :
    MetFree l (⟨"com/example/sidetrack/sidetrack/codec/BerInteger", "encode", "(J)[B"⟩ : MethodName) (head1 (Jvm.Cond.code (⟨"com/example/sidetrack/sidetrack/codec/BerInteger", "encode", "(J)[B"⟩ : MethodName) prog_12_method_3_code 5 (some (.array .byte)) :: ws) ({ frames := 0, cells := 1, slots := 8, locals := 0 } : Room)) (fun a U => a = #[(.long vx)] ∧ Z.Warmed39 U.vm ∧ U.heap = h0) (fun _ _ _ _ _ => True) (fun _ U o U' => ∃ v L, o = .returned v ∧ Q1 Z vx n0 Rst v U'.heap L ∧ FrameEnd U o U' L ({ frames := 0, cells := 1, slots := 8, locals := 0 } : Room).cells ({ frames := 0, cells := 1, slots := 8, locals := 0 } : Room).slots) := by
  refine MetFree.of_bodySF (plainFor_of_name pn_com_example_sidetrack_sidetrack_codec_BerInteger) hisR ?_
  intro p e s m args below meth c s₁ Bd hml0 hP hK
  obtain ⟨rfl, hZ, hh⟩ := hP
  have hx := Bd.exec
  have hby := Bd.bytes
  have hml : c.maxLocals = 5 := hml0
  have hown : s.vm.findClass "com/example/sidetrack/sidetrack/codec/BerInteger" = some m.cls := findClass_of_methodNamed Bd.named
  have hnm := (name_of_methodNamed Bd.named Bd.method).1
  have X0 : Stand p l e ({ frames := 0, cells := 1, slots := 8, locals := 0 } : Room) s m #[(.long vx)] below meth c s₁ [] 0 0 := Stand.of_body Bd
  have e0 : s₁.heap = h0 := by rw [← hh, Bd.state]; rfl
  have N0 := Fr.nil n0
  have pre0 : ∀ t, Steps p.tables e below (s₁.setTop (mkF m 0 #[.val (.long vx), .second, .unset, .unset, .unset] [])) t → Steps p.tables e below (s₁.setTop (entryFrame m #[(.long vx)] 5)) t := fun t k => castTop (ef_1 m vx) k
  have pre2 : ∀ t, Steps p.tables e below (s₁.setTop (mkF m 5 #[.val (.long vx), .second, .val (.int (1 : Int32)), .unset, .unset] [(.int (8 : Int32)), (.int (1 : Int32))])) t → Steps p.tables e below (s₁.setTop (entryFrame m #[(.long vx)] 5)) t := fun t k => pre0 t (by
    show Steps p.tables e below (s₁.setTop (mkF m 0 #[.val (.long vx), .second, .unset, .unset, .unset] [])) _
    refine XS.iconst X0.here hx rfl (hb hby d1_0) ?_
    refine XS.istoreN X0.here hx rfl (hb hby d1_1) rfl (l' := #[.val (.long vx), .second, .val (.int (1 : Int32)), .unset, .unset]) rfl ?_
    refine XS.iloadN X0.here hx rfl (hb hby d1_2) rfl ?_
    refine XS.bipush X0.here hx rfl (hb hby d1_3) ?_
    exact k)
  have hb1 : (1 : Int32) < (8 : Int32) := (by decide)
  have pre3 : ∀ t, Steps p.tables e below (s₁.setTop (mkF m 21 #[.val (.long vx), .second, .val (.int (1 : Int32)), .unset, .unset] [(.int (XT.cmpL (lshr vx (7 : Int32)) (lshr vx (63 : Int32))))])) t → Steps p.tables e below (s₁.setTop (entryFrame m #[(.long vx)] 5)) t := fun t k => pre2 t (by
    show Steps p.tables e below (s₁.setTop (mkF m 5 #[.val (.long vx), .second, .val (.int (1 : Int32)), .unset, .unset] [(.int (8 : Int32)), (.int (1 : Int32))])) _
    refine XS.icmpNo X0.here hx rfl (hb hby d1_5) rfl (tlt hb1).2.1 ?_
    refine XS.lloadN X0.here hx rfl (hb hby d1_8) rfl ?_
    refine XS.iloadN X0.here hx rfl (hb hby d1_9) rfl ?_
    refine XS.bipush X0.here hx rfl (hb hby d1_10) ?_
    refine XS.imul X0.here hx rfl (hb hby d1_12) rfl ?_
    refine XS.iconst X0.here hx rfl (hb hby d1_13) ?_
    refine XS.isub X0.here hx rfl (hb hby d1_14) rfl ?_
    show Steps p.tables e below (s₁.setTop (mkF m 15 #[.val (.long vx), .second, .val (.int (1 : Int32)), .unset, .unset] [(.int (7 : Int32)), (.long vx)])) _
    refine XS.lshr X0.here hx rfl (hb hby d1_15) rfl ?_
    refine XS.lloadN X0.here hx rfl (hb hby d1_16) rfl ?_
    refine XS.bipush X0.here hx rfl (hb hby d1_17) ?_
    refine XS.lshr X0.here hx rfl (hb hby d1_19) rfl ?_
    refine XS.lcmp X0.here hx rfl (hb hby d1_20) rfl ?_
    exact k)
  by_cases hb4 : (lshr vx (7 : Int32)) = (lshr vx (63 : Int32))
  · have pre5 : ∀ t, Steps p.tables e below (s₁.setTop (mkF m 30 #[.val (.long vx), .second, .val (.int (1 : Int32)), .unset, .unset] [])) t → Steps p.tables e below (s₁.setTop (entryFrame m #[(.long vx)] 5)) t := fun t k => pre3 t (by show Steps p.tables e below (s₁.setTop (mkF m 21 #[.val (.long vx), .second, .val (.int (1 : Int32)), .unset, .unset] [(.int (XT.cmpL (lshr vx (7 : Int32)) (lshr vx (63 : Int32))))])) _; refine XS.ifYes X0.here hx rfl (pc0 := 21) (pc' := 30) rfl (hb hby d1_21) rfl (XT.ll_eq_t hb4) (by decide) (by decide) ?_; exact k)
    have pre6 : ∀ t, Steps p.tables e below (s₁.setTop (mkF m 31 #[.val (.long vx), .second, .val (.int (1 : Int32)), .unset, .unset] [(.int (1 : Int32))])) t → Steps p.tables e below (s₁.setTop (entryFrame m #[(.long vx)] 5)) t := fun t k => pre5 t (by
      show Steps p.tables e below (s₁.setTop (mkF m 30 #[.val (.long vx), .second, .val (.int (1 : Int32)), .unset, .unset] [])) _
      refine XS.iloadN X0.here hx rfl (hb hby d1_30) rfl ?_
      exact k)
    obtain ⟨T7, h7, b7, X7, e7, R7, st7⟩ := gNewP X0 hx hZ (hw _ (List.mem_of_getElem? (i := 4) rfl)) e0 R0 (g := (mkF m 31 #[.val (.long vx), .second, .val (.int (1 : Int32)), .unset, .unset] [(.int (1 : Int32))])) rfl (hb hby d1_31) rfl (by decide) 1 (by decide) (by decide) (by decide) (by decide) (vs := [(.int (0 : Int32))]) rfl
    replace R7 : Rep Z n0 h7 ((b7, Ar .byte [(.int (0 : Int32))]) :: Rst) := R7
    have pre8 : ∀ t, Steps p.tables e below (T7.setTop (mkF m 33 #[.val (.long vx), .second, .val (.int (1 : Int32)), .unset, .unset] [(.ref b7)])) t → Steps p.tables e below (s₁.setTop (entryFrame m #[(.long vx)] 5)) t := fun t k => pre6 t (st7 t k)
    have pre10 : ∀ t, Steps p.tables e below (T7.setTop (mkF m 40 #[.val (.long vx), .second, .val (.int (1 : Int32)), .val (.ref b7), .val (.int (0 : Int32))] [(.int (1 : Int32)), (.int (0 : Int32))])) t → Steps p.tables e below (s₁.setTop (entryFrame m #[(.long vx)] 5)) t := fun t k => pre8 t (by
      show Steps p.tables e below (T7.setTop (mkF m 33 #[.val (.long vx), .second, .val (.int (1 : Int32)), .unset, .unset] [(.ref b7)])) _
      refine XS.astoreN X7.here hx rfl (hb hby d1_33) rfl rfl (l' := #[.val (.long vx), .second, .val (.int (1 : Int32)), .val (.ref b7), .unset]) rfl ?_
      refine XS.iconst X7.here hx rfl (hb hby d1_34) ?_
      refine XS.istore X7.here hx rfl (hb hby d1_35) rfl (l' := #[.val (.long vx), .second, .val (.int (1 : Int32)), .val (.ref b7), .val (.int (0 : Int32))]) rfl ?_
      refine XS.iload X7.here hx rfl (hb hby d1_37) rfl ?_
      refine XS.iloadN X7.here hx rfl (hb hby d1_39) rfl ?_
      exact k)
    have hb9 : (0 : Int32) < (1 : Int32) := (by decide)
    have pre11 : ∀ t, Steps p.tables e below (T7.setTop (mkF m 59 #[.val (.long vx), .second, .val (.int (1 : Int32)), .val (.ref b7), .val (.int (0 : Int32))] [(.int (((lshr vx (0 : Int32)).toInt32).toInt8.toInt32)), (.int (0 : Int32)), (.ref b7)])) t → Steps p.tables e below (s₁.setTop (entryFrame m #[(.long vx)] 5)) t := fun t k => pre10 t (by
      show Steps p.tables e below (T7.setTop (mkF m 40 #[.val (.long vx), .second, .val (.int (1 : Int32)), .val (.ref b7), .val (.int (0 : Int32))] [(.int (1 : Int32)), (.int (0 : Int32))])) _
      refine XS.icmpNo X7.here hx rfl (hb hby d1_40) rfl (tlt hb9).2.1 ?_
      refine XS.aloadN X7.here hx rfl (hb hby d1_43) rfl rfl ?_
      refine XS.iload X7.here hx rfl (hb hby d1_44) rfl ?_
      refine XS.lloadN X7.here hx rfl (hb hby d1_46) rfl ?_
      refine XS.iloadN X7.here hx rfl (hb hby d1_47) rfl ?_
      refine XS.iconst X7.here hx rfl (hb hby d1_48) ?_
      refine XS.isub X7.here hx rfl (hb hby d1_49) rfl ?_
      show Steps p.tables e below (T7.setTop (mkF m 50 #[.val (.long vx), .second, .val (.int (1 : Int32)), .val (.ref b7), .val (.int (0 : Int32))] [(.int (0 : Int32)), (.long vx), (.int (0 : Int32)), (.ref b7)])) _
      refine XS.iload X7.here hx rfl (hb hby d1_50) rfl ?_
      refine XS.isub X7.here hx rfl (hb hby d1_52) rfl ?_
      refine XS.bipush X7.here hx rfl (hb hby d1_53) ?_
      refine XS.imul X7.here hx rfl (hb hby d1_55) rfl ?_
      refine XS.lshr X7.here hx rfl (hb hby d1_56) rfl ?_
      refine XS.l2i X7.here hx rfl (hb hby d1_57) rfl ?_
      refine XS.i2b X7.here hx rfl (hb hby d1_58) rfl ?_
      exact k)
    obtain ⟨T12, h12, ls12, X12, e12, N12, R12, st12⟩ := gBst X7 hx hZ e7 N0 R7 0 rfl (j := (0 : Int32)) (by decide) (0) rfl (show (0 : Nat) < 1 by decide) (g := (mkF m 59 #[.val (.long vx), .second, .val (.int (1 : Int32)), .val (.ref b7), .val (.int (0 : Int32))] [(.int (((lshr vx (0 : Int32)).toInt32).toInt8.toInt32)), (.int (0 : Int32)), (.ref b7)])) rfl rfl (hb hby d1_59)
    replace R12 : Rep Z n0 h12 ((b7, Ar .byte [(.int ((((lshr vx (0 : Int32)).toInt32).toInt8.toInt32).toInt8.toInt32))]) :: Rst) := R12
    have pre13 : ∀ t, Steps p.tables e below (T12.setTop (mkF m 60 #[.val (.long vx), .second, .val (.int (1 : Int32)), .val (.ref b7), .val (.int (0 : Int32))] [])) t → Steps p.tables e below (s₁.setTop (entryFrame m #[(.long vx)] 5)) t := fun t k => pre11 t (st12 t k)
    have pre15 : ∀ t, Steps p.tables e below (T12.setTop (mkF m 40 #[.val (.long vx), .second, .val (.int (1 : Int32)), .val (.ref b7), .val (.int (1 : Int32))] [(.int (1 : Int32)), (.int (1 : Int32))])) t → Steps p.tables e below (s₁.setTop (entryFrame m #[(.long vx)] 5)) t := fun t k => pre13 t (by
      show Steps p.tables e below (T12.setTop (mkF m 60 #[.val (.long vx), .second, .val (.int (1 : Int32)), .val (.ref b7), .val (.int (0 : Int32))] [])) _
      refine XS.iinc X12.here hx rfl (hb hby d1_60) rfl (l' := #[.val (.long vx), .second, .val (.int (1 : Int32)), .val (.ref b7), .val (.int (1 : Int32))]) rfl ?_
      refine XS.goto X12.here hx rfl (pc0 := 63) (pc' := 37) rfl (hb hby d1_63) (by decide) (by decide) ?_
      refine XS.iload X12.here hx rfl (hb hby d1_37) rfl ?_
      refine XS.iloadN X12.here hx rfl (hb hby d1_39) rfl ?_
      exact k)
    have hb14 : ¬ ((1 : Int32) < (1 : Int32)) := (by decide)
    have pre16 : ∀ t, Steps p.tables e below (T12.setTop (mkF m 67 #[.val (.long vx), .second, .val (.int (1 : Int32)), .val (.ref b7), .val (.int (1 : Int32))] [(.ref b7)])) t → Steps p.tables e below (s₁.setTop (entryFrame m #[(.long vx)] 5)) t := fun t k => pre15 t (by
      show Steps p.tables e below (T12.setTop (mkF m 40 #[.val (.long vx), .second, .val (.int (1 : Int32)), .val (.ref b7), .val (.int (1 : Int32))] [(.int (1 : Int32)), (.int (1 : Int32))])) _
      refine XS.icmpYes X12.here hx rfl (pc0 := 40) (pc' := 66) rfl (hb hby d1_40) rfl (flt hb14).2.1 (by decide) (by decide) ?_
      refine XS.aloadN X12.here hx rfl (hb hby d1_66) rfl rfl ?_
      exact k)
    obtain ⟨fs, hr, hrun, hended, hW, hsame⟩ := X12.leave (v := some (.ref b7)) (fun h => by rw [Bd.returns] at h; cases h)
    refine ⟨_, _, pre16 _ ?_, hrun, hended, _, _, rfl, ?_, ⟨_, rfl⟩, hW, hsame.mono (by decide) (by decide)⟩
    · show Steps p.tables e below (T12.setTop (mkF m 67 #[.val (.long vx), .second, .val (.int (1 : Int32)), .val (.ref b7), .val (.int (1 : Int32))] [(.ref b7)])) _
      exact Jvm.Own.retA X12 hx (t := (.array .byte)) rfl Bd.returns (hb hby d1_67) hr
    · show Q1 Z vx n0 Rst _ T12.heap _
      rw [e12]
      exact ⟨b7, rfl, N12, (by simp only [EB, if_pos hb4]; exact R12)⟩
  · have pre17 : ∀ t, Steps p.tables e below (s₁.setTop (mkF m 24 #[.val (.long vx), .second, .val (.int (1 : Int32)), .unset, .unset] [])) t → Steps p.tables e below (s₁.setTop (entryFrame m #[(.long vx)] 5)) t := fun t k => pre3 t (by show Steps p.tables e below (s₁.setTop (mkF m 21 #[.val (.long vx), .second, .val (.int (1 : Int32)), .unset, .unset] [(.int (XT.cmpL (lshr vx (7 : Int32)) (lshr vx (63 : Int32))))])) _; refine XS.ifNo X0.here hx rfl (hb hby d1_21) rfl (XT.ll_eq_f hb4) ?_; exact k)
    have pre19 : ∀ t, Steps p.tables e below (s₁.setTop (mkF m 5 #[.val (.long vx), .second, .val (.int (2 : Int32)), .unset, .unset] [(.int (8 : Int32)), (.int (2 : Int32))])) t → Steps p.tables e below (s₁.setTop (entryFrame m #[(.long vx)] 5)) t := fun t k => pre17 t (by
      show Steps p.tables e below (s₁.setTop (mkF m 24 #[.val (.long vx), .second, .val (.int (1 : Int32)), .unset, .unset] [])) _
      refine XS.iinc X0.here hx rfl (hb hby d1_24) rfl (l' := #[.val (.long vx), .second, .val (.int (2 : Int32)), .unset, .unset]) rfl ?_
      refine XS.goto X0.here hx rfl (pc0 := 27) (pc' := 2) rfl (hb hby d1_27) (by decide) (by decide) ?_
      refine XS.iloadN X0.here hx rfl (hb hby d1_2) rfl ?_
      refine XS.bipush X0.here hx rfl (hb hby d1_3) ?_
      exact k)
    have hb18 : (2 : Int32) < (8 : Int32) := (by decide)
    have pre20 : ∀ t, Steps p.tables e below (s₁.setTop (mkF m 21 #[.val (.long vx), .second, .val (.int (2 : Int32)), .unset, .unset] [(.int (XT.cmpL (lshr vx (15 : Int32)) (lshr vx (63 : Int32))))])) t → Steps p.tables e below (s₁.setTop (entryFrame m #[(.long vx)] 5)) t := fun t k => pre19 t (by
      show Steps p.tables e below (s₁.setTop (mkF m 5 #[.val (.long vx), .second, .val (.int (2 : Int32)), .unset, .unset] [(.int (8 : Int32)), (.int (2 : Int32))])) _
      refine XS.icmpNo X0.here hx rfl (hb hby d1_5) rfl (tlt hb18).2.1 ?_
      refine XS.lloadN X0.here hx rfl (hb hby d1_8) rfl ?_
      refine XS.iloadN X0.here hx rfl (hb hby d1_9) rfl ?_
      refine XS.bipush X0.here hx rfl (hb hby d1_10) ?_
      refine XS.imul X0.here hx rfl (hb hby d1_12) rfl ?_
      refine XS.iconst X0.here hx rfl (hb hby d1_13) ?_
      refine XS.isub X0.here hx rfl (hb hby d1_14) rfl ?_
      show Steps p.tables e below (s₁.setTop (mkF m 15 #[.val (.long vx), .second, .val (.int (2 : Int32)), .unset, .unset] [(.int (15 : Int32)), (.long vx)])) _
      refine XS.lshr X0.here hx rfl (hb hby d1_15) rfl ?_
      refine XS.lloadN X0.here hx rfl (hb hby d1_16) rfl ?_
      refine XS.bipush X0.here hx rfl (hb hby d1_17) ?_
      refine XS.lshr X0.here hx rfl (hb hby d1_19) rfl ?_
      refine XS.lcmp X0.here hx rfl (hb hby d1_20) rfl ?_
      exact k)
    by_cases hb21 : (lshr vx (15 : Int32)) = (lshr vx (63 : Int32))
    · have pre22 : ∀ t, Steps p.tables e below (s₁.setTop (mkF m 30 #[.val (.long vx), .second, .val (.int (2 : Int32)), .unset, .unset] [])) t → Steps p.tables e below (s₁.setTop (entryFrame m #[(.long vx)] 5)) t := fun t k => pre20 t (by show Steps p.tables e below (s₁.setTop (mkF m 21 #[.val (.long vx), .second, .val (.int (2 : Int32)), .unset, .unset] [(.int (XT.cmpL (lshr vx (15 : Int32)) (lshr vx (63 : Int32))))])) _; refine XS.ifYes X0.here hx rfl (pc0 := 21) (pc' := 30) rfl (hb hby d1_21) rfl (XT.ll_eq_t hb21) (by decide) (by decide) ?_; exact k)
      have pre23 : ∀ t, Steps p.tables e below (s₁.setTop (mkF m 31 #[.val (.long vx), .second, .val (.int (2 : Int32)), .unset, .unset] [(.int (2 : Int32))])) t → Steps p.tables e below (s₁.setTop (entryFrame m #[(.long vx)] 5)) t := fun t k => pre22 t (by
        show Steps p.tables e below (s₁.setTop (mkF m 30 #[.val (.long vx), .second, .val (.int (2 : Int32)), .unset, .unset] [])) _
        refine XS.iloadN X0.here hx rfl (hb hby d1_30) rfl ?_
        exact k)
      obtain ⟨T24, h24, b24, X24, e24, R24, st24⟩ := gNewP X0 hx hZ (hw _ (List.mem_of_getElem? (i := 4) rfl)) e0 R0 (g := (mkF m 31 #[.val (.long vx), .second, .val (.int (2 : Int32)), .unset, .unset] [(.int (2 : Int32))])) rfl (hb hby d1_31) rfl (by decide) 2 (by decide) (by decide) (by decide) (by decide) (vs := [(.int (0 : Int32)), (.int (0 : Int32))]) rfl
      replace R24 : Rep Z n0 h24 ((b24, Ar .byte [(.int (0 : Int32)), (.int (0 : Int32))]) :: Rst) := R24
      have pre25 : ∀ t, Steps p.tables e below (T24.setTop (mkF m 33 #[.val (.long vx), .second, .val (.int (2 : Int32)), .unset, .unset] [(.ref b24)])) t → Steps p.tables e below (s₁.setTop (entryFrame m #[(.long vx)] 5)) t := fun t k => pre23 t (st24 t k)
      have pre27 : ∀ t, Steps p.tables e below (T24.setTop (mkF m 40 #[.val (.long vx), .second, .val (.int (2 : Int32)), .val (.ref b24), .val (.int (0 : Int32))] [(.int (2 : Int32)), (.int (0 : Int32))])) t → Steps p.tables e below (s₁.setTop (entryFrame m #[(.long vx)] 5)) t := fun t k => pre25 t (by
        show Steps p.tables e below (T24.setTop (mkF m 33 #[.val (.long vx), .second, .val (.int (2 : Int32)), .unset, .unset] [(.ref b24)])) _
        refine XS.astoreN X24.here hx rfl (hb hby d1_33) rfl rfl (l' := #[.val (.long vx), .second, .val (.int (2 : Int32)), .val (.ref b24), .unset]) rfl ?_
        refine XS.iconst X24.here hx rfl (hb hby d1_34) ?_
        refine XS.istore X24.here hx rfl (hb hby d1_35) rfl (l' := #[.val (.long vx), .second, .val (.int (2 : Int32)), .val (.ref b24), .val (.int (0 : Int32))]) rfl ?_
        refine XS.iload X24.here hx rfl (hb hby d1_37) rfl ?_
        refine XS.iloadN X24.here hx rfl (hb hby d1_39) rfl ?_
        exact k)
      have hb26 : (0 : Int32) < (2 : Int32) := (by decide)
      have pre28 : ∀ t, Steps p.tables e below (T24.setTop (mkF m 59 #[.val (.long vx), .second, .val (.int (2 : Int32)), .val (.ref b24), .val (.int (0 : Int32))] [(.int (((lshr vx (8 : Int32)).toInt32).toInt8.toInt32)), (.int (0 : Int32)), (.ref b24)])) t → Steps p.tables e below (s₁.setTop (entryFrame m #[(.long vx)] 5)) t := fun t k => pre27 t (by
        show Steps p.tables e below (T24.setTop (mkF m 40 #[.val (.long vx), .second, .val (.int (2 : Int32)), .val (.ref b24), .val (.int (0 : Int32))] [(.int (2 : Int32)), (.int (0 : Int32))])) _
        refine XS.icmpNo X24.here hx rfl (hb hby d1_40) rfl (tlt hb26).2.1 ?_
        refine XS.aloadN X24.here hx rfl (hb hby d1_43) rfl rfl ?_
        refine XS.iload X24.here hx rfl (hb hby d1_44) rfl ?_
        refine XS.lloadN X24.here hx rfl (hb hby d1_46) rfl ?_
        refine XS.iloadN X24.here hx rfl (hb hby d1_47) rfl ?_
        refine XS.iconst X24.here hx rfl (hb hby d1_48) ?_
        refine XS.isub X24.here hx rfl (hb hby d1_49) rfl ?_
        show Steps p.tables e below (T24.setTop (mkF m 50 #[.val (.long vx), .second, .val (.int (2 : Int32)), .val (.ref b24), .val (.int (0 : Int32))] [(.int (1 : Int32)), (.long vx), (.int (0 : Int32)), (.ref b24)])) _
        refine XS.iload X24.here hx rfl (hb hby d1_50) rfl ?_
        refine XS.isub X24.here hx rfl (hb hby d1_52) rfl ?_
        refine XS.bipush X24.here hx rfl (hb hby d1_53) ?_
        refine XS.imul X24.here hx rfl (hb hby d1_55) rfl ?_
        refine XS.lshr X24.here hx rfl (hb hby d1_56) rfl ?_
        refine XS.l2i X24.here hx rfl (hb hby d1_57) rfl ?_
        refine XS.i2b X24.here hx rfl (hb hby d1_58) rfl ?_
        exact k)
      obtain ⟨T29, h29, ls29, X29, e29, N29, R29, st29⟩ := gBst X24 hx hZ e24 N0 R24 0 rfl (j := (0 : Int32)) (by decide) (0) rfl (show (0 : Nat) < 2 by decide) (g := (mkF m 59 #[.val (.long vx), .second, .val (.int (2 : Int32)), .val (.ref b24), .val (.int (0 : Int32))] [(.int (((lshr vx (8 : Int32)).toInt32).toInt8.toInt32)), (.int (0 : Int32)), (.ref b24)])) rfl rfl (hb hby d1_59)
      replace R29 : Rep Z n0 h29 ((b24, Ar .byte [(.int ((((lshr vx (8 : Int32)).toInt32).toInt8.toInt32).toInt8.toInt32)), (.int (0 : Int32))]) :: Rst) := R29
      have pre30 : ∀ t, Steps p.tables e below (T29.setTop (mkF m 60 #[.val (.long vx), .second, .val (.int (2 : Int32)), .val (.ref b24), .val (.int (0 : Int32))] [])) t → Steps p.tables e below (s₁.setTop (entryFrame m #[(.long vx)] 5)) t := fun t k => pre28 t (st29 t k)
      have pre32 : ∀ t, Steps p.tables e below (T29.setTop (mkF m 40 #[.val (.long vx), .second, .val (.int (2 : Int32)), .val (.ref b24), .val (.int (1 : Int32))] [(.int (2 : Int32)), (.int (1 : Int32))])) t → Steps p.tables e below (s₁.setTop (entryFrame m #[(.long vx)] 5)) t := fun t k => pre30 t (by
        show Steps p.tables e below (T29.setTop (mkF m 60 #[.val (.long vx), .second, .val (.int (2 : Int32)), .val (.ref b24), .val (.int (0 : Int32))] [])) _
        refine XS.iinc X29.here hx rfl (hb hby d1_60) rfl (l' := #[.val (.long vx), .second, .val (.int (2 : Int32)), .val (.ref b24), .val (.int (1 : Int32))]) rfl ?_
        refine XS.goto X29.here hx rfl (pc0 := 63) (pc' := 37) rfl (hb hby d1_63) (by decide) (by decide) ?_
        refine XS.iload X29.here hx rfl (hb hby d1_37) rfl ?_
        refine XS.iloadN X29.here hx rfl (hb hby d1_39) rfl ?_
        exact k)
      have hb31 : (1 : Int32) < (2 : Int32) := (by decide)
      have pre33 : ∀ t, Steps p.tables e below (T29.setTop (mkF m 59 #[.val (.long vx), .second, .val (.int (2 : Int32)), .val (.ref b24), .val (.int (1 : Int32))] [(.int (((lshr vx (0 : Int32)).toInt32).toInt8.toInt32)), (.int (1 : Int32)), (.ref b24)])) t → Steps p.tables e below (s₁.setTop (entryFrame m #[(.long vx)] 5)) t := fun t k => pre32 t (by
        show Steps p.tables e below (T29.setTop (mkF m 40 #[.val (.long vx), .second, .val (.int (2 : Int32)), .val (.ref b24), .val (.int (1 : Int32))] [(.int (2 : Int32)), (.int (1 : Int32))])) _
        refine XS.icmpNo X29.here hx rfl (hb hby d1_40) rfl (tlt hb31).2.1 ?_
        refine XS.aloadN X29.here hx rfl (hb hby d1_43) rfl rfl ?_
        refine XS.iload X29.here hx rfl (hb hby d1_44) rfl ?_
        refine XS.lloadN X29.here hx rfl (hb hby d1_46) rfl ?_
        refine XS.iloadN X29.here hx rfl (hb hby d1_47) rfl ?_
        refine XS.iconst X29.here hx rfl (hb hby d1_48) ?_
        refine XS.isub X29.here hx rfl (hb hby d1_49) rfl ?_
        show Steps p.tables e below (T29.setTop (mkF m 50 #[.val (.long vx), .second, .val (.int (2 : Int32)), .val (.ref b24), .val (.int (1 : Int32))] [(.int (1 : Int32)), (.long vx), (.int (1 : Int32)), (.ref b24)])) _
        refine XS.iload X29.here hx rfl (hb hby d1_50) rfl ?_
        refine XS.isub X29.here hx rfl (hb hby d1_52) rfl ?_
        refine XS.bipush X29.here hx rfl (hb hby d1_53) ?_
        refine XS.imul X29.here hx rfl (hb hby d1_55) rfl ?_
        refine XS.lshr X29.here hx rfl (hb hby d1_56) rfl ?_
        refine XS.l2i X29.here hx rfl (hb hby d1_57) rfl ?_
        refine XS.i2b X29.here hx rfl (hb hby d1_58) rfl ?_
        exact k)
      obtain ⟨T34, h34, ls34, X34, e34, N34, R34, st34⟩ := gBst X29 hx hZ e29 N29 R29 0 rfl (j := (1 : Int32)) (by decide) (1) rfl (show (1 : Nat) < 2 by decide) (g := (mkF m 59 #[.val (.long vx), .second, .val (.int (2 : Int32)), .val (.ref b24), .val (.int (1 : Int32))] [(.int (((lshr vx (0 : Int32)).toInt32).toInt8.toInt32)), (.int (1 : Int32)), (.ref b24)])) rfl rfl (hb hby d1_59)
      replace R34 : Rep Z n0 h34 ((b24, Ar .byte [(.int ((((lshr vx (8 : Int32)).toInt32).toInt8.toInt32).toInt8.toInt32)), (.int ((((lshr vx (0 : Int32)).toInt32).toInt8.toInt32).toInt8.toInt32))]) :: Rst) := R34
      have pre35 : ∀ t, Steps p.tables e below (T34.setTop (mkF m 60 #[.val (.long vx), .second, .val (.int (2 : Int32)), .val (.ref b24), .val (.int (1 : Int32))] [])) t → Steps p.tables e below (s₁.setTop (entryFrame m #[(.long vx)] 5)) t := fun t k => pre33 t (st34 t k)
      have pre37 : ∀ t, Steps p.tables e below (T34.setTop (mkF m 40 #[.val (.long vx), .second, .val (.int (2 : Int32)), .val (.ref b24), .val (.int (2 : Int32))] [(.int (2 : Int32)), (.int (2 : Int32))])) t → Steps p.tables e below (s₁.setTop (entryFrame m #[(.long vx)] 5)) t := fun t k => pre35 t (by
        show Steps p.tables e below (T34.setTop (mkF m 60 #[.val (.long vx), .second, .val (.int (2 : Int32)), .val (.ref b24), .val (.int (1 : Int32))] [])) _
        refine XS.iinc X34.here hx rfl (hb hby d1_60) rfl (l' := #[.val (.long vx), .second, .val (.int (2 : Int32)), .val (.ref b24), .val (.int (2 : Int32))]) rfl ?_
        refine XS.goto X34.here hx rfl (pc0 := 63) (pc' := 37) rfl (hb hby d1_63) (by decide) (by decide) ?_
        refine XS.iload X34.here hx rfl (hb hby d1_37) rfl ?_
        refine XS.iloadN X34.here hx rfl (hb hby d1_39) rfl ?_
        exact k)
      have hb36 : ¬ ((2 : Int32) < (2 : Int32)) := (by decide)
      have pre38 : ∀ t, Steps p.tables e below (T34.setTop (mkF m 67 #[.val (.long vx), .second, .val (.int (2 : Int32)), .val (.ref b24), .val (.int (2 : Int32))] [(.ref b24)])) t → Steps p.tables e below (s₁.setTop (entryFrame m #[(.long vx)] 5)) t := fun t k => pre37 t (by
        show Steps p.tables e below (T34.setTop (mkF m 40 #[.val (.long vx), .second, .val (.int (2 : Int32)), .val (.ref b24), .val (.int (2 : Int32))] [(.int (2 : Int32)), (.int (2 : Int32))])) _
        refine XS.icmpYes X34.here hx rfl (pc0 := 40) (pc' := 66) rfl (hb hby d1_40) rfl (flt hb36).2.1 (by decide) (by decide) ?_
        refine XS.aloadN X34.here hx rfl (hb hby d1_66) rfl rfl ?_
        exact k)
      obtain ⟨fs, hr, hrun, hended, hW, hsame⟩ := X34.leave (v := some (.ref b24)) (fun h => by rw [Bd.returns] at h; cases h)
      refine ⟨_, _, pre38 _ ?_, hrun, hended, _, _, rfl, ?_, ⟨_, rfl⟩, hW, hsame.mono (by decide) (by decide)⟩
      · show Steps p.tables e below (T34.setTop (mkF m 67 #[.val (.long vx), .second, .val (.int (2 : Int32)), .val (.ref b24), .val (.int (2 : Int32))] [(.ref b24)])) _
        exact Jvm.Own.retA X34 hx (t := (.array .byte)) rfl Bd.returns (hb hby d1_67) hr
      · show Q1 Z vx n0 Rst _ T34.heap _
        rw [e34]
        exact ⟨b24, rfl, N34, (by simp only [EB, if_neg hb4, if_pos hb21]; exact R34)⟩
    · have pre39 : ∀ t, Steps p.tables e below (s₁.setTop (mkF m 24 #[.val (.long vx), .second, .val (.int (2 : Int32)), .unset, .unset] [])) t → Steps p.tables e below (s₁.setTop (entryFrame m #[(.long vx)] 5)) t := fun t k => pre20 t (by show Steps p.tables e below (s₁.setTop (mkF m 21 #[.val (.long vx), .second, .val (.int (2 : Int32)), .unset, .unset] [(.int (XT.cmpL (lshr vx (15 : Int32)) (lshr vx (63 : Int32))))])) _; refine XS.ifNo X0.here hx rfl (hb hby d1_21) rfl (XT.ll_eq_f hb21) ?_; exact k)
      have pre41 : ∀ t, Steps p.tables e below (s₁.setTop (mkF m 5 #[.val (.long vx), .second, .val (.int (3 : Int32)), .unset, .unset] [(.int (8 : Int32)), (.int (3 : Int32))])) t → Steps p.tables e below (s₁.setTop (entryFrame m #[(.long vx)] 5)) t := fun t k => pre39 t (by
        show Steps p.tables e below (s₁.setTop (mkF m 24 #[.val (.long vx), .second, .val (.int (2 : Int32)), .unset, .unset] [])) _
        refine XS.iinc X0.here hx rfl (hb hby d1_24) rfl (l' := #[.val (.long vx), .second, .val (.int (3 : Int32)), .unset, .unset]) rfl ?_
        refine XS.goto X0.here hx rfl (pc0 := 27) (pc' := 2) rfl (hb hby d1_27) (by decide) (by decide) ?_
        refine XS.iloadN X0.here hx rfl (hb hby d1_2) rfl ?_
        refine XS.bipush X0.here hx rfl (hb hby d1_3) ?_
        exact k)
      have hb40 : (3 : Int32) < (8 : Int32) := (by decide)
      have pre42 : ∀ t, Steps p.tables e below (s₁.setTop (mkF m 21 #[.val (.long vx), .second, .val (.int (3 : Int32)), .unset, .unset] [(.int (XT.cmpL (lshr vx (23 : Int32)) (lshr vx (63 : Int32))))])) t → Steps p.tables e below (s₁.setTop (entryFrame m #[(.long vx)] 5)) t := fun t k => pre41 t (by
        show Steps p.tables e below (s₁.setTop (mkF m 5 #[.val (.long vx), .second, .val (.int (3 : Int32)), .unset, .unset] [(.int (8 : Int32)), (.int (3 : Int32))])) _
        refine XS.icmpNo X0.here hx rfl (hb hby d1_5) rfl (tlt hb40).2.1 ?_
        refine XS.lloadN X0.here hx rfl (hb hby d1_8) rfl ?_
        refine XS.iloadN X0.here hx rfl (hb hby d1_9) rfl ?_
        refine XS.bipush X0.here hx rfl (hb hby d1_10) ?_
        refine XS.imul X0.here hx rfl (hb hby d1_12) rfl ?_
        refine XS.iconst X0.here hx rfl (hb hby d1_13) ?_
        refine XS.isub X0.here hx rfl (hb hby d1_14) rfl ?_
        show Steps p.tables e below (s₁.setTop (mkF m 15 #[.val (.long vx), .second, .val (.int (3 : Int32)), .unset, .unset] [(.int (23 : Int32)), (.long vx)])) _
        refine XS.lshr X0.here hx rfl (hb hby d1_15) rfl ?_
        refine XS.lloadN X0.here hx rfl (hb hby d1_16) rfl ?_
        refine XS.bipush X0.here hx rfl (hb hby d1_17) ?_
        refine XS.lshr X0.here hx rfl (hb hby d1_19) rfl ?_
        refine XS.lcmp X0.here hx rfl (hb hby d1_20) rfl ?_
        exact k)
      by_cases hb43 : (lshr vx (23 : Int32)) = (lshr vx (63 : Int32))
      · have pre44 : ∀ t, Steps p.tables e below (s₁.setTop (mkF m 30 #[.val (.long vx), .second, .val (.int (3 : Int32)), .unset, .unset] [])) t → Steps p.tables e below (s₁.setTop (entryFrame m #[(.long vx)] 5)) t := fun t k => pre42 t (by show Steps p.tables e below (s₁.setTop (mkF m 21 #[.val (.long vx), .second, .val (.int (3 : Int32)), .unset, .unset] [(.int (XT.cmpL (lshr vx (23 : Int32)) (lshr vx (63 : Int32))))])) _; refine XS.ifYes X0.here hx rfl (pc0 := 21) (pc' := 30) rfl (hb hby d1_21) rfl (XT.ll_eq_t hb43) (by decide) (by decide) ?_; exact k)
        have pre45 : ∀ t, Steps p.tables e below (s₁.setTop (mkF m 31 #[.val (.long vx), .second, .val (.int (3 : Int32)), .unset, .unset] [(.int (3 : Int32))])) t → Steps p.tables e below (s₁.setTop (entryFrame m #[(.long vx)] 5)) t := fun t k => pre44 t (by
          show Steps p.tables e below (s₁.setTop (mkF m 30 #[.val (.long vx), .second, .val (.int (3 : Int32)), .unset, .unset] [])) _
          refine XS.iloadN X0.here hx rfl (hb hby d1_30) rfl ?_
          exact k)
        obtain ⟨T46, h46, b46, X46, e46, R46, st46⟩ := gNewP X0 hx hZ (hw _ (List.mem_of_getElem? (i := 4) rfl)) e0 R0 (g := (mkF m 31 #[.val (.long vx), .second, .val (.int (3 : Int32)), .unset, .unset] [(.int (3 : Int32))])) rfl (hb hby d1_31) rfl (by decide) 3 (by decide) (by decide) (by decide) (by decide) (vs := [(.int (0 : Int32)), (.int (0 : Int32)), (.int (0 : Int32))]) rfl
        replace R46 : Rep Z n0 h46 ((b46, Ar .byte [(.int (0 : Int32)), (.int (0 : Int32)), (.int (0 : Int32))]) :: Rst) := R46
        have pre47 : ∀ t, Steps p.tables e below (T46.setTop (mkF m 33 #[.val (.long vx), .second, .val (.int (3 : Int32)), .unset, .unset] [(.ref b46)])) t → Steps p.tables e below (s₁.setTop (entryFrame m #[(.long vx)] 5)) t := fun t k => pre45 t (st46 t k)
        have pre49 : ∀ t, Steps p.tables e below (T46.setTop (mkF m 40 #[.val (.long vx), .second, .val (.int (3 : Int32)), .val (.ref b46), .val (.int (0 : Int32))] [(.int (3 : Int32)), (.int (0 : Int32))])) t → Steps p.tables e below (s₁.setTop (entryFrame m #[(.long vx)] 5)) t := fun t k => pre47 t (by
          show Steps p.tables e below (T46.setTop (mkF m 33 #[.val (.long vx), .second, .val (.int (3 : Int32)), .unset, .unset] [(.ref b46)])) _
          refine XS.astoreN X46.here hx rfl (hb hby d1_33) rfl rfl (l' := #[.val (.long vx), .second, .val (.int (3 : Int32)), .val (.ref b46), .unset]) rfl ?_
          refine XS.iconst X46.here hx rfl (hb hby d1_34) ?_
          refine XS.istore X46.here hx rfl (hb hby d1_35) rfl (l' := #[.val (.long vx), .second, .val (.int (3 : Int32)), .val (.ref b46), .val (.int (0 : Int32))]) rfl ?_
          refine XS.iload X46.here hx rfl (hb hby d1_37) rfl ?_
          refine XS.iloadN X46.here hx rfl (hb hby d1_39) rfl ?_
          exact k)
        have hb48 : (0 : Int32) < (3 : Int32) := (by decide)
        have pre50 : ∀ t, Steps p.tables e below (T46.setTop (mkF m 59 #[.val (.long vx), .second, .val (.int (3 : Int32)), .val (.ref b46), .val (.int (0 : Int32))] [(.int (((lshr vx (16 : Int32)).toInt32).toInt8.toInt32)), (.int (0 : Int32)), (.ref b46)])) t → Steps p.tables e below (s₁.setTop (entryFrame m #[(.long vx)] 5)) t := fun t k => pre49 t (by
          show Steps p.tables e below (T46.setTop (mkF m 40 #[.val (.long vx), .second, .val (.int (3 : Int32)), .val (.ref b46), .val (.int (0 : Int32))] [(.int (3 : Int32)), (.int (0 : Int32))])) _
          refine XS.icmpNo X46.here hx rfl (hb hby d1_40) rfl (tlt hb48).2.1 ?_
          refine XS.aloadN X46.here hx rfl (hb hby d1_43) rfl rfl ?_
          refine XS.iload X46.here hx rfl (hb hby d1_44) rfl ?_
          refine XS.lloadN X46.here hx rfl (hb hby d1_46) rfl ?_
          refine XS.iloadN X46.here hx rfl (hb hby d1_47) rfl ?_
          refine XS.iconst X46.here hx rfl (hb hby d1_48) ?_
          refine XS.isub X46.here hx rfl (hb hby d1_49) rfl ?_
          show Steps p.tables e below (T46.setTop (mkF m 50 #[.val (.long vx), .second, .val (.int (3 : Int32)), .val (.ref b46), .val (.int (0 : Int32))] [(.int (2 : Int32)), (.long vx), (.int (0 : Int32)), (.ref b46)])) _
          refine XS.iload X46.here hx rfl (hb hby d1_50) rfl ?_
          refine XS.isub X46.here hx rfl (hb hby d1_52) rfl ?_
          refine XS.bipush X46.here hx rfl (hb hby d1_53) ?_
          refine XS.imul X46.here hx rfl (hb hby d1_55) rfl ?_
          refine XS.lshr X46.here hx rfl (hb hby d1_56) rfl ?_
          refine XS.l2i X46.here hx rfl (hb hby d1_57) rfl ?_
          refine XS.i2b X46.here hx rfl (hb hby d1_58) rfl ?_
          exact k)
        obtain ⟨T51, h51, ls51, X51, e51, N51, R51, st51⟩ := gBst X46 hx hZ e46 N0 R46 0 rfl (j := (0 : Int32)) (by decide) (0) rfl (show (0 : Nat) < 3 by decide) (g := (mkF m 59 #[.val (.long vx), .second, .val (.int (3 : Int32)), .val (.ref b46), .val (.int (0 : Int32))] [(.int (((lshr vx (16 : Int32)).toInt32).toInt8.toInt32)), (.int (0 : Int32)), (.ref b46)])) rfl rfl (hb hby d1_59)
        replace R51 : Rep Z n0 h51 ((b46, Ar .byte [(.int ((((lshr vx (16 : Int32)).toInt32).toInt8.toInt32).toInt8.toInt32)), (.int (0 : Int32)), (.int (0 : Int32))]) :: Rst) := R51
        have pre52 : ∀ t, Steps p.tables e below (T51.setTop (mkF m 60 #[.val (.long vx), .second, .val (.int (3 : Int32)), .val (.ref b46), .val (.int (0 : Int32))] [])) t → Steps p.tables e below (s₁.setTop (entryFrame m #[(.long vx)] 5)) t := fun t k => pre50 t (st51 t k)
        have pre54 : ∀ t, Steps p.tables e below (T51.setTop (mkF m 40 #[.val (.long vx), .second, .val (.int (3 : Int32)), .val (.ref b46), .val (.int (1 : Int32))] [(.int (3 : Int32)), (.int (1 : Int32))])) t → Steps p.tables e below (s₁.setTop (entryFrame m #[(.long vx)] 5)) t := fun t k => pre52 t (by
          show Steps p.tables e below (T51.setTop (mkF m 60 #[.val (.long vx), .second, .val (.int (3 : Int32)), .val (.ref b46), .val (.int (0 : Int32))] [])) _
          refine XS.iinc X51.here hx rfl (hb hby d1_60) rfl (l' := #[.val (.long vx), .second, .val (.int (3 : Int32)), .val (.ref b46), .val (.int (1 : Int32))]) rfl ?_
          refine XS.goto X51.here hx rfl (pc0 := 63) (pc' := 37) rfl (hb hby d1_63) (by decide) (by decide) ?_
          refine XS.iload X51.here hx rfl (hb hby d1_37) rfl ?_
          refine XS.iloadN X51.here hx rfl (hb hby d1_39) rfl ?_
          exact k)
        have hb53 : (1 : Int32) < (3 : Int32) := (by decide)
        have pre55 : ∀ t, Steps p.tables e below (T51.setTop (mkF m 59 #[.val (.long vx), .second, .val (.int (3 : Int32)), .val (.ref b46), .val (.int (1 : Int32))] [(.int (((lshr vx (8 : Int32)).toInt32).toInt8.toInt32)), (.int (1 : Int32)), (.ref b46)])) t → Steps p.tables e below (s₁.setTop (entryFrame m #[(.long vx)] 5)) t := fun t k => pre54 t (by
          show Steps p.tables e below (T51.setTop (mkF m 40 #[.val (.long vx), .second, .val (.int (3 : Int32)), .val (.ref b46), .val (.int (1 : Int32))] [(.int (3 : Int32)), (.int (1 : Int32))])) _
          refine XS.icmpNo X51.here hx rfl (hb hby d1_40) rfl (tlt hb53).2.1 ?_
          refine XS.aloadN X51.here hx rfl (hb hby d1_43) rfl rfl ?_
          refine XS.iload X51.here hx rfl (hb hby d1_44) rfl ?_
          refine XS.lloadN X51.here hx rfl (hb hby d1_46) rfl ?_
          refine XS.iloadN X51.here hx rfl (hb hby d1_47) rfl ?_
          refine XS.iconst X51.here hx rfl (hb hby d1_48) ?_
          refine XS.isub X51.here hx rfl (hb hby d1_49) rfl ?_
          show Steps p.tables e below (T51.setTop (mkF m 50 #[.val (.long vx), .second, .val (.int (3 : Int32)), .val (.ref b46), .val (.int (1 : Int32))] [(.int (2 : Int32)), (.long vx), (.int (1 : Int32)), (.ref b46)])) _
          refine XS.iload X51.here hx rfl (hb hby d1_50) rfl ?_
          refine XS.isub X51.here hx rfl (hb hby d1_52) rfl ?_
          refine XS.bipush X51.here hx rfl (hb hby d1_53) ?_
          refine XS.imul X51.here hx rfl (hb hby d1_55) rfl ?_
          refine XS.lshr X51.here hx rfl (hb hby d1_56) rfl ?_
          refine XS.l2i X51.here hx rfl (hb hby d1_57) rfl ?_
          refine XS.i2b X51.here hx rfl (hb hby d1_58) rfl ?_
          exact k)
        obtain ⟨T56, h56, ls56, X56, e56, N56, R56, st56⟩ := gBst X51 hx hZ e51 N51 R51 0 rfl (j := (1 : Int32)) (by decide) (1) rfl (show (1 : Nat) < 3 by decide) (g := (mkF m 59 #[.val (.long vx), .second, .val (.int (3 : Int32)), .val (.ref b46), .val (.int (1 : Int32))] [(.int (((lshr vx (8 : Int32)).toInt32).toInt8.toInt32)), (.int (1 : Int32)), (.ref b46)])) rfl rfl (hb hby d1_59)
        replace R56 : Rep Z n0 h56 ((b46, Ar .byte [(.int ((((lshr vx (16 : Int32)).toInt32).toInt8.toInt32).toInt8.toInt32)), (.int ((((lshr vx (8 : Int32)).toInt32).toInt8.toInt32).toInt8.toInt32)), (.int (0 : Int32))]) :: Rst) := R56
        have pre57 : ∀ t, Steps p.tables e below (T56.setTop (mkF m 60 #[.val (.long vx), .second, .val (.int (3 : Int32)), .val (.ref b46), .val (.int (1 : Int32))] [])) t → Steps p.tables e below (s₁.setTop (entryFrame m #[(.long vx)] 5)) t := fun t k => pre55 t (st56 t k)
        have pre59 : ∀ t, Steps p.tables e below (T56.setTop (mkF m 40 #[.val (.long vx), .second, .val (.int (3 : Int32)), .val (.ref b46), .val (.int (2 : Int32))] [(.int (3 : Int32)), (.int (2 : Int32))])) t → Steps p.tables e below (s₁.setTop (entryFrame m #[(.long vx)] 5)) t := fun t k => pre57 t (by
          show Steps p.tables e below (T56.setTop (mkF m 60 #[.val (.long vx), .second, .val (.int (3 : Int32)), .val (.ref b46), .val (.int (1 : Int32))] [])) _
          refine XS.iinc X56.here hx rfl (hb hby d1_60) rfl (l' := #[.val (.long vx), .second, .val (.int (3 : Int32)), .val (.ref b46), .val (.int (2 : Int32))]) rfl ?_
          refine XS.goto X56.here hx rfl (pc0 := 63) (pc' := 37) rfl (hb hby d1_63) (by decide) (by decide) ?_
          refine XS.iload X56.here hx rfl (hb hby d1_37) rfl ?_
          refine XS.iloadN X56.here hx rfl (hb hby d1_39) rfl ?_
          exact k)
        have hb58 : (2 : Int32) < (3 : Int32) := (by decide)
        have pre60 : ∀ t, Steps p.tables e below (T56.setTop (mkF m 59 #[.val (.long vx), .second, .val (.int (3 : Int32)), .val (.ref b46), .val (.int (2 : Int32))] [(.int (((lshr vx (0 : Int32)).toInt32).toInt8.toInt32)), (.int (2 : Int32)), (.ref b46)])) t → Steps p.tables e below (s₁.setTop (entryFrame m #[(.long vx)] 5)) t := fun t k => pre59 t (by
          show Steps p.tables e below (T56.setTop (mkF m 40 #[.val (.long vx), .second, .val (.int (3 : Int32)), .val (.ref b46), .val (.int (2 : Int32))] [(.int (3 : Int32)), (.int (2 : Int32))])) _
          refine XS.icmpNo X56.here hx rfl (hb hby d1_40) rfl (tlt hb58).2.1 ?_
          refine XS.aloadN X56.here hx rfl (hb hby d1_43) rfl rfl ?_
          refine XS.iload X56.here hx rfl (hb hby d1_44) rfl ?_
          refine XS.lloadN X56.here hx rfl (hb hby d1_46) rfl ?_
          refine XS.iloadN X56.here hx rfl (hb hby d1_47) rfl ?_
          refine XS.iconst X56.here hx rfl (hb hby d1_48) ?_
          refine XS.isub X56.here hx rfl (hb hby d1_49) rfl ?_
          show Steps p.tables e below (T56.setTop (mkF m 50 #[.val (.long vx), .second, .val (.int (3 : Int32)), .val (.ref b46), .val (.int (2 : Int32))] [(.int (2 : Int32)), (.long vx), (.int (2 : Int32)), (.ref b46)])) _
          refine XS.iload X56.here hx rfl (hb hby d1_50) rfl ?_
          refine XS.isub X56.here hx rfl (hb hby d1_52) rfl ?_
          refine XS.bipush X56.here hx rfl (hb hby d1_53) ?_
          refine XS.imul X56.here hx rfl (hb hby d1_55) rfl ?_
          refine XS.lshr X56.here hx rfl (hb hby d1_56) rfl ?_
          refine XS.l2i X56.here hx rfl (hb hby d1_57) rfl ?_
          refine XS.i2b X56.here hx rfl (hb hby d1_58) rfl ?_
          exact k)
        obtain ⟨T61, h61, ls61, X61, e61, N61, R61, st61⟩ := gBst X56 hx hZ e56 N56 R56 0 rfl (j := (2 : Int32)) (by decide) (2) rfl (show (2 : Nat) < 3 by decide) (g := (mkF m 59 #[.val (.long vx), .second, .val (.int (3 : Int32)), .val (.ref b46), .val (.int (2 : Int32))] [(.int (((lshr vx (0 : Int32)).toInt32).toInt8.toInt32)), (.int (2 : Int32)), (.ref b46)])) rfl rfl (hb hby d1_59)
        replace R61 : Rep Z n0 h61 ((b46, Ar .byte [(.int ((((lshr vx (16 : Int32)).toInt32).toInt8.toInt32).toInt8.toInt32)), (.int ((((lshr vx (8 : Int32)).toInt32).toInt8.toInt32).toInt8.toInt32)), (.int ((((lshr vx (0 : Int32)).toInt32).toInt8.toInt32).toInt8.toInt32))]) :: Rst) := R61
        have pre62 : ∀ t, Steps p.tables e below (T61.setTop (mkF m 60 #[.val (.long vx), .second, .val (.int (3 : Int32)), .val (.ref b46), .val (.int (2 : Int32))] [])) t → Steps p.tables e below (s₁.setTop (entryFrame m #[(.long vx)] 5)) t := fun t k => pre60 t (st61 t k)
        have pre64 : ∀ t, Steps p.tables e below (T61.setTop (mkF m 40 #[.val (.long vx), .second, .val (.int (3 : Int32)), .val (.ref b46), .val (.int (3 : Int32))] [(.int (3 : Int32)), (.int (3 : Int32))])) t → Steps p.tables e below (s₁.setTop (entryFrame m #[(.long vx)] 5)) t := fun t k => pre62 t (by
          show Steps p.tables e below (T61.setTop (mkF m 60 #[.val (.long vx), .second, .val (.int (3 : Int32)), .val (.ref b46), .val (.int (2 : Int32))] [])) _
          refine XS.iinc X61.here hx rfl (hb hby d1_60) rfl (l' := #[.val (.long vx), .second, .val (.int (3 : Int32)), .val (.ref b46), .val (.int (3 : Int32))]) rfl ?_
          refine XS.goto X61.here hx rfl (pc0 := 63) (pc' := 37) rfl (hb hby d1_63) (by decide) (by decide) ?_
          refine XS.iload X61.here hx rfl (hb hby d1_37) rfl ?_
          refine XS.iloadN X61.here hx rfl (hb hby d1_39) rfl ?_
          exact k)
        have hb63 : ¬ ((3 : Int32) < (3 : Int32)) := (by decide)
        have pre65 : ∀ t, Steps p.tables e below (T61.setTop (mkF m 67 #[.val (.long vx), .second, .val (.int (3 : Int32)), .val (.ref b46), .val (.int (3 : Int32))] [(.ref b46)])) t → Steps p.tables e below (s₁.setTop (entryFrame m #[(.long vx)] 5)) t := fun t k => pre64 t (by
          show Steps p.tables e below (T61.setTop (mkF m 40 #[.val (.long vx), .second, .val (.int (3 : Int32)), .val (.ref b46), .val (.int (3 : Int32))] [(.int (3 : Int32)), (.int (3 : Int32))])) _
          refine XS.icmpYes X61.here hx rfl (pc0 := 40) (pc' := 66) rfl (hb hby d1_40) rfl (flt hb63).2.1 (by decide) (by decide) ?_
          refine XS.aloadN X61.here hx rfl (hb hby d1_66) rfl rfl ?_
          exact k)
        obtain ⟨fs, hr, hrun, hended, hW, hsame⟩ := X61.leave (v := some (.ref b46)) (fun h => by rw [Bd.returns] at h; cases h)
        refine ⟨_, _, pre65 _ ?_, hrun, hended, _, _, rfl, ?_, ⟨_, rfl⟩, hW, hsame.mono (by decide) (by decide)⟩
        · show Steps p.tables e below (T61.setTop (mkF m 67 #[.val (.long vx), .second, .val (.int (3 : Int32)), .val (.ref b46), .val (.int (3 : Int32))] [(.ref b46)])) _
          exact Jvm.Own.retA X61 hx (t := (.array .byte)) rfl Bd.returns (hb hby d1_67) hr
        · show Q1 Z vx n0 Rst _ T61.heap _
          rw [e61]
          exact ⟨b46, rfl, N61, (by simp only [EB, if_neg hb4, if_neg hb21, if_pos hb43]; exact R61)⟩
      · have pre66 : ∀ t, Steps p.tables e below (s₁.setTop (mkF m 24 #[.val (.long vx), .second, .val (.int (3 : Int32)), .unset, .unset] [])) t → Steps p.tables e below (s₁.setTop (entryFrame m #[(.long vx)] 5)) t := fun t k => pre42 t (by show Steps p.tables e below (s₁.setTop (mkF m 21 #[.val (.long vx), .second, .val (.int (3 : Int32)), .unset, .unset] [(.int (XT.cmpL (lshr vx (23 : Int32)) (lshr vx (63 : Int32))))])) _; refine XS.ifNo X0.here hx rfl (hb hby d1_21) rfl (XT.ll_eq_f hb43) ?_; exact k)
        have pre68 : ∀ t, Steps p.tables e below (s₁.setTop (mkF m 5 #[.val (.long vx), .second, .val (.int (4 : Int32)), .unset, .unset] [(.int (8 : Int32)), (.int (4 : Int32))])) t → Steps p.tables e below (s₁.setTop (entryFrame m #[(.long vx)] 5)) t := fun t k => pre66 t (by
          show Steps p.tables e below (s₁.setTop (mkF m 24 #[.val (.long vx), .second, .val (.int (3 : Int32)), .unset, .unset] [])) _
          refine XS.iinc X0.here hx rfl (hb hby d1_24) rfl (l' := #[.val (.long vx), .second, .val (.int (4 : Int32)), .unset, .unset]) rfl ?_
          refine XS.goto X0.here hx rfl (pc0 := 27) (pc' := 2) rfl (hb hby d1_27) (by decide) (by decide) ?_
          refine XS.iloadN X0.here hx rfl (hb hby d1_2) rfl ?_
          refine XS.bipush X0.here hx rfl (hb hby d1_3) ?_
          exact k)
        have hb67 : (4 : Int32) < (8 : Int32) := (by decide)
        have pre69 : ∀ t, Steps p.tables e below (s₁.setTop (mkF m 21 #[.val (.long vx), .second, .val (.int (4 : Int32)), .unset, .unset] [(.int (XT.cmpL (lshr vx (31 : Int32)) (lshr vx (63 : Int32))))])) t → Steps p.tables e below (s₁.setTop (entryFrame m #[(.long vx)] 5)) t := fun t k => pre68 t (by
          show Steps p.tables e below (s₁.setTop (mkF m 5 #[.val (.long vx), .second, .val (.int (4 : Int32)), .unset, .unset] [(.int (8 : Int32)), (.int (4 : Int32))])) _
          refine XS.icmpNo X0.here hx rfl (hb hby d1_5) rfl (tlt hb67).2.1 ?_
          refine XS.lloadN X0.here hx rfl (hb hby d1_8) rfl ?_
          refine XS.iloadN X0.here hx rfl (hb hby d1_9) rfl ?_
          refine XS.bipush X0.here hx rfl (hb hby d1_10) ?_
          refine XS.imul X0.here hx rfl (hb hby d1_12) rfl ?_
          refine XS.iconst X0.here hx rfl (hb hby d1_13) ?_
          refine XS.isub X0.here hx rfl (hb hby d1_14) rfl ?_
          show Steps p.tables e below (s₁.setTop (mkF m 15 #[.val (.long vx), .second, .val (.int (4 : Int32)), .unset, .unset] [(.int (31 : Int32)), (.long vx)])) _
          refine XS.lshr X0.here hx rfl (hb hby d1_15) rfl ?_
          refine XS.lloadN X0.here hx rfl (hb hby d1_16) rfl ?_
          refine XS.bipush X0.here hx rfl (hb hby d1_17) ?_
          refine XS.lshr X0.here hx rfl (hb hby d1_19) rfl ?_
          refine XS.lcmp X0.here hx rfl (hb hby d1_20) rfl ?_
          exact k)
        by_cases hb70 : (lshr vx (31 : Int32)) = (lshr vx (63 : Int32))
        · have pre71 : ∀ t, Steps p.tables e below (s₁.setTop (mkF m 30 #[.val (.long vx), .second, .val (.int (4 : Int32)), .unset, .unset] [])) t → Steps p.tables e below (s₁.setTop (entryFrame m #[(.long vx)] 5)) t := fun t k => pre69 t (by show Steps p.tables e below (s₁.setTop (mkF m 21 #[.val (.long vx), .second, .val (.int (4 : Int32)), .unset, .unset] [(.int (XT.cmpL (lshr vx (31 : Int32)) (lshr vx (63 : Int32))))])) _; refine XS.ifYes X0.here hx rfl (pc0 := 21) (pc' := 30) rfl (hb hby d1_21) rfl (XT.ll_eq_t hb70) (by decide) (by decide) ?_; exact k)
          have pre72 : ∀ t, Steps p.tables e below (s₁.setTop (mkF m 31 #[.val (.long vx), .second, .val (.int (4 : Int32)), .unset, .unset] [(.int (4 : Int32))])) t → Steps p.tables e below (s₁.setTop (entryFrame m #[(.long vx)] 5)) t := fun t k => pre71 t (by
            show Steps p.tables e below (s₁.setTop (mkF m 30 #[.val (.long vx), .second, .val (.int (4 : Int32)), .unset, .unset] [])) _
            refine XS.iloadN X0.here hx rfl (hb hby d1_30) rfl ?_
            exact k)
          obtain ⟨T73, h73, b73, X73, e73, R73, st73⟩ := gNewP X0 hx hZ (hw _ (List.mem_of_getElem? (i := 4) rfl)) e0 R0 (g := (mkF m 31 #[.val (.long vx), .second, .val (.int (4 : Int32)), .unset, .unset] [(.int (4 : Int32))])) rfl (hb hby d1_31) rfl (by decide) 4 (by decide) (by decide) (by decide) (by decide) (vs := [(.int (0 : Int32)), (.int (0 : Int32)), (.int (0 : Int32)), (.int (0 : Int32))]) rfl
          replace R73 : Rep Z n0 h73 ((b73, Ar .byte [(.int (0 : Int32)), (.int (0 : Int32)), (.int (0 : Int32)), (.int (0 : Int32))]) :: Rst) := R73
          have pre74 : ∀ t, Steps p.tables e below (T73.setTop (mkF m 33 #[.val (.long vx), .second, .val (.int (4 : Int32)), .unset, .unset] [(.ref b73)])) t → Steps p.tables e below (s₁.setTop (entryFrame m #[(.long vx)] 5)) t := fun t k => pre72 t (st73 t k)
          have pre76 : ∀ t, Steps p.tables e below (T73.setTop (mkF m 40 #[.val (.long vx), .second, .val (.int (4 : Int32)), .val (.ref b73), .val (.int (0 : Int32))] [(.int (4 : Int32)), (.int (0 : Int32))])) t → Steps p.tables e below (s₁.setTop (entryFrame m #[(.long vx)] 5)) t := fun t k => pre74 t (by
            show Steps p.tables e below (T73.setTop (mkF m 33 #[.val (.long vx), .second, .val (.int (4 : Int32)), .unset, .unset] [(.ref b73)])) _
            refine XS.astoreN X73.here hx rfl (hb hby d1_33) rfl rfl (l' := #[.val (.long vx), .second, .val (.int (4 : Int32)), .val (.ref b73), .unset]) rfl ?_
            refine XS.iconst X73.here hx rfl (hb hby d1_34) ?_
            refine XS.istore X73.here hx rfl (hb hby d1_35) rfl (l' := #[.val (.long vx), .second, .val (.int (4 : Int32)), .val (.ref b73), .val (.int (0 : Int32))]) rfl ?_
            refine XS.iload X73.here hx rfl (hb hby d1_37) rfl ?_
            refine XS.iloadN X73.here hx rfl (hb hby d1_39) rfl ?_
            exact k)
          have hb75 : (0 : Int32) < (4 : Int32) := (by decide)
          have pre77 : ∀ t, Steps p.tables e below (T73.setTop (mkF m 59 #[.val (.long vx), .second, .val (.int (4 : Int32)), .val (.ref b73), .val (.int (0 : Int32))] [(.int (((lshr vx (24 : Int32)).toInt32).toInt8.toInt32)), (.int (0 : Int32)), (.ref b73)])) t → Steps p.tables e below (s₁.setTop (entryFrame m #[(.long vx)] 5)) t := fun t k => pre76 t (by
            show Steps p.tables e below (T73.setTop (mkF m 40 #[.val (.long vx), .second, .val (.int (4 : Int32)), .val (.ref b73), .val (.int (0 : Int32))] [(.int (4 : Int32)), (.int (0 : Int32))])) _
            refine XS.icmpNo X73.here hx rfl (hb hby d1_40) rfl (tlt hb75).2.1 ?_
            refine XS.aloadN X73.here hx rfl (hb hby d1_43) rfl rfl ?_
            refine XS.iload X73.here hx rfl (hb hby d1_44) rfl ?_
            refine XS.lloadN X73.here hx rfl (hb hby d1_46) rfl ?_
            refine XS.iloadN X73.here hx rfl (hb hby d1_47) rfl ?_
            refine XS.iconst X73.here hx rfl (hb hby d1_48) ?_
            refine XS.isub X73.here hx rfl (hb hby d1_49) rfl ?_
            show Steps p.tables e below (T73.setTop (mkF m 50 #[.val (.long vx), .second, .val (.int (4 : Int32)), .val (.ref b73), .val (.int (0 : Int32))] [(.int (3 : Int32)), (.long vx), (.int (0 : Int32)), (.ref b73)])) _
            refine XS.iload X73.here hx rfl (hb hby d1_50) rfl ?_
            refine XS.isub X73.here hx rfl (hb hby d1_52) rfl ?_
            refine XS.bipush X73.here hx rfl (hb hby d1_53) ?_
            refine XS.imul X73.here hx rfl (hb hby d1_55) rfl ?_
            refine XS.lshr X73.here hx rfl (hb hby d1_56) rfl ?_
            refine XS.l2i X73.here hx rfl (hb hby d1_57) rfl ?_
            refine XS.i2b X73.here hx rfl (hb hby d1_58) rfl ?_
            exact k)
          obtain ⟨T78, h78, ls78, X78, e78, N78, R78, st78⟩ := gBst X73 hx hZ e73 N0 R73 0 rfl (j := (0 : Int32)) (by decide) (0) rfl (show (0 : Nat) < 4 by decide) (g := (mkF m 59 #[.val (.long vx), .second, .val (.int (4 : Int32)), .val (.ref b73), .val (.int (0 : Int32))] [(.int (((lshr vx (24 : Int32)).toInt32).toInt8.toInt32)), (.int (0 : Int32)), (.ref b73)])) rfl rfl (hb hby d1_59)
          replace R78 : Rep Z n0 h78 ((b73, Ar .byte [(.int ((((lshr vx (24 : Int32)).toInt32).toInt8.toInt32).toInt8.toInt32)), (.int (0 : Int32)), (.int (0 : Int32)), (.int (0 : Int32))]) :: Rst) := R78
          have pre79 : ∀ t, Steps p.tables e below (T78.setTop (mkF m 60 #[.val (.long vx), .second, .val (.int (4 : Int32)), .val (.ref b73), .val (.int (0 : Int32))] [])) t → Steps p.tables e below (s₁.setTop (entryFrame m #[(.long vx)] 5)) t := fun t k => pre77 t (st78 t k)
          have pre81 : ∀ t, Steps p.tables e below (T78.setTop (mkF m 40 #[.val (.long vx), .second, .val (.int (4 : Int32)), .val (.ref b73), .val (.int (1 : Int32))] [(.int (4 : Int32)), (.int (1 : Int32))])) t → Steps p.tables e below (s₁.setTop (entryFrame m #[(.long vx)] 5)) t := fun t k => pre79 t (by
            show Steps p.tables e below (T78.setTop (mkF m 60 #[.val (.long vx), .second, .val (.int (4 : Int32)), .val (.ref b73), .val (.int (0 : Int32))] [])) _
            refine XS.iinc X78.here hx rfl (hb hby d1_60) rfl (l' := #[.val (.long vx), .second, .val (.int (4 : Int32)), .val (.ref b73), .val (.int (1 : Int32))]) rfl ?_
            refine XS.goto X78.here hx rfl (pc0 := 63) (pc' := 37) rfl (hb hby d1_63) (by decide) (by decide) ?_
            refine XS.iload X78.here hx rfl (hb hby d1_37) rfl ?_
            refine XS.iloadN X78.here hx rfl (hb hby d1_39) rfl ?_
            exact k)
          have hb80 : (1 : Int32) < (4 : Int32) := (by decide)
          have pre82 : ∀ t, Steps p.tables e below (T78.setTop (mkF m 59 #[.val (.long vx), .second, .val (.int (4 : Int32)), .val (.ref b73), .val (.int (1 : Int32))] [(.int (((lshr vx (16 : Int32)).toInt32).toInt8.toInt32)), (.int (1 : Int32)), (.ref b73)])) t → Steps p.tables e below (s₁.setTop (entryFrame m #[(.long vx)] 5)) t := fun t k => pre81 t (by
            show Steps p.tables e below (T78.setTop (mkF m 40 #[.val (.long vx), .second, .val (.int (4 : Int32)), .val (.ref b73), .val (.int (1 : Int32))] [(.int (4 : Int32)), (.int (1 : Int32))])) _
            refine XS.icmpNo X78.here hx rfl (hb hby d1_40) rfl (tlt hb80).2.1 ?_
            refine XS.aloadN X78.here hx rfl (hb hby d1_43) rfl rfl ?_
            refine XS.iload X78.here hx rfl (hb hby d1_44) rfl ?_
            refine XS.lloadN X78.here hx rfl (hb hby d1_46) rfl ?_
            refine XS.iloadN X78.here hx rfl (hb hby d1_47) rfl ?_
            refine XS.iconst X78.here hx rfl (hb hby d1_48) ?_
            refine XS.isub X78.here hx rfl (hb hby d1_49) rfl ?_
            show Steps p.tables e below (T78.setTop (mkF m 50 #[.val (.long vx), .second, .val (.int (4 : Int32)), .val (.ref b73), .val (.int (1 : Int32))] [(.int (3 : Int32)), (.long vx), (.int (1 : Int32)), (.ref b73)])) _
            refine XS.iload X78.here hx rfl (hb hby d1_50) rfl ?_
            refine XS.isub X78.here hx rfl (hb hby d1_52) rfl ?_
            refine XS.bipush X78.here hx rfl (hb hby d1_53) ?_
            refine XS.imul X78.here hx rfl (hb hby d1_55) rfl ?_
            refine XS.lshr X78.here hx rfl (hb hby d1_56) rfl ?_
            refine XS.l2i X78.here hx rfl (hb hby d1_57) rfl ?_
            refine XS.i2b X78.here hx rfl (hb hby d1_58) rfl ?_
            exact k)
          obtain ⟨T83, h83, ls83, X83, e83, N83, R83, st83⟩ := gBst X78 hx hZ e78 N78 R78 0 rfl (j := (1 : Int32)) (by decide) (1) rfl (show (1 : Nat) < 4 by decide) (g := (mkF m 59 #[.val (.long vx), .second, .val (.int (4 : Int32)), .val (.ref b73), .val (.int (1 : Int32))] [(.int (((lshr vx (16 : Int32)).toInt32).toInt8.toInt32)), (.int (1 : Int32)), (.ref b73)])) rfl rfl (hb hby d1_59)
          replace R83 : Rep Z n0 h83 ((b73, Ar .byte [(.int ((((lshr vx (24 : Int32)).toInt32).toInt8.toInt32).toInt8.toInt32)), (.int ((((lshr vx (16 : Int32)).toInt32).toInt8.toInt32).toInt8.toInt32)), (.int (0 : Int32)), (.int (0 : Int32))]) :: Rst) := R83
          have pre84 : ∀ t, Steps p.tables e below (T83.setTop (mkF m 60 #[.val (.long vx), .second, .val (.int (4 : Int32)), .val (.ref b73), .val (.int (1 : Int32))] [])) t → Steps p.tables e below (s₁.setTop (entryFrame m #[(.long vx)] 5)) t := fun t k => pre82 t (st83 t k)
          have pre86 : ∀ t, Steps p.tables e below (T83.setTop (mkF m 40 #[.val (.long vx), .second, .val (.int (4 : Int32)), .val (.ref b73), .val (.int (2 : Int32))] [(.int (4 : Int32)), (.int (2 : Int32))])) t → Steps p.tables e below (s₁.setTop (entryFrame m #[(.long vx)] 5)) t := fun t k => pre84 t (by
            show Steps p.tables e below (T83.setTop (mkF m 60 #[.val (.long vx), .second, .val (.int (4 : Int32)), .val (.ref b73), .val (.int (1 : Int32))] [])) _
            refine XS.iinc X83.here hx rfl (hb hby d1_60) rfl (l' := #[.val (.long vx), .second, .val (.int (4 : Int32)), .val (.ref b73), .val (.int (2 : Int32))]) rfl ?_
            refine XS.goto X83.here hx rfl (pc0 := 63) (pc' := 37) rfl (hb hby d1_63) (by decide) (by decide) ?_
            refine XS.iload X83.here hx rfl (hb hby d1_37) rfl ?_
            refine XS.iloadN X83.here hx rfl (hb hby d1_39) rfl ?_
            exact k)
          have hb85 : (2 : Int32) < (4 : Int32) := (by decide)
          have pre87 : ∀ t, Steps p.tables e below (T83.setTop (mkF m 59 #[.val (.long vx), .second, .val (.int (4 : Int32)), .val (.ref b73), .val (.int (2 : Int32))] [(.int (((lshr vx (8 : Int32)).toInt32).toInt8.toInt32)), (.int (2 : Int32)), (.ref b73)])) t → Steps p.tables e below (s₁.setTop (entryFrame m #[(.long vx)] 5)) t := fun t k => pre86 t (by
            show Steps p.tables e below (T83.setTop (mkF m 40 #[.val (.long vx), .second, .val (.int (4 : Int32)), .val (.ref b73), .val (.int (2 : Int32))] [(.int (4 : Int32)), (.int (2 : Int32))])) _
            refine XS.icmpNo X83.here hx rfl (hb hby d1_40) rfl (tlt hb85).2.1 ?_
            refine XS.aloadN X83.here hx rfl (hb hby d1_43) rfl rfl ?_
            refine XS.iload X83.here hx rfl (hb hby d1_44) rfl ?_
            refine XS.lloadN X83.here hx rfl (hb hby d1_46) rfl ?_
            refine XS.iloadN X83.here hx rfl (hb hby d1_47) rfl ?_
            refine XS.iconst X83.here hx rfl (hb hby d1_48) ?_
            refine XS.isub X83.here hx rfl (hb hby d1_49) rfl ?_
            show Steps p.tables e below (T83.setTop (mkF m 50 #[.val (.long vx), .second, .val (.int (4 : Int32)), .val (.ref b73), .val (.int (2 : Int32))] [(.int (3 : Int32)), (.long vx), (.int (2 : Int32)), (.ref b73)])) _
            refine XS.iload X83.here hx rfl (hb hby d1_50) rfl ?_
            refine XS.isub X83.here hx rfl (hb hby d1_52) rfl ?_
            refine XS.bipush X83.here hx rfl (hb hby d1_53) ?_
            refine XS.imul X83.here hx rfl (hb hby d1_55) rfl ?_
            refine XS.lshr X83.here hx rfl (hb hby d1_56) rfl ?_
            refine XS.l2i X83.here hx rfl (hb hby d1_57) rfl ?_
            refine XS.i2b X83.here hx rfl (hb hby d1_58) rfl ?_
            exact k)
          obtain ⟨T88, h88, ls88, X88, e88, N88, R88, st88⟩ := gBst X83 hx hZ e83 N83 R83 0 rfl (j := (2 : Int32)) (by decide) (2) rfl (show (2 : Nat) < 4 by decide) (g := (mkF m 59 #[.val (.long vx), .second, .val (.int (4 : Int32)), .val (.ref b73), .val (.int (2 : Int32))] [(.int (((lshr vx (8 : Int32)).toInt32).toInt8.toInt32)), (.int (2 : Int32)), (.ref b73)])) rfl rfl (hb hby d1_59)
          replace R88 : Rep Z n0 h88 ((b73, Ar .byte [(.int ((((lshr vx (24 : Int32)).toInt32).toInt8.toInt32).toInt8.toInt32)), (.int ((((lshr vx (16 : Int32)).toInt32).toInt8.toInt32).toInt8.toInt32)), (.int ((((lshr vx (8 : Int32)).toInt32).toInt8.toInt32).toInt8.toInt32)), (.int (0 : Int32))]) :: Rst) := R88
          have pre89 : ∀ t, Steps p.tables e below (T88.setTop (mkF m 60 #[.val (.long vx), .second, .val (.int (4 : Int32)), .val (.ref b73), .val (.int (2 : Int32))] [])) t → Steps p.tables e below (s₁.setTop (entryFrame m #[(.long vx)] 5)) t := fun t k => pre87 t (st88 t k)
          have pre91 : ∀ t, Steps p.tables e below (T88.setTop (mkF m 40 #[.val (.long vx), .second, .val (.int (4 : Int32)), .val (.ref b73), .val (.int (3 : Int32))] [(.int (4 : Int32)), (.int (3 : Int32))])) t → Steps p.tables e below (s₁.setTop (entryFrame m #[(.long vx)] 5)) t := fun t k => pre89 t (by
            show Steps p.tables e below (T88.setTop (mkF m 60 #[.val (.long vx), .second, .val (.int (4 : Int32)), .val (.ref b73), .val (.int (2 : Int32))] [])) _
            refine XS.iinc X88.here hx rfl (hb hby d1_60) rfl (l' := #[.val (.long vx), .second, .val (.int (4 : Int32)), .val (.ref b73), .val (.int (3 : Int32))]) rfl ?_
            refine XS.goto X88.here hx rfl (pc0 := 63) (pc' := 37) rfl (hb hby d1_63) (by decide) (by decide) ?_
            refine XS.iload X88.here hx rfl (hb hby d1_37) rfl ?_
            refine XS.iloadN X88.here hx rfl (hb hby d1_39) rfl ?_
            exact k)
          have hb90 : (3 : Int32) < (4 : Int32) := (by decide)
          have pre92 : ∀ t, Steps p.tables e below (T88.setTop (mkF m 59 #[.val (.long vx), .second, .val (.int (4 : Int32)), .val (.ref b73), .val (.int (3 : Int32))] [(.int (((lshr vx (0 : Int32)).toInt32).toInt8.toInt32)), (.int (3 : Int32)), (.ref b73)])) t → Steps p.tables e below (s₁.setTop (entryFrame m #[(.long vx)] 5)) t := fun t k => pre91 t (by
            show Steps p.tables e below (T88.setTop (mkF m 40 #[.val (.long vx), .second, .val (.int (4 : Int32)), .val (.ref b73), .val (.int (3 : Int32))] [(.int (4 : Int32)), (.int (3 : Int32))])) _
            refine XS.icmpNo X88.here hx rfl (hb hby d1_40) rfl (tlt hb90).2.1 ?_
            refine XS.aloadN X88.here hx rfl (hb hby d1_43) rfl rfl ?_
            refine XS.iload X88.here hx rfl (hb hby d1_44) rfl ?_
            refine XS.lloadN X88.here hx rfl (hb hby d1_46) rfl ?_
            refine XS.iloadN X88.here hx rfl (hb hby d1_47) rfl ?_
            refine XS.iconst X88.here hx rfl (hb hby d1_48) ?_
            refine XS.isub X88.here hx rfl (hb hby d1_49) rfl ?_
            show Steps p.tables e below (T88.setTop (mkF m 50 #[.val (.long vx), .second, .val (.int (4 : Int32)), .val (.ref b73), .val (.int (3 : Int32))] [(.int (3 : Int32)), (.long vx), (.int (3 : Int32)), (.ref b73)])) _
            refine XS.iload X88.here hx rfl (hb hby d1_50) rfl ?_
            refine XS.isub X88.here hx rfl (hb hby d1_52) rfl ?_
            refine XS.bipush X88.here hx rfl (hb hby d1_53) ?_
            refine XS.imul X88.here hx rfl (hb hby d1_55) rfl ?_
            refine XS.lshr X88.here hx rfl (hb hby d1_56) rfl ?_
            refine XS.l2i X88.here hx rfl (hb hby d1_57) rfl ?_
            refine XS.i2b X88.here hx rfl (hb hby d1_58) rfl ?_
            exact k)
          obtain ⟨T93, h93, ls93, X93, e93, N93, R93, st93⟩ := gBst X88 hx hZ e88 N88 R88 0 rfl (j := (3 : Int32)) (by decide) (3) rfl (show (3 : Nat) < 4 by decide) (g := (mkF m 59 #[.val (.long vx), .second, .val (.int (4 : Int32)), .val (.ref b73), .val (.int (3 : Int32))] [(.int (((lshr vx (0 : Int32)).toInt32).toInt8.toInt32)), (.int (3 : Int32)), (.ref b73)])) rfl rfl (hb hby d1_59)
          replace R93 : Rep Z n0 h93 ((b73, Ar .byte [(.int ((((lshr vx (24 : Int32)).toInt32).toInt8.toInt32).toInt8.toInt32)), (.int ((((lshr vx (16 : Int32)).toInt32).toInt8.toInt32).toInt8.toInt32)), (.int ((((lshr vx (8 : Int32)).toInt32).toInt8.toInt32).toInt8.toInt32)), (.int ((((lshr vx (0 : Int32)).toInt32).toInt8.toInt32).toInt8.toInt32))]) :: Rst) := R93
          have pre94 : ∀ t, Steps p.tables e below (T93.setTop (mkF m 60 #[.val (.long vx), .second, .val (.int (4 : Int32)), .val (.ref b73), .val (.int (3 : Int32))] [])) t → Steps p.tables e below (s₁.setTop (entryFrame m #[(.long vx)] 5)) t := fun t k => pre92 t (st93 t k)
          have pre96 : ∀ t, Steps p.tables e below (T93.setTop (mkF m 40 #[.val (.long vx), .second, .val (.int (4 : Int32)), .val (.ref b73), .val (.int (4 : Int32))] [(.int (4 : Int32)), (.int (4 : Int32))])) t → Steps p.tables e below (s₁.setTop (entryFrame m #[(.long vx)] 5)) t := fun t k => pre94 t (by
            show Steps p.tables e below (T93.setTop (mkF m 60 #[.val (.long vx), .second, .val (.int (4 : Int32)), .val (.ref b73), .val (.int (3 : Int32))] [])) _
            refine XS.iinc X93.here hx rfl (hb hby d1_60) rfl (l' := #[.val (.long vx), .second, .val (.int (4 : Int32)), .val (.ref b73), .val (.int (4 : Int32))]) rfl ?_
            refine XS.goto X93.here hx rfl (pc0 := 63) (pc' := 37) rfl (hb hby d1_63) (by decide) (by decide) ?_
            refine XS.iload X93.here hx rfl (hb hby d1_37) rfl ?_
            refine XS.iloadN X93.here hx rfl (hb hby d1_39) rfl ?_
            exact k)
          have hb95 : ¬ ((4 : Int32) < (4 : Int32)) := (by decide)
          have pre97 : ∀ t, Steps p.tables e below (T93.setTop (mkF m 67 #[.val (.long vx), .second, .val (.int (4 : Int32)), .val (.ref b73), .val (.int (4 : Int32))] [(.ref b73)])) t → Steps p.tables e below (s₁.setTop (entryFrame m #[(.long vx)] 5)) t := fun t k => pre96 t (by
            show Steps p.tables e below (T93.setTop (mkF m 40 #[.val (.long vx), .second, .val (.int (4 : Int32)), .val (.ref b73), .val (.int (4 : Int32))] [(.int (4 : Int32)), (.int (4 : Int32))])) _
            refine XS.icmpYes X93.here hx rfl (pc0 := 40) (pc' := 66) rfl (hb hby d1_40) rfl (flt hb95).2.1 (by decide) (by decide) ?_
            refine XS.aloadN X93.here hx rfl (hb hby d1_66) rfl rfl ?_
            exact k)
          obtain ⟨fs, hr, hrun, hended, hW, hsame⟩ := X93.leave (v := some (.ref b73)) (fun h => by rw [Bd.returns] at h; cases h)
          refine ⟨_, _, pre97 _ ?_, hrun, hended, _, _, rfl, ?_, ⟨_, rfl⟩, hW, hsame.mono (by decide) (by decide)⟩
          · show Steps p.tables e below (T93.setTop (mkF m 67 #[.val (.long vx), .second, .val (.int (4 : Int32)), .val (.ref b73), .val (.int (4 : Int32))] [(.ref b73)])) _
            exact Jvm.Own.retA X93 hx (t := (.array .byte)) rfl Bd.returns (hb hby d1_67) hr
          · show Q1 Z vx n0 Rst _ T93.heap _
            rw [e93]
            exact ⟨b73, rfl, N93, (by simp only [EB, if_neg hb4, if_neg hb21, if_neg hb43, if_pos hb70]; exact R93)⟩
        · have pre98 : ∀ t, Steps p.tables e below (s₁.setTop (mkF m 24 #[.val (.long vx), .second, .val (.int (4 : Int32)), .unset, .unset] [])) t → Steps p.tables e below (s₁.setTop (entryFrame m #[(.long vx)] 5)) t := fun t k => pre69 t (by show Steps p.tables e below (s₁.setTop (mkF m 21 #[.val (.long vx), .second, .val (.int (4 : Int32)), .unset, .unset] [(.int (XT.cmpL (lshr vx (31 : Int32)) (lshr vx (63 : Int32))))])) _; refine XS.ifNo X0.here hx rfl (hb hby d1_21) rfl (XT.ll_eq_f hb70) ?_; exact k)
          have pre100 : ∀ t, Steps p.tables e below (s₁.setTop (mkF m 5 #[.val (.long vx), .second, .val (.int (5 : Int32)), .unset, .unset] [(.int (8 : Int32)), (.int (5 : Int32))])) t → Steps p.tables e below (s₁.setTop (entryFrame m #[(.long vx)] 5)) t := fun t k => pre98 t (by
            show Steps p.tables e below (s₁.setTop (mkF m 24 #[.val (.long vx), .second, .val (.int (4 : Int32)), .unset, .unset] [])) _
            refine XS.iinc X0.here hx rfl (hb hby d1_24) rfl (l' := #[.val (.long vx), .second, .val (.int (5 : Int32)), .unset, .unset]) rfl ?_
            refine XS.goto X0.here hx rfl (pc0 := 27) (pc' := 2) rfl (hb hby d1_27) (by decide) (by decide) ?_
            refine XS.iloadN X0.here hx rfl (hb hby d1_2) rfl ?_
            refine XS.bipush X0.here hx rfl (hb hby d1_3) ?_
            exact k)
          have hb99 : (5 : Int32) < (8 : Int32) := (by decide)
          have pre101 : ∀ t, Steps p.tables e below (s₁.setTop (mkF m 21 #[.val (.long vx), .second, .val (.int (5 : Int32)), .unset, .unset] [(.int (XT.cmpL (lshr vx (39 : Int32)) (lshr vx (63 : Int32))))])) t → Steps p.tables e below (s₁.setTop (entryFrame m #[(.long vx)] 5)) t := fun t k => pre100 t (by
            show Steps p.tables e below (s₁.setTop (mkF m 5 #[.val (.long vx), .second, .val (.int (5 : Int32)), .unset, .unset] [(.int (8 : Int32)), (.int (5 : Int32))])) _
            refine XS.icmpNo X0.here hx rfl (hb hby d1_5) rfl (tlt hb99).2.1 ?_
            refine XS.lloadN X0.here hx rfl (hb hby d1_8) rfl ?_
            refine XS.iloadN X0.here hx rfl (hb hby d1_9) rfl ?_
            refine XS.bipush X0.here hx rfl (hb hby d1_10) ?_
            refine XS.imul X0.here hx rfl (hb hby d1_12) rfl ?_
            refine XS.iconst X0.here hx rfl (hb hby d1_13) ?_
            refine XS.isub X0.here hx rfl (hb hby d1_14) rfl ?_
            show Steps p.tables e below (s₁.setTop (mkF m 15 #[.val (.long vx), .second, .val (.int (5 : Int32)), .unset, .unset] [(.int (39 : Int32)), (.long vx)])) _
            refine XS.lshr X0.here hx rfl (hb hby d1_15) rfl ?_
            refine XS.lloadN X0.here hx rfl (hb hby d1_16) rfl ?_
            refine XS.bipush X0.here hx rfl (hb hby d1_17) ?_
            refine XS.lshr X0.here hx rfl (hb hby d1_19) rfl ?_
            refine XS.lcmp X0.here hx rfl (hb hby d1_20) rfl ?_
            exact k)
          by_cases hb102 : (lshr vx (39 : Int32)) = (lshr vx (63 : Int32))
          · have pre103 : ∀ t, Steps p.tables e below (s₁.setTop (mkF m 30 #[.val (.long vx), .second, .val (.int (5 : Int32)), .unset, .unset] [])) t → Steps p.tables e below (s₁.setTop (entryFrame m #[(.long vx)] 5)) t := fun t k => pre101 t (by show Steps p.tables e below (s₁.setTop (mkF m 21 #[.val (.long vx), .second, .val (.int (5 : Int32)), .unset, .unset] [(.int (XT.cmpL (lshr vx (39 : Int32)) (lshr vx (63 : Int32))))])) _; refine XS.ifYes X0.here hx rfl (pc0 := 21) (pc' := 30) rfl (hb hby d1_21) rfl (XT.ll_eq_t hb102) (by decide) (by decide) ?_; exact k)
            have pre104 : ∀ t, Steps p.tables e below (s₁.setTop (mkF m 31 #[.val (.long vx), .second, .val (.int (5 : Int32)), .unset, .unset] [(.int (5 : Int32))])) t → Steps p.tables e below (s₁.setTop (entryFrame m #[(.long vx)] 5)) t := fun t k => pre103 t (by
              show Steps p.tables e below (s₁.setTop (mkF m 30 #[.val (.long vx), .second, .val (.int (5 : Int32)), .unset, .unset] [])) _
              refine XS.iloadN X0.here hx rfl (hb hby d1_30) rfl ?_
              exact k)
            obtain ⟨T105, h105, b105, X105, e105, R105, st105⟩ := gNewP X0 hx hZ (hw _ (List.mem_of_getElem? (i := 4) rfl)) e0 R0 (g := (mkF m 31 #[.val (.long vx), .second, .val (.int (5 : Int32)), .unset, .unset] [(.int (5 : Int32))])) rfl (hb hby d1_31) rfl (by decide) 5 (by decide) (by decide) (by decide) (by decide) (vs := [(.int (0 : Int32)), (.int (0 : Int32)), (.int (0 : Int32)), (.int (0 : Int32)), (.int (0 : Int32))]) rfl
            replace R105 : Rep Z n0 h105 ((b105, Ar .byte [(.int (0 : Int32)), (.int (0 : Int32)), (.int (0 : Int32)), (.int (0 : Int32)), (.int (0 : Int32))]) :: Rst) := R105
            have pre106 : ∀ t, Steps p.tables e below (T105.setTop (mkF m 33 #[.val (.long vx), .second, .val (.int (5 : Int32)), .unset, .unset] [(.ref b105)])) t → Steps p.tables e below (s₁.setTop (entryFrame m #[(.long vx)] 5)) t := fun t k => pre104 t (st105 t k)
            have pre108 : ∀ t, Steps p.tables e below (T105.setTop (mkF m 40 #[.val (.long vx), .second, .val (.int (5 : Int32)), .val (.ref b105), .val (.int (0 : Int32))] [(.int (5 : Int32)), (.int (0 : Int32))])) t → Steps p.tables e below (s₁.setTop (entryFrame m #[(.long vx)] 5)) t := fun t k => pre106 t (by
              show Steps p.tables e below (T105.setTop (mkF m 33 #[.val (.long vx), .second, .val (.int (5 : Int32)), .unset, .unset] [(.ref b105)])) _
              refine XS.astoreN X105.here hx rfl (hb hby d1_33) rfl rfl (l' := #[.val (.long vx), .second, .val (.int (5 : Int32)), .val (.ref b105), .unset]) rfl ?_
              refine XS.iconst X105.here hx rfl (hb hby d1_34) ?_
              refine XS.istore X105.here hx rfl (hb hby d1_35) rfl (l' := #[.val (.long vx), .second, .val (.int (5 : Int32)), .val (.ref b105), .val (.int (0 : Int32))]) rfl ?_
              refine XS.iload X105.here hx rfl (hb hby d1_37) rfl ?_
              refine XS.iloadN X105.here hx rfl (hb hby d1_39) rfl ?_
              exact k)
            have hb107 : (0 : Int32) < (5 : Int32) := (by decide)
            have pre109 : ∀ t, Steps p.tables e below (T105.setTop (mkF m 59 #[.val (.long vx), .second, .val (.int (5 : Int32)), .val (.ref b105), .val (.int (0 : Int32))] [(.int (((lshr vx (32 : Int32)).toInt32).toInt8.toInt32)), (.int (0 : Int32)), (.ref b105)])) t → Steps p.tables e below (s₁.setTop (entryFrame m #[(.long vx)] 5)) t := fun t k => pre108 t (by
              show Steps p.tables e below (T105.setTop (mkF m 40 #[.val (.long vx), .second, .val (.int (5 : Int32)), .val (.ref b105), .val (.int (0 : Int32))] [(.int (5 : Int32)), (.int (0 : Int32))])) _
              refine XS.icmpNo X105.here hx rfl (hb hby d1_40) rfl (tlt hb107).2.1 ?_
              refine XS.aloadN X105.here hx rfl (hb hby d1_43) rfl rfl ?_
              refine XS.iload X105.here hx rfl (hb hby d1_44) rfl ?_
              refine XS.lloadN X105.here hx rfl (hb hby d1_46) rfl ?_
              refine XS.iloadN X105.here hx rfl (hb hby d1_47) rfl ?_
              refine XS.iconst X105.here hx rfl (hb hby d1_48) ?_
              refine XS.isub X105.here hx rfl (hb hby d1_49) rfl ?_
              show Steps p.tables e below (T105.setTop (mkF m 50 #[.val (.long vx), .second, .val (.int (5 : Int32)), .val (.ref b105), .val (.int (0 : Int32))] [(.int (4 : Int32)), (.long vx), (.int (0 : Int32)), (.ref b105)])) _
              refine XS.iload X105.here hx rfl (hb hby d1_50) rfl ?_
              refine XS.isub X105.here hx rfl (hb hby d1_52) rfl ?_
              refine XS.bipush X105.here hx rfl (hb hby d1_53) ?_
              refine XS.imul X105.here hx rfl (hb hby d1_55) rfl ?_
              refine XS.lshr X105.here hx rfl (hb hby d1_56) rfl ?_
              refine XS.l2i X105.here hx rfl (hb hby d1_57) rfl ?_
              refine XS.i2b X105.here hx rfl (hb hby d1_58) rfl ?_
              exact k)
            obtain ⟨T110, h110, ls110, X110, e110, N110, R110, st110⟩ := gBst X105 hx hZ e105 N0 R105 0 rfl (j := (0 : Int32)) (by decide) (0) rfl (show (0 : Nat) < 5 by decide) (g := (mkF m 59 #[.val (.long vx), .second, .val (.int (5 : Int32)), .val (.ref b105), .val (.int (0 : Int32))] [(.int (((lshr vx (32 : Int32)).toInt32).toInt8.toInt32)), (.int (0 : Int32)), (.ref b105)])) rfl rfl (hb hby d1_59)
            replace R110 : Rep Z n0 h110 ((b105, Ar .byte [(.int ((((lshr vx (32 : Int32)).toInt32).toInt8.toInt32).toInt8.toInt32)), (.int (0 : Int32)), (.int (0 : Int32)), (.int (0 : Int32)), (.int (0 : Int32))]) :: Rst) := R110
            have pre111 : ∀ t, Steps p.tables e below (T110.setTop (mkF m 60 #[.val (.long vx), .second, .val (.int (5 : Int32)), .val (.ref b105), .val (.int (0 : Int32))] [])) t → Steps p.tables e below (s₁.setTop (entryFrame m #[(.long vx)] 5)) t := fun t k => pre109 t (st110 t k)
            have pre113 : ∀ t, Steps p.tables e below (T110.setTop (mkF m 40 #[.val (.long vx), .second, .val (.int (5 : Int32)), .val (.ref b105), .val (.int (1 : Int32))] [(.int (5 : Int32)), (.int (1 : Int32))])) t → Steps p.tables e below (s₁.setTop (entryFrame m #[(.long vx)] 5)) t := fun t k => pre111 t (by
              show Steps p.tables e below (T110.setTop (mkF m 60 #[.val (.long vx), .second, .val (.int (5 : Int32)), .val (.ref b105), .val (.int (0 : Int32))] [])) _
              refine XS.iinc X110.here hx rfl (hb hby d1_60) rfl (l' := #[.val (.long vx), .second, .val (.int (5 : Int32)), .val (.ref b105), .val (.int (1 : Int32))]) rfl ?_
              refine XS.goto X110.here hx rfl (pc0 := 63) (pc' := 37) rfl (hb hby d1_63) (by decide) (by decide) ?_
              refine XS.iload X110.here hx rfl (hb hby d1_37) rfl ?_
              refine XS.iloadN X110.here hx rfl (hb hby d1_39) rfl ?_
              exact k)
            have hb112 : (1 : Int32) < (5 : Int32) := (by decide)
            have pre114 : ∀ t, Steps p.tables e below (T110.setTop (mkF m 59 #[.val (.long vx), .second, .val (.int (5 : Int32)), .val (.ref b105), .val (.int (1 : Int32))] [(.int (((lshr vx (24 : Int32)).toInt32).toInt8.toInt32)), (.int (1 : Int32)), (.ref b105)])) t → Steps p.tables e below (s₁.setTop (entryFrame m #[(.long vx)] 5)) t := fun t k => pre113 t (by
              show Steps p.tables e below (T110.setTop (mkF m 40 #[.val (.long vx), .second, .val (.int (5 : Int32)), .val (.ref b105), .val (.int (1 : Int32))] [(.int (5 : Int32)), (.int (1 : Int32))])) _
              refine XS.icmpNo X110.here hx rfl (hb hby d1_40) rfl (tlt hb112).2.1 ?_
              refine XS.aloadN X110.here hx rfl (hb hby d1_43) rfl rfl ?_
              refine XS.iload X110.here hx rfl (hb hby d1_44) rfl ?_
              refine XS.lloadN X110.here hx rfl (hb hby d1_46) rfl ?_
              refine XS.iloadN X110.here hx rfl (hb hby d1_47) rfl ?_
              refine XS.iconst X110.here hx rfl (hb hby d1_48) ?_
              refine XS.isub X110.here hx rfl (hb hby d1_49) rfl ?_
              show Steps p.tables e below (T110.setTop (mkF m 50 #[.val (.long vx), .second, .val (.int (5 : Int32)), .val (.ref b105), .val (.int (1 : Int32))] [(.int (4 : Int32)), (.long vx), (.int (1 : Int32)), (.ref b105)])) _
              refine XS.iload X110.here hx rfl (hb hby d1_50) rfl ?_
              refine XS.isub X110.here hx rfl (hb hby d1_52) rfl ?_
              refine XS.bipush X110.here hx rfl (hb hby d1_53) ?_
              refine XS.imul X110.here hx rfl (hb hby d1_55) rfl ?_
              refine XS.lshr X110.here hx rfl (hb hby d1_56) rfl ?_
              refine XS.l2i X110.here hx rfl (hb hby d1_57) rfl ?_
              refine XS.i2b X110.here hx rfl (hb hby d1_58) rfl ?_
              exact k)
            obtain ⟨T115, h115, ls115, X115, e115, N115, R115, st115⟩ := gBst X110 hx hZ e110 N110 R110 0 rfl (j := (1 : Int32)) (by decide) (1) rfl (show (1 : Nat) < 5 by decide) (g := (mkF m 59 #[.val (.long vx), .second, .val (.int (5 : Int32)), .val (.ref b105), .val (.int (1 : Int32))] [(.int (((lshr vx (24 : Int32)).toInt32).toInt8.toInt32)), (.int (1 : Int32)), (.ref b105)])) rfl rfl (hb hby d1_59)
            replace R115 : Rep Z n0 h115 ((b105, Ar .byte [(.int ((((lshr vx (32 : Int32)).toInt32).toInt8.toInt32).toInt8.toInt32)), (.int ((((lshr vx (24 : Int32)).toInt32).toInt8.toInt32).toInt8.toInt32)), (.int (0 : Int32)), (.int (0 : Int32)), (.int (0 : Int32))]) :: Rst) := R115
            have pre116 : ∀ t, Steps p.tables e below (T115.setTop (mkF m 60 #[.val (.long vx), .second, .val (.int (5 : Int32)), .val (.ref b105), .val (.int (1 : Int32))] [])) t → Steps p.tables e below (s₁.setTop (entryFrame m #[(.long vx)] 5)) t := fun t k => pre114 t (st115 t k)
            have pre118 : ∀ t, Steps p.tables e below (T115.setTop (mkF m 40 #[.val (.long vx), .second, .val (.int (5 : Int32)), .val (.ref b105), .val (.int (2 : Int32))] [(.int (5 : Int32)), (.int (2 : Int32))])) t → Steps p.tables e below (s₁.setTop (entryFrame m #[(.long vx)] 5)) t := fun t k => pre116 t (by
              show Steps p.tables e below (T115.setTop (mkF m 60 #[.val (.long vx), .second, .val (.int (5 : Int32)), .val (.ref b105), .val (.int (1 : Int32))] [])) _
              refine XS.iinc X115.here hx rfl (hb hby d1_60) rfl (l' := #[.val (.long vx), .second, .val (.int (5 : Int32)), .val (.ref b105), .val (.int (2 : Int32))]) rfl ?_
              refine XS.goto X115.here hx rfl (pc0 := 63) (pc' := 37) rfl (hb hby d1_63) (by decide) (by decide) ?_
              refine XS.iload X115.here hx rfl (hb hby d1_37) rfl ?_
              refine XS.iloadN X115.here hx rfl (hb hby d1_39) rfl ?_
              exact k)
            have hb117 : (2 : Int32) < (5 : Int32) := (by decide)
            have pre119 : ∀ t, Steps p.tables e below (T115.setTop (mkF m 59 #[.val (.long vx), .second, .val (.int (5 : Int32)), .val (.ref b105), .val (.int (2 : Int32))] [(.int (((lshr vx (16 : Int32)).toInt32).toInt8.toInt32)), (.int (2 : Int32)), (.ref b105)])) t → Steps p.tables e below (s₁.setTop (entryFrame m #[(.long vx)] 5)) t := fun t k => pre118 t (by
              show Steps p.tables e below (T115.setTop (mkF m 40 #[.val (.long vx), .second, .val (.int (5 : Int32)), .val (.ref b105), .val (.int (2 : Int32))] [(.int (5 : Int32)), (.int (2 : Int32))])) _
              refine XS.icmpNo X115.here hx rfl (hb hby d1_40) rfl (tlt hb117).2.1 ?_
              refine XS.aloadN X115.here hx rfl (hb hby d1_43) rfl rfl ?_
              refine XS.iload X115.here hx rfl (hb hby d1_44) rfl ?_
              refine XS.lloadN X115.here hx rfl (hb hby d1_46) rfl ?_
              refine XS.iloadN X115.here hx rfl (hb hby d1_47) rfl ?_
              refine XS.iconst X115.here hx rfl (hb hby d1_48) ?_
              refine XS.isub X115.here hx rfl (hb hby d1_49) rfl ?_
              show Steps p.tables e below (T115.setTop (mkF m 50 #[.val (.long vx), .second, .val (.int (5 : Int32)), .val (.ref b105), .val (.int (2 : Int32))] [(.int (4 : Int32)), (.long vx), (.int (2 : Int32)), (.ref b105)])) _
              refine XS.iload X115.here hx rfl (hb hby d1_50) rfl ?_
              refine XS.isub X115.here hx rfl (hb hby d1_52) rfl ?_
              refine XS.bipush X115.here hx rfl (hb hby d1_53) ?_
              refine XS.imul X115.here hx rfl (hb hby d1_55) rfl ?_
              refine XS.lshr X115.here hx rfl (hb hby d1_56) rfl ?_
              refine XS.l2i X115.here hx rfl (hb hby d1_57) rfl ?_
              refine XS.i2b X115.here hx rfl (hb hby d1_58) rfl ?_
              exact k)
            obtain ⟨T120, h120, ls120, X120, e120, N120, R120, st120⟩ := gBst X115 hx hZ e115 N115 R115 0 rfl (j := (2 : Int32)) (by decide) (2) rfl (show (2 : Nat) < 5 by decide) (g := (mkF m 59 #[.val (.long vx), .second, .val (.int (5 : Int32)), .val (.ref b105), .val (.int (2 : Int32))] [(.int (((lshr vx (16 : Int32)).toInt32).toInt8.toInt32)), (.int (2 : Int32)), (.ref b105)])) rfl rfl (hb hby d1_59)
            replace R120 : Rep Z n0 h120 ((b105, Ar .byte [(.int ((((lshr vx (32 : Int32)).toInt32).toInt8.toInt32).toInt8.toInt32)), (.int ((((lshr vx (24 : Int32)).toInt32).toInt8.toInt32).toInt8.toInt32)), (.int ((((lshr vx (16 : Int32)).toInt32).toInt8.toInt32).toInt8.toInt32)), (.int (0 : Int32)), (.int (0 : Int32))]) :: Rst) := R120
            have pre121 : ∀ t, Steps p.tables e below (T120.setTop (mkF m 60 #[.val (.long vx), .second, .val (.int (5 : Int32)), .val (.ref b105), .val (.int (2 : Int32))] [])) t → Steps p.tables e below (s₁.setTop (entryFrame m #[(.long vx)] 5)) t := fun t k => pre119 t (st120 t k)
            have pre123 : ∀ t, Steps p.tables e below (T120.setTop (mkF m 40 #[.val (.long vx), .second, .val (.int (5 : Int32)), .val (.ref b105), .val (.int (3 : Int32))] [(.int (5 : Int32)), (.int (3 : Int32))])) t → Steps p.tables e below (s₁.setTop (entryFrame m #[(.long vx)] 5)) t := fun t k => pre121 t (by
              show Steps p.tables e below (T120.setTop (mkF m 60 #[.val (.long vx), .second, .val (.int (5 : Int32)), .val (.ref b105), .val (.int (2 : Int32))] [])) _
              refine XS.iinc X120.here hx rfl (hb hby d1_60) rfl (l' := #[.val (.long vx), .second, .val (.int (5 : Int32)), .val (.ref b105), .val (.int (3 : Int32))]) rfl ?_
              refine XS.goto X120.here hx rfl (pc0 := 63) (pc' := 37) rfl (hb hby d1_63) (by decide) (by decide) ?_
              refine XS.iload X120.here hx rfl (hb hby d1_37) rfl ?_
              refine XS.iloadN X120.here hx rfl (hb hby d1_39) rfl ?_
              exact k)
            have hb122 : (3 : Int32) < (5 : Int32) := (by decide)
            have pre124 : ∀ t, Steps p.tables e below (T120.setTop (mkF m 59 #[.val (.long vx), .second, .val (.int (5 : Int32)), .val (.ref b105), .val (.int (3 : Int32))] [(.int (((lshr vx (8 : Int32)).toInt32).toInt8.toInt32)), (.int (3 : Int32)), (.ref b105)])) t → Steps p.tables e below (s₁.setTop (entryFrame m #[(.long vx)] 5)) t := fun t k => pre123 t (by
              show Steps p.tables e below (T120.setTop (mkF m 40 #[.val (.long vx), .second, .val (.int (5 : Int32)), .val (.ref b105), .val (.int (3 : Int32))] [(.int (5 : Int32)), (.int (3 : Int32))])) _
              refine XS.icmpNo X120.here hx rfl (hb hby d1_40) rfl (tlt hb122).2.1 ?_
              refine XS.aloadN X120.here hx rfl (hb hby d1_43) rfl rfl ?_
              refine XS.iload X120.here hx rfl (hb hby d1_44) rfl ?_
              refine XS.lloadN X120.here hx rfl (hb hby d1_46) rfl ?_
              refine XS.iloadN X120.here hx rfl (hb hby d1_47) rfl ?_
              refine XS.iconst X120.here hx rfl (hb hby d1_48) ?_
              refine XS.isub X120.here hx rfl (hb hby d1_49) rfl ?_
              show Steps p.tables e below (T120.setTop (mkF m 50 #[.val (.long vx), .second, .val (.int (5 : Int32)), .val (.ref b105), .val (.int (3 : Int32))] [(.int (4 : Int32)), (.long vx), (.int (3 : Int32)), (.ref b105)])) _
              refine XS.iload X120.here hx rfl (hb hby d1_50) rfl ?_
              refine XS.isub X120.here hx rfl (hb hby d1_52) rfl ?_
              refine XS.bipush X120.here hx rfl (hb hby d1_53) ?_
              refine XS.imul X120.here hx rfl (hb hby d1_55) rfl ?_
              refine XS.lshr X120.here hx rfl (hb hby d1_56) rfl ?_
              refine XS.l2i X120.here hx rfl (hb hby d1_57) rfl ?_
              refine XS.i2b X120.here hx rfl (hb hby d1_58) rfl ?_
              exact k)
            obtain ⟨T125, h125, ls125, X125, e125, N125, R125, st125⟩ := gBst X120 hx hZ e120 N120 R120 0 rfl (j := (3 : Int32)) (by decide) (3) rfl (show (3 : Nat) < 5 by decide) (g := (mkF m 59 #[.val (.long vx), .second, .val (.int (5 : Int32)), .val (.ref b105), .val (.int (3 : Int32))] [(.int (((lshr vx (8 : Int32)).toInt32).toInt8.toInt32)), (.int (3 : Int32)), (.ref b105)])) rfl rfl (hb hby d1_59)
            replace R125 : Rep Z n0 h125 ((b105, Ar .byte [(.int ((((lshr vx (32 : Int32)).toInt32).toInt8.toInt32).toInt8.toInt32)), (.int ((((lshr vx (24 : Int32)).toInt32).toInt8.toInt32).toInt8.toInt32)), (.int ((((lshr vx (16 : Int32)).toInt32).toInt8.toInt32).toInt8.toInt32)), (.int ((((lshr vx (8 : Int32)).toInt32).toInt8.toInt32).toInt8.toInt32)), (.int (0 : Int32))]) :: Rst) := R125
            have pre126 : ∀ t, Steps p.tables e below (T125.setTop (mkF m 60 #[.val (.long vx), .second, .val (.int (5 : Int32)), .val (.ref b105), .val (.int (3 : Int32))] [])) t → Steps p.tables e below (s₁.setTop (entryFrame m #[(.long vx)] 5)) t := fun t k => pre124 t (st125 t k)
            have pre128 : ∀ t, Steps p.tables e below (T125.setTop (mkF m 40 #[.val (.long vx), .second, .val (.int (5 : Int32)), .val (.ref b105), .val (.int (4 : Int32))] [(.int (5 : Int32)), (.int (4 : Int32))])) t → Steps p.tables e below (s₁.setTop (entryFrame m #[(.long vx)] 5)) t := fun t k => pre126 t (by
              show Steps p.tables e below (T125.setTop (mkF m 60 #[.val (.long vx), .second, .val (.int (5 : Int32)), .val (.ref b105), .val (.int (3 : Int32))] [])) _
              refine XS.iinc X125.here hx rfl (hb hby d1_60) rfl (l' := #[.val (.long vx), .second, .val (.int (5 : Int32)), .val (.ref b105), .val (.int (4 : Int32))]) rfl ?_
              refine XS.goto X125.here hx rfl (pc0 := 63) (pc' := 37) rfl (hb hby d1_63) (by decide) (by decide) ?_
              refine XS.iload X125.here hx rfl (hb hby d1_37) rfl ?_
              refine XS.iloadN X125.here hx rfl (hb hby d1_39) rfl ?_
              exact k)
            have hb127 : (4 : Int32) < (5 : Int32) := (by decide)
            have pre129 : ∀ t, Steps p.tables e below (T125.setTop (mkF m 59 #[.val (.long vx), .second, .val (.int (5 : Int32)), .val (.ref b105), .val (.int (4 : Int32))] [(.int (((lshr vx (0 : Int32)).toInt32).toInt8.toInt32)), (.int (4 : Int32)), (.ref b105)])) t → Steps p.tables e below (s₁.setTop (entryFrame m #[(.long vx)] 5)) t := fun t k => pre128 t (by
              show Steps p.tables e below (T125.setTop (mkF m 40 #[.val (.long vx), .second, .val (.int (5 : Int32)), .val (.ref b105), .val (.int (4 : Int32))] [(.int (5 : Int32)), (.int (4 : Int32))])) _
              refine XS.icmpNo X125.here hx rfl (hb hby d1_40) rfl (tlt hb127).2.1 ?_
              refine XS.aloadN X125.here hx rfl (hb hby d1_43) rfl rfl ?_
              refine XS.iload X125.here hx rfl (hb hby d1_44) rfl ?_
              refine XS.lloadN X125.here hx rfl (hb hby d1_46) rfl ?_
              refine XS.iloadN X125.here hx rfl (hb hby d1_47) rfl ?_
              refine XS.iconst X125.here hx rfl (hb hby d1_48) ?_
              refine XS.isub X125.here hx rfl (hb hby d1_49) rfl ?_
              show Steps p.tables e below (T125.setTop (mkF m 50 #[.val (.long vx), .second, .val (.int (5 : Int32)), .val (.ref b105), .val (.int (4 : Int32))] [(.int (4 : Int32)), (.long vx), (.int (4 : Int32)), (.ref b105)])) _
              refine XS.iload X125.here hx rfl (hb hby d1_50) rfl ?_
              refine XS.isub X125.here hx rfl (hb hby d1_52) rfl ?_
              refine XS.bipush X125.here hx rfl (hb hby d1_53) ?_
              refine XS.imul X125.here hx rfl (hb hby d1_55) rfl ?_
              refine XS.lshr X125.here hx rfl (hb hby d1_56) rfl ?_
              refine XS.l2i X125.here hx rfl (hb hby d1_57) rfl ?_
              refine XS.i2b X125.here hx rfl (hb hby d1_58) rfl ?_
              exact k)
            obtain ⟨T130, h130, ls130, X130, e130, N130, R130, st130⟩ := gBst X125 hx hZ e125 N125 R125 0 rfl (j := (4 : Int32)) (by decide) (4) rfl (show (4 : Nat) < 5 by decide) (g := (mkF m 59 #[.val (.long vx), .second, .val (.int (5 : Int32)), .val (.ref b105), .val (.int (4 : Int32))] [(.int (((lshr vx (0 : Int32)).toInt32).toInt8.toInt32)), (.int (4 : Int32)), (.ref b105)])) rfl rfl (hb hby d1_59)
            replace R130 : Rep Z n0 h130 ((b105, Ar .byte [(.int ((((lshr vx (32 : Int32)).toInt32).toInt8.toInt32).toInt8.toInt32)), (.int ((((lshr vx (24 : Int32)).toInt32).toInt8.toInt32).toInt8.toInt32)), (.int ((((lshr vx (16 : Int32)).toInt32).toInt8.toInt32).toInt8.toInt32)), (.int ((((lshr vx (8 : Int32)).toInt32).toInt8.toInt32).toInt8.toInt32)), (.int ((((lshr vx (0 : Int32)).toInt32).toInt8.toInt32).toInt8.toInt32))]) :: Rst) := R130
            have pre131 : ∀ t, Steps p.tables e below (T130.setTop (mkF m 60 #[.val (.long vx), .second, .val (.int (5 : Int32)), .val (.ref b105), .val (.int (4 : Int32))] [])) t → Steps p.tables e below (s₁.setTop (entryFrame m #[(.long vx)] 5)) t := fun t k => pre129 t (st130 t k)
            have pre133 : ∀ t, Steps p.tables e below (T130.setTop (mkF m 40 #[.val (.long vx), .second, .val (.int (5 : Int32)), .val (.ref b105), .val (.int (5 : Int32))] [(.int (5 : Int32)), (.int (5 : Int32))])) t → Steps p.tables e below (s₁.setTop (entryFrame m #[(.long vx)] 5)) t := fun t k => pre131 t (by
              show Steps p.tables e below (T130.setTop (mkF m 60 #[.val (.long vx), .second, .val (.int (5 : Int32)), .val (.ref b105), .val (.int (4 : Int32))] [])) _
              refine XS.iinc X130.here hx rfl (hb hby d1_60) rfl (l' := #[.val (.long vx), .second, .val (.int (5 : Int32)), .val (.ref b105), .val (.int (5 : Int32))]) rfl ?_
              refine XS.goto X130.here hx rfl (pc0 := 63) (pc' := 37) rfl (hb hby d1_63) (by decide) (by decide) ?_
              refine XS.iload X130.here hx rfl (hb hby d1_37) rfl ?_
              refine XS.iloadN X130.here hx rfl (hb hby d1_39) rfl ?_
              exact k)
            have hb132 : ¬ ((5 : Int32) < (5 : Int32)) := (by decide)
            have pre134 : ∀ t, Steps p.tables e below (T130.setTop (mkF m 67 #[.val (.long vx), .second, .val (.int (5 : Int32)), .val (.ref b105), .val (.int (5 : Int32))] [(.ref b105)])) t → Steps p.tables e below (s₁.setTop (entryFrame m #[(.long vx)] 5)) t := fun t k => pre133 t (by
              show Steps p.tables e below (T130.setTop (mkF m 40 #[.val (.long vx), .second, .val (.int (5 : Int32)), .val (.ref b105), .val (.int (5 : Int32))] [(.int (5 : Int32)), (.int (5 : Int32))])) _
              refine XS.icmpYes X130.here hx rfl (pc0 := 40) (pc' := 66) rfl (hb hby d1_40) rfl (flt hb132).2.1 (by decide) (by decide) ?_
              refine XS.aloadN X130.here hx rfl (hb hby d1_66) rfl rfl ?_
              exact k)
            obtain ⟨fs, hr, hrun, hended, hW, hsame⟩ := X130.leave (v := some (.ref b105)) (fun h => by rw [Bd.returns] at h; cases h)
            refine ⟨_, _, pre134 _ ?_, hrun, hended, _, _, rfl, ?_, ⟨_, rfl⟩, hW, hsame.mono (by decide) (by decide)⟩
            · show Steps p.tables e below (T130.setTop (mkF m 67 #[.val (.long vx), .second, .val (.int (5 : Int32)), .val (.ref b105), .val (.int (5 : Int32))] [(.ref b105)])) _
              exact Jvm.Own.retA X130 hx (t := (.array .byte)) rfl Bd.returns (hb hby d1_67) hr
            · show Q1 Z vx n0 Rst _ T130.heap _
              rw [e130]
              exact ⟨b105, rfl, N130, (by simp only [EB, if_neg hb4, if_neg hb21, if_neg hb43, if_neg hb70, if_pos hb102]; exact R130)⟩
          · have pre135 : ∀ t, Steps p.tables e below (s₁.setTop (mkF m 24 #[.val (.long vx), .second, .val (.int (5 : Int32)), .unset, .unset] [])) t → Steps p.tables e below (s₁.setTop (entryFrame m #[(.long vx)] 5)) t := fun t k => pre101 t (by show Steps p.tables e below (s₁.setTop (mkF m 21 #[.val (.long vx), .second, .val (.int (5 : Int32)), .unset, .unset] [(.int (XT.cmpL (lshr vx (39 : Int32)) (lshr vx (63 : Int32))))])) _; refine XS.ifNo X0.here hx rfl (hb hby d1_21) rfl (XT.ll_eq_f hb102) ?_; exact k)
            have pre137 : ∀ t, Steps p.tables e below (s₁.setTop (mkF m 5 #[.val (.long vx), .second, .val (.int (6 : Int32)), .unset, .unset] [(.int (8 : Int32)), (.int (6 : Int32))])) t → Steps p.tables e below (s₁.setTop (entryFrame m #[(.long vx)] 5)) t := fun t k => pre135 t (by
              show Steps p.tables e below (s₁.setTop (mkF m 24 #[.val (.long vx), .second, .val (.int (5 : Int32)), .unset, .unset] [])) _
              refine XS.iinc X0.here hx rfl (hb hby d1_24) rfl (l' := #[.val (.long vx), .second, .val (.int (6 : Int32)), .unset, .unset]) rfl ?_
              refine XS.goto X0.here hx rfl (pc0 := 27) (pc' := 2) rfl (hb hby d1_27) (by decide) (by decide) ?_
              refine XS.iloadN X0.here hx rfl (hb hby d1_2) rfl ?_
              refine XS.bipush X0.here hx rfl (hb hby d1_3) ?_
              exact k)
            have hb136 : (6 : Int32) < (8 : Int32) := (by decide)
            have pre138 : ∀ t, Steps p.tables e below (s₁.setTop (mkF m 21 #[.val (.long vx), .second, .val (.int (6 : Int32)), .unset, .unset] [(.int (XT.cmpL (lshr vx (47 : Int32)) (lshr vx (63 : Int32))))])) t → Steps p.tables e below (s₁.setTop (entryFrame m #[(.long vx)] 5)) t := fun t k => pre137 t (by
              show Steps p.tables e below (s₁.setTop (mkF m 5 #[.val (.long vx), .second, .val (.int (6 : Int32)), .unset, .unset] [(.int (8 : Int32)), (.int (6 : Int32))])) _
              refine XS.icmpNo X0.here hx rfl (hb hby d1_5) rfl (tlt hb136).2.1 ?_
              refine XS.lloadN X0.here hx rfl (hb hby d1_8) rfl ?_
              refine XS.iloadN X0.here hx rfl (hb hby d1_9) rfl ?_
              refine XS.bipush X0.here hx rfl (hb hby d1_10) ?_
              refine XS.imul X0.here hx rfl (hb hby d1_12) rfl ?_
              refine XS.iconst X0.here hx rfl (hb hby d1_13) ?_
              refine XS.isub X0.here hx rfl (hb hby d1_14) rfl ?_
              show Steps p.tables e below (s₁.setTop (mkF m 15 #[.val (.long vx), .second, .val (.int (6 : Int32)), .unset, .unset] [(.int (47 : Int32)), (.long vx)])) _
              refine XS.lshr X0.here hx rfl (hb hby d1_15) rfl ?_
              refine XS.lloadN X0.here hx rfl (hb hby d1_16) rfl ?_
              refine XS.bipush X0.here hx rfl (hb hby d1_17) ?_
              refine XS.lshr X0.here hx rfl (hb hby d1_19) rfl ?_
              refine XS.lcmp X0.here hx rfl (hb hby d1_20) rfl ?_
              exact k)
            by_cases hb139 : (lshr vx (47 : Int32)) = (lshr vx (63 : Int32))
            · have pre140 : ∀ t, Steps p.tables e below (s₁.setTop (mkF m 30 #[.val (.long vx), .second, .val (.int (6 : Int32)), .unset, .unset] [])) t → Steps p.tables e below (s₁.setTop (entryFrame m #[(.long vx)] 5)) t := fun t k => pre138 t (by show Steps p.tables e below (s₁.setTop (mkF m 21 #[.val (.long vx), .second, .val (.int (6 : Int32)), .unset, .unset] [(.int (XT.cmpL (lshr vx (47 : Int32)) (lshr vx (63 : Int32))))])) _; refine XS.ifYes X0.here hx rfl (pc0 := 21) (pc' := 30) rfl (hb hby d1_21) rfl (XT.ll_eq_t hb139) (by decide) (by decide) ?_; exact k)
              have pre141 : ∀ t, Steps p.tables e below (s₁.setTop (mkF m 31 #[.val (.long vx), .second, .val (.int (6 : Int32)), .unset, .unset] [(.int (6 : Int32))])) t → Steps p.tables e below (s₁.setTop (entryFrame m #[(.long vx)] 5)) t := fun t k => pre140 t (by
                show Steps p.tables e below (s₁.setTop (mkF m 30 #[.val (.long vx), .second, .val (.int (6 : Int32)), .unset, .unset] [])) _
                refine XS.iloadN X0.here hx rfl (hb hby d1_30) rfl ?_
                exact k)
              obtain ⟨T142, h142, b142, X142, e142, R142, st142⟩ := gNewP X0 hx hZ (hw _ (List.mem_of_getElem? (i := 4) rfl)) e0 R0 (g := (mkF m 31 #[.val (.long vx), .second, .val (.int (6 : Int32)), .unset, .unset] [(.int (6 : Int32))])) rfl (hb hby d1_31) rfl (by decide) 6 (by decide) (by decide) (by decide) (by decide) (vs := [(.int (0 : Int32)), (.int (0 : Int32)), (.int (0 : Int32)), (.int (0 : Int32)), (.int (0 : Int32)), (.int (0 : Int32))]) rfl
              replace R142 : Rep Z n0 h142 ((b142, Ar .byte [(.int (0 : Int32)), (.int (0 : Int32)), (.int (0 : Int32)), (.int (0 : Int32)), (.int (0 : Int32)), (.int (0 : Int32))]) :: Rst) := R142
              have pre143 : ∀ t, Steps p.tables e below (T142.setTop (mkF m 33 #[.val (.long vx), .second, .val (.int (6 : Int32)), .unset, .unset] [(.ref b142)])) t → Steps p.tables e below (s₁.setTop (entryFrame m #[(.long vx)] 5)) t := fun t k => pre141 t (st142 t k)
              have pre145 : ∀ t, Steps p.tables e below (T142.setTop (mkF m 40 #[.val (.long vx), .second, .val (.int (6 : Int32)), .val (.ref b142), .val (.int (0 : Int32))] [(.int (6 : Int32)), (.int (0 : Int32))])) t → Steps p.tables e below (s₁.setTop (entryFrame m #[(.long vx)] 5)) t := fun t k => pre143 t (by
                show Steps p.tables e below (T142.setTop (mkF m 33 #[.val (.long vx), .second, .val (.int (6 : Int32)), .unset, .unset] [(.ref b142)])) _
                refine XS.astoreN X142.here hx rfl (hb hby d1_33) rfl rfl (l' := #[.val (.long vx), .second, .val (.int (6 : Int32)), .val (.ref b142), .unset]) rfl ?_
                refine XS.iconst X142.here hx rfl (hb hby d1_34) ?_
                refine XS.istore X142.here hx rfl (hb hby d1_35) rfl (l' := #[.val (.long vx), .second, .val (.int (6 : Int32)), .val (.ref b142), .val (.int (0 : Int32))]) rfl ?_
                refine XS.iload X142.here hx rfl (hb hby d1_37) rfl ?_
                refine XS.iloadN X142.here hx rfl (hb hby d1_39) rfl ?_
                exact k)
              have hb144 : (0 : Int32) < (6 : Int32) := (by decide)
              have pre146 : ∀ t, Steps p.tables e below (T142.setTop (mkF m 59 #[.val (.long vx), .second, .val (.int (6 : Int32)), .val (.ref b142), .val (.int (0 : Int32))] [(.int (((lshr vx (40 : Int32)).toInt32).toInt8.toInt32)), (.int (0 : Int32)), (.ref b142)])) t → Steps p.tables e below (s₁.setTop (entryFrame m #[(.long vx)] 5)) t := fun t k => pre145 t (by
                show Steps p.tables e below (T142.setTop (mkF m 40 #[.val (.long vx), .second, .val (.int (6 : Int32)), .val (.ref b142), .val (.int (0 : Int32))] [(.int (6 : Int32)), (.int (0 : Int32))])) _
                refine XS.icmpNo X142.here hx rfl (hb hby d1_40) rfl (tlt hb144).2.1 ?_
                refine XS.aloadN X142.here hx rfl (hb hby d1_43) rfl rfl ?_
                refine XS.iload X142.here hx rfl (hb hby d1_44) rfl ?_
                refine XS.lloadN X142.here hx rfl (hb hby d1_46) rfl ?_
                refine XS.iloadN X142.here hx rfl (hb hby d1_47) rfl ?_
                refine XS.iconst X142.here hx rfl (hb hby d1_48) ?_
                refine XS.isub X142.here hx rfl (hb hby d1_49) rfl ?_
                show Steps p.tables e below (T142.setTop (mkF m 50 #[.val (.long vx), .second, .val (.int (6 : Int32)), .val (.ref b142), .val (.int (0 : Int32))] [(.int (5 : Int32)), (.long vx), (.int (0 : Int32)), (.ref b142)])) _
                refine XS.iload X142.here hx rfl (hb hby d1_50) rfl ?_
                refine XS.isub X142.here hx rfl (hb hby d1_52) rfl ?_
                refine XS.bipush X142.here hx rfl (hb hby d1_53) ?_
                refine XS.imul X142.here hx rfl (hb hby d1_55) rfl ?_
                refine XS.lshr X142.here hx rfl (hb hby d1_56) rfl ?_
                refine XS.l2i X142.here hx rfl (hb hby d1_57) rfl ?_
                refine XS.i2b X142.here hx rfl (hb hby d1_58) rfl ?_
                exact k)
              obtain ⟨T147, h147, ls147, X147, e147, N147, R147, st147⟩ := gBst X142 hx hZ e142 N0 R142 0 rfl (j := (0 : Int32)) (by decide) (0) rfl (show (0 : Nat) < 6 by decide) (g := (mkF m 59 #[.val (.long vx), .second, .val (.int (6 : Int32)), .val (.ref b142), .val (.int (0 : Int32))] [(.int (((lshr vx (40 : Int32)).toInt32).toInt8.toInt32)), (.int (0 : Int32)), (.ref b142)])) rfl rfl (hb hby d1_59)
              replace R147 : Rep Z n0 h147 ((b142, Ar .byte [(.int ((((lshr vx (40 : Int32)).toInt32).toInt8.toInt32).toInt8.toInt32)), (.int (0 : Int32)), (.int (0 : Int32)), (.int (0 : Int32)), (.int (0 : Int32)), (.int (0 : Int32))]) :: Rst) := R147
              have pre148 : ∀ t, Steps p.tables e below (T147.setTop (mkF m 60 #[.val (.long vx), .second, .val (.int (6 : Int32)), .val (.ref b142), .val (.int (0 : Int32))] [])) t → Steps p.tables e below (s₁.setTop (entryFrame m #[(.long vx)] 5)) t := fun t k => pre146 t (st147 t k)
              have pre150 : ∀ t, Steps p.tables e below (T147.setTop (mkF m 40 #[.val (.long vx), .second, .val (.int (6 : Int32)), .val (.ref b142), .val (.int (1 : Int32))] [(.int (6 : Int32)), (.int (1 : Int32))])) t → Steps p.tables e below (s₁.setTop (entryFrame m #[(.long vx)] 5)) t := fun t k => pre148 t (by
                show Steps p.tables e below (T147.setTop (mkF m 60 #[.val (.long vx), .second, .val (.int (6 : Int32)), .val (.ref b142), .val (.int (0 : Int32))] [])) _
                refine XS.iinc X147.here hx rfl (hb hby d1_60) rfl (l' := #[.val (.long vx), .second, .val (.int (6 : Int32)), .val (.ref b142), .val (.int (1 : Int32))]) rfl ?_
                refine XS.goto X147.here hx rfl (pc0 := 63) (pc' := 37) rfl (hb hby d1_63) (by decide) (by decide) ?_
                refine XS.iload X147.here hx rfl (hb hby d1_37) rfl ?_
                refine XS.iloadN X147.here hx rfl (hb hby d1_39) rfl ?_
                exact k)
              have hb149 : (1 : Int32) < (6 : Int32) := (by decide)
              have pre151 : ∀ t, Steps p.tables e below (T147.setTop (mkF m 59 #[.val (.long vx), .second, .val (.int (6 : Int32)), .val (.ref b142), .val (.int (1 : Int32))] [(.int (((lshr vx (32 : Int32)).toInt32).toInt8.toInt32)), (.int (1 : Int32)), (.ref b142)])) t → Steps p.tables e below (s₁.setTop (entryFrame m #[(.long vx)] 5)) t := fun t k => pre150 t (by
                show Steps p.tables e below (T147.setTop (mkF m 40 #[.val (.long vx), .second, .val (.int (6 : Int32)), .val (.ref b142), .val (.int (1 : Int32))] [(.int (6 : Int32)), (.int (1 : Int32))])) _
                refine XS.icmpNo X147.here hx rfl (hb hby d1_40) rfl (tlt hb149).2.1 ?_
                refine XS.aloadN X147.here hx rfl (hb hby d1_43) rfl rfl ?_
                refine XS.iload X147.here hx rfl (hb hby d1_44) rfl ?_
                refine XS.lloadN X147.here hx rfl (hb hby d1_46) rfl ?_
                refine XS.iloadN X147.here hx rfl (hb hby d1_47) rfl ?_
                refine XS.iconst X147.here hx rfl (hb hby d1_48) ?_
                refine XS.isub X147.here hx rfl (hb hby d1_49) rfl ?_
                show Steps p.tables e below (T147.setTop (mkF m 50 #[.val (.long vx), .second, .val (.int (6 : Int32)), .val (.ref b142), .val (.int (1 : Int32))] [(.int (5 : Int32)), (.long vx), (.int (1 : Int32)), (.ref b142)])) _
                refine XS.iload X147.here hx rfl (hb hby d1_50) rfl ?_
                refine XS.isub X147.here hx rfl (hb hby d1_52) rfl ?_
                refine XS.bipush X147.here hx rfl (hb hby d1_53) ?_
                refine XS.imul X147.here hx rfl (hb hby d1_55) rfl ?_
                refine XS.lshr X147.here hx rfl (hb hby d1_56) rfl ?_
                refine XS.l2i X147.here hx rfl (hb hby d1_57) rfl ?_
                refine XS.i2b X147.here hx rfl (hb hby d1_58) rfl ?_
                exact k)
              obtain ⟨T152, h152, ls152, X152, e152, N152, R152, st152⟩ := gBst X147 hx hZ e147 N147 R147 0 rfl (j := (1 : Int32)) (by decide) (1) rfl (show (1 : Nat) < 6 by decide) (g := (mkF m 59 #[.val (.long vx), .second, .val (.int (6 : Int32)), .val (.ref b142), .val (.int (1 : Int32))] [(.int (((lshr vx (32 : Int32)).toInt32).toInt8.toInt32)), (.int (1 : Int32)), (.ref b142)])) rfl rfl (hb hby d1_59)
              replace R152 : Rep Z n0 h152 ((b142, Ar .byte [(.int ((((lshr vx (40 : Int32)).toInt32).toInt8.toInt32).toInt8.toInt32)), (.int ((((lshr vx (32 : Int32)).toInt32).toInt8.toInt32).toInt8.toInt32)), (.int (0 : Int32)), (.int (0 : Int32)), (.int (0 : Int32)), (.int (0 : Int32))]) :: Rst) := R152
              have pre153 : ∀ t, Steps p.tables e below (T152.setTop (mkF m 60 #[.val (.long vx), .second, .val (.int (6 : Int32)), .val (.ref b142), .val (.int (1 : Int32))] [])) t → Steps p.tables e below (s₁.setTop (entryFrame m #[(.long vx)] 5)) t := fun t k => pre151 t (st152 t k)
              have pre155 : ∀ t, Steps p.tables e below (T152.setTop (mkF m 40 #[.val (.long vx), .second, .val (.int (6 : Int32)), .val (.ref b142), .val (.int (2 : Int32))] [(.int (6 : Int32)), (.int (2 : Int32))])) t → Steps p.tables e below (s₁.setTop (entryFrame m #[(.long vx)] 5)) t := fun t k => pre153 t (by
                show Steps p.tables e below (T152.setTop (mkF m 60 #[.val (.long vx), .second, .val (.int (6 : Int32)), .val (.ref b142), .val (.int (1 : Int32))] [])) _
                refine XS.iinc X152.here hx rfl (hb hby d1_60) rfl (l' := #[.val (.long vx), .second, .val (.int (6 : Int32)), .val (.ref b142), .val (.int (2 : Int32))]) rfl ?_
                refine XS.goto X152.here hx rfl (pc0 := 63) (pc' := 37) rfl (hb hby d1_63) (by decide) (by decide) ?_
                refine XS.iload X152.here hx rfl (hb hby d1_37) rfl ?_
                refine XS.iloadN X152.here hx rfl (hb hby d1_39) rfl ?_
                exact k)
              have hb154 : (2 : Int32) < (6 : Int32) := (by decide)
              have pre156 : ∀ t, Steps p.tables e below (T152.setTop (mkF m 59 #[.val (.long vx), .second, .val (.int (6 : Int32)), .val (.ref b142), .val (.int (2 : Int32))] [(.int (((lshr vx (24 : Int32)).toInt32).toInt8.toInt32)), (.int (2 : Int32)), (.ref b142)])) t → Steps p.tables e below (s₁.setTop (entryFrame m #[(.long vx)] 5)) t := fun t k => pre155 t (by
                show Steps p.tables e below (T152.setTop (mkF m 40 #[.val (.long vx), .second, .val (.int (6 : Int32)), .val (.ref b142), .val (.int (2 : Int32))] [(.int (6 : Int32)), (.int (2 : Int32))])) _
                refine XS.icmpNo X152.here hx rfl (hb hby d1_40) rfl (tlt hb154).2.1 ?_
                refine XS.aloadN X152.here hx rfl (hb hby d1_43) rfl rfl ?_
                refine XS.iload X152.here hx rfl (hb hby d1_44) rfl ?_
                refine XS.lloadN X152.here hx rfl (hb hby d1_46) rfl ?_
                refine XS.iloadN X152.here hx rfl (hb hby d1_47) rfl ?_
                refine XS.iconst X152.here hx rfl (hb hby d1_48) ?_
                refine XS.isub X152.here hx rfl (hb hby d1_49) rfl ?_
                show Steps p.tables e below (T152.setTop (mkF m 50 #[.val (.long vx), .second, .val (.int (6 : Int32)), .val (.ref b142), .val (.int (2 : Int32))] [(.int (5 : Int32)), (.long vx), (.int (2 : Int32)), (.ref b142)])) _
                refine XS.iload X152.here hx rfl (hb hby d1_50) rfl ?_
                refine XS.isub X152.here hx rfl (hb hby d1_52) rfl ?_
                refine XS.bipush X152.here hx rfl (hb hby d1_53) ?_
                refine XS.imul X152.here hx rfl (hb hby d1_55) rfl ?_
                refine XS.lshr X152.here hx rfl (hb hby d1_56) rfl ?_
                refine XS.l2i X152.here hx rfl (hb hby d1_57) rfl ?_
                refine XS.i2b X152.here hx rfl (hb hby d1_58) rfl ?_
                exact k)
              obtain ⟨T157, h157, ls157, X157, e157, N157, R157, st157⟩ := gBst X152 hx hZ e152 N152 R152 0 rfl (j := (2 : Int32)) (by decide) (2) rfl (show (2 : Nat) < 6 by decide) (g := (mkF m 59 #[.val (.long vx), .second, .val (.int (6 : Int32)), .val (.ref b142), .val (.int (2 : Int32))] [(.int (((lshr vx (24 : Int32)).toInt32).toInt8.toInt32)), (.int (2 : Int32)), (.ref b142)])) rfl rfl (hb hby d1_59)
              replace R157 : Rep Z n0 h157 ((b142, Ar .byte [(.int ((((lshr vx (40 : Int32)).toInt32).toInt8.toInt32).toInt8.toInt32)), (.int ((((lshr vx (32 : Int32)).toInt32).toInt8.toInt32).toInt8.toInt32)), (.int ((((lshr vx (24 : Int32)).toInt32).toInt8.toInt32).toInt8.toInt32)), (.int (0 : Int32)), (.int (0 : Int32)), (.int (0 : Int32))]) :: Rst) := R157
              have pre158 : ∀ t, Steps p.tables e below (T157.setTop (mkF m 60 #[.val (.long vx), .second, .val (.int (6 : Int32)), .val (.ref b142), .val (.int (2 : Int32))] [])) t → Steps p.tables e below (s₁.setTop (entryFrame m #[(.long vx)] 5)) t := fun t k => pre156 t (st157 t k)
              have pre160 : ∀ t, Steps p.tables e below (T157.setTop (mkF m 40 #[.val (.long vx), .second, .val (.int (6 : Int32)), .val (.ref b142), .val (.int (3 : Int32))] [(.int (6 : Int32)), (.int (3 : Int32))])) t → Steps p.tables e below (s₁.setTop (entryFrame m #[(.long vx)] 5)) t := fun t k => pre158 t (by
                show Steps p.tables e below (T157.setTop (mkF m 60 #[.val (.long vx), .second, .val (.int (6 : Int32)), .val (.ref b142), .val (.int (2 : Int32))] [])) _
                refine XS.iinc X157.here hx rfl (hb hby d1_60) rfl (l' := #[.val (.long vx), .second, .val (.int (6 : Int32)), .val (.ref b142), .val (.int (3 : Int32))]) rfl ?_
                refine XS.goto X157.here hx rfl (pc0 := 63) (pc' := 37) rfl (hb hby d1_63) (by decide) (by decide) ?_
                refine XS.iload X157.here hx rfl (hb hby d1_37) rfl ?_
                refine XS.iloadN X157.here hx rfl (hb hby d1_39) rfl ?_
                exact k)
              have hb159 : (3 : Int32) < (6 : Int32) := (by decide)
              have pre161 : ∀ t, Steps p.tables e below (T157.setTop (mkF m 59 #[.val (.long vx), .second, .val (.int (6 : Int32)), .val (.ref b142), .val (.int (3 : Int32))] [(.int (((lshr vx (16 : Int32)).toInt32).toInt8.toInt32)), (.int (3 : Int32)), (.ref b142)])) t → Steps p.tables e below (s₁.setTop (entryFrame m #[(.long vx)] 5)) t := fun t k => pre160 t (by
                show Steps p.tables e below (T157.setTop (mkF m 40 #[.val (.long vx), .second, .val (.int (6 : Int32)), .val (.ref b142), .val (.int (3 : Int32))] [(.int (6 : Int32)), (.int (3 : Int32))])) _
                refine XS.icmpNo X157.here hx rfl (hb hby d1_40) rfl (tlt hb159).2.1 ?_
                refine XS.aloadN X157.here hx rfl (hb hby d1_43) rfl rfl ?_
                refine XS.iload X157.here hx rfl (hb hby d1_44) rfl ?_
                refine XS.lloadN X157.here hx rfl (hb hby d1_46) rfl ?_
                refine XS.iloadN X157.here hx rfl (hb hby d1_47) rfl ?_
                refine XS.iconst X157.here hx rfl (hb hby d1_48) ?_
                refine XS.isub X157.here hx rfl (hb hby d1_49) rfl ?_
                show Steps p.tables e below (T157.setTop (mkF m 50 #[.val (.long vx), .second, .val (.int (6 : Int32)), .val (.ref b142), .val (.int (3 : Int32))] [(.int (5 : Int32)), (.long vx), (.int (3 : Int32)), (.ref b142)])) _
                refine XS.iload X157.here hx rfl (hb hby d1_50) rfl ?_
                refine XS.isub X157.here hx rfl (hb hby d1_52) rfl ?_
                refine XS.bipush X157.here hx rfl (hb hby d1_53) ?_
                refine XS.imul X157.here hx rfl (hb hby d1_55) rfl ?_
                refine XS.lshr X157.here hx rfl (hb hby d1_56) rfl ?_
                refine XS.l2i X157.here hx rfl (hb hby d1_57) rfl ?_
                refine XS.i2b X157.here hx rfl (hb hby d1_58) rfl ?_
                exact k)
              obtain ⟨T162, h162, ls162, X162, e162, N162, R162, st162⟩ := gBst X157 hx hZ e157 N157 R157 0 rfl (j := (3 : Int32)) (by decide) (3) rfl (show (3 : Nat) < 6 by decide) (g := (mkF m 59 #[.val (.long vx), .second, .val (.int (6 : Int32)), .val (.ref b142), .val (.int (3 : Int32))] [(.int (((lshr vx (16 : Int32)).toInt32).toInt8.toInt32)), (.int (3 : Int32)), (.ref b142)])) rfl rfl (hb hby d1_59)
              replace R162 : Rep Z n0 h162 ((b142, Ar .byte [(.int ((((lshr vx (40 : Int32)).toInt32).toInt8.toInt32).toInt8.toInt32)), (.int ((((lshr vx (32 : Int32)).toInt32).toInt8.toInt32).toInt8.toInt32)), (.int ((((lshr vx (24 : Int32)).toInt32).toInt8.toInt32).toInt8.toInt32)), (.int ((((lshr vx (16 : Int32)).toInt32).toInt8.toInt32).toInt8.toInt32)), (.int (0 : Int32)), (.int (0 : Int32))]) :: Rst) := R162
              have pre163 : ∀ t, Steps p.tables e below (T162.setTop (mkF m 60 #[.val (.long vx), .second, .val (.int (6 : Int32)), .val (.ref b142), .val (.int (3 : Int32))] [])) t → Steps p.tables e below (s₁.setTop (entryFrame m #[(.long vx)] 5)) t := fun t k => pre161 t (st162 t k)
              have pre165 : ∀ t, Steps p.tables e below (T162.setTop (mkF m 40 #[.val (.long vx), .second, .val (.int (6 : Int32)), .val (.ref b142), .val (.int (4 : Int32))] [(.int (6 : Int32)), (.int (4 : Int32))])) t → Steps p.tables e below (s₁.setTop (entryFrame m #[(.long vx)] 5)) t := fun t k => pre163 t (by
                show Steps p.tables e below (T162.setTop (mkF m 60 #[.val (.long vx), .second, .val (.int (6 : Int32)), .val (.ref b142), .val (.int (3 : Int32))] [])) _
                refine XS.iinc X162.here hx rfl (hb hby d1_60) rfl (l' := #[.val (.long vx), .second, .val (.int (6 : Int32)), .val (.ref b142), .val (.int (4 : Int32))]) rfl ?_
                refine XS.goto X162.here hx rfl (pc0 := 63) (pc' := 37) rfl (hb hby d1_63) (by decide) (by decide) ?_
                refine XS.iload X162.here hx rfl (hb hby d1_37) rfl ?_
                refine XS.iloadN X162.here hx rfl (hb hby d1_39) rfl ?_
                exact k)
              have hb164 : (4 : Int32) < (6 : Int32) := (by decide)
              have pre166 : ∀ t, Steps p.tables e below (T162.setTop (mkF m 59 #[.val (.long vx), .second, .val (.int (6 : Int32)), .val (.ref b142), .val (.int (4 : Int32))] [(.int (((lshr vx (8 : Int32)).toInt32).toInt8.toInt32)), (.int (4 : Int32)), (.ref b142)])) t → Steps p.tables e below (s₁.setTop (entryFrame m #[(.long vx)] 5)) t := fun t k => pre165 t (by
                show Steps p.tables e below (T162.setTop (mkF m 40 #[.val (.long vx), .second, .val (.int (6 : Int32)), .val (.ref b142), .val (.int (4 : Int32))] [(.int (6 : Int32)), (.int (4 : Int32))])) _
                refine XS.icmpNo X162.here hx rfl (hb hby d1_40) rfl (tlt hb164).2.1 ?_
                refine XS.aloadN X162.here hx rfl (hb hby d1_43) rfl rfl ?_
                refine XS.iload X162.here hx rfl (hb hby d1_44) rfl ?_
                refine XS.lloadN X162.here hx rfl (hb hby d1_46) rfl ?_
                refine XS.iloadN X162.here hx rfl (hb hby d1_47) rfl ?_
                refine XS.iconst X162.here hx rfl (hb hby d1_48) ?_
                refine XS.isub X162.here hx rfl (hb hby d1_49) rfl ?_
                show Steps p.tables e below (T162.setTop (mkF m 50 #[.val (.long vx), .second, .val (.int (6 : Int32)), .val (.ref b142), .val (.int (4 : Int32))] [(.int (5 : Int32)), (.long vx), (.int (4 : Int32)), (.ref b142)])) _
                refine XS.iload X162.here hx rfl (hb hby d1_50) rfl ?_
                refine XS.isub X162.here hx rfl (hb hby d1_52) rfl ?_
                refine XS.bipush X162.here hx rfl (hb hby d1_53) ?_
                refine XS.imul X162.here hx rfl (hb hby d1_55) rfl ?_
                refine XS.lshr X162.here hx rfl (hb hby d1_56) rfl ?_
                refine XS.l2i X162.here hx rfl (hb hby d1_57) rfl ?_
                refine XS.i2b X162.here hx rfl (hb hby d1_58) rfl ?_
                exact k)
              obtain ⟨T167, h167, ls167, X167, e167, N167, R167, st167⟩ := gBst X162 hx hZ e162 N162 R162 0 rfl (j := (4 : Int32)) (by decide) (4) rfl (show (4 : Nat) < 6 by decide) (g := (mkF m 59 #[.val (.long vx), .second, .val (.int (6 : Int32)), .val (.ref b142), .val (.int (4 : Int32))] [(.int (((lshr vx (8 : Int32)).toInt32).toInt8.toInt32)), (.int (4 : Int32)), (.ref b142)])) rfl rfl (hb hby d1_59)
              replace R167 : Rep Z n0 h167 ((b142, Ar .byte [(.int ((((lshr vx (40 : Int32)).toInt32).toInt8.toInt32).toInt8.toInt32)), (.int ((((lshr vx (32 : Int32)).toInt32).toInt8.toInt32).toInt8.toInt32)), (.int ((((lshr vx (24 : Int32)).toInt32).toInt8.toInt32).toInt8.toInt32)), (.int ((((lshr vx (16 : Int32)).toInt32).toInt8.toInt32).toInt8.toInt32)), (.int ((((lshr vx (8 : Int32)).toInt32).toInt8.toInt32).toInt8.toInt32)), (.int (0 : Int32))]) :: Rst) := R167
              have pre168 : ∀ t, Steps p.tables e below (T167.setTop (mkF m 60 #[.val (.long vx), .second, .val (.int (6 : Int32)), .val (.ref b142), .val (.int (4 : Int32))] [])) t → Steps p.tables e below (s₁.setTop (entryFrame m #[(.long vx)] 5)) t := fun t k => pre166 t (st167 t k)
              have pre170 : ∀ t, Steps p.tables e below (T167.setTop (mkF m 40 #[.val (.long vx), .second, .val (.int (6 : Int32)), .val (.ref b142), .val (.int (5 : Int32))] [(.int (6 : Int32)), (.int (5 : Int32))])) t → Steps p.tables e below (s₁.setTop (entryFrame m #[(.long vx)] 5)) t := fun t k => pre168 t (by
                show Steps p.tables e below (T167.setTop (mkF m 60 #[.val (.long vx), .second, .val (.int (6 : Int32)), .val (.ref b142), .val (.int (4 : Int32))] [])) _
                refine XS.iinc X167.here hx rfl (hb hby d1_60) rfl (l' := #[.val (.long vx), .second, .val (.int (6 : Int32)), .val (.ref b142), .val (.int (5 : Int32))]) rfl ?_
                refine XS.goto X167.here hx rfl (pc0 := 63) (pc' := 37) rfl (hb hby d1_63) (by decide) (by decide) ?_
                refine XS.iload X167.here hx rfl (hb hby d1_37) rfl ?_
                refine XS.iloadN X167.here hx rfl (hb hby d1_39) rfl ?_
                exact k)
              have hb169 : (5 : Int32) < (6 : Int32) := (by decide)
              have pre171 : ∀ t, Steps p.tables e below (T167.setTop (mkF m 59 #[.val (.long vx), .second, .val (.int (6 : Int32)), .val (.ref b142), .val (.int (5 : Int32))] [(.int (((lshr vx (0 : Int32)).toInt32).toInt8.toInt32)), (.int (5 : Int32)), (.ref b142)])) t → Steps p.tables e below (s₁.setTop (entryFrame m #[(.long vx)] 5)) t := fun t k => pre170 t (by
                show Steps p.tables e below (T167.setTop (mkF m 40 #[.val (.long vx), .second, .val (.int (6 : Int32)), .val (.ref b142), .val (.int (5 : Int32))] [(.int (6 : Int32)), (.int (5 : Int32))])) _
                refine XS.icmpNo X167.here hx rfl (hb hby d1_40) rfl (tlt hb169).2.1 ?_
                refine XS.aloadN X167.here hx rfl (hb hby d1_43) rfl rfl ?_
                refine XS.iload X167.here hx rfl (hb hby d1_44) rfl ?_
                refine XS.lloadN X167.here hx rfl (hb hby d1_46) rfl ?_
                refine XS.iloadN X167.here hx rfl (hb hby d1_47) rfl ?_
                refine XS.iconst X167.here hx rfl (hb hby d1_48) ?_
                refine XS.isub X167.here hx rfl (hb hby d1_49) rfl ?_
                show Steps p.tables e below (T167.setTop (mkF m 50 #[.val (.long vx), .second, .val (.int (6 : Int32)), .val (.ref b142), .val (.int (5 : Int32))] [(.int (5 : Int32)), (.long vx), (.int (5 : Int32)), (.ref b142)])) _
                refine XS.iload X167.here hx rfl (hb hby d1_50) rfl ?_
                refine XS.isub X167.here hx rfl (hb hby d1_52) rfl ?_
                refine XS.bipush X167.here hx rfl (hb hby d1_53) ?_
                refine XS.imul X167.here hx rfl (hb hby d1_55) rfl ?_
                refine XS.lshr X167.here hx rfl (hb hby d1_56) rfl ?_
                refine XS.l2i X167.here hx rfl (hb hby d1_57) rfl ?_
                refine XS.i2b X167.here hx rfl (hb hby d1_58) rfl ?_
                exact k)
              obtain ⟨T172, h172, ls172, X172, e172, N172, R172, st172⟩ := gBst X167 hx hZ e167 N167 R167 0 rfl (j := (5 : Int32)) (by decide) (5) rfl (show (5 : Nat) < 6 by decide) (g := (mkF m 59 #[.val (.long vx), .second, .val (.int (6 : Int32)), .val (.ref b142), .val (.int (5 : Int32))] [(.int (((lshr vx (0 : Int32)).toInt32).toInt8.toInt32)), (.int (5 : Int32)), (.ref b142)])) rfl rfl (hb hby d1_59)
              replace R172 : Rep Z n0 h172 ((b142, Ar .byte [(.int ((((lshr vx (40 : Int32)).toInt32).toInt8.toInt32).toInt8.toInt32)), (.int ((((lshr vx (32 : Int32)).toInt32).toInt8.toInt32).toInt8.toInt32)), (.int ((((lshr vx (24 : Int32)).toInt32).toInt8.toInt32).toInt8.toInt32)), (.int ((((lshr vx (16 : Int32)).toInt32).toInt8.toInt32).toInt8.toInt32)), (.int ((((lshr vx (8 : Int32)).toInt32).toInt8.toInt32).toInt8.toInt32)), (.int ((((lshr vx (0 : Int32)).toInt32).toInt8.toInt32).toInt8.toInt32))]) :: Rst) := R172
              have pre173 : ∀ t, Steps p.tables e below (T172.setTop (mkF m 60 #[.val (.long vx), .second, .val (.int (6 : Int32)), .val (.ref b142), .val (.int (5 : Int32))] [])) t → Steps p.tables e below (s₁.setTop (entryFrame m #[(.long vx)] 5)) t := fun t k => pre171 t (st172 t k)
              have pre175 : ∀ t, Steps p.tables e below (T172.setTop (mkF m 40 #[.val (.long vx), .second, .val (.int (6 : Int32)), .val (.ref b142), .val (.int (6 : Int32))] [(.int (6 : Int32)), (.int (6 : Int32))])) t → Steps p.tables e below (s₁.setTop (entryFrame m #[(.long vx)] 5)) t := fun t k => pre173 t (by
                show Steps p.tables e below (T172.setTop (mkF m 60 #[.val (.long vx), .second, .val (.int (6 : Int32)), .val (.ref b142), .val (.int (5 : Int32))] [])) _
                refine XS.iinc X172.here hx rfl (hb hby d1_60) rfl (l' := #[.val (.long vx), .second, .val (.int (6 : Int32)), .val (.ref b142), .val (.int (6 : Int32))]) rfl ?_
                refine XS.goto X172.here hx rfl (pc0 := 63) (pc' := 37) rfl (hb hby d1_63) (by decide) (by decide) ?_
                refine XS.iload X172.here hx rfl (hb hby d1_37) rfl ?_
                refine XS.iloadN X172.here hx rfl (hb hby d1_39) rfl ?_
                exact k)
              have hb174 : ¬ ((6 : Int32) < (6 : Int32)) := (by decide)
              have pre176 : ∀ t, Steps p.tables e below (T172.setTop (mkF m 67 #[.val (.long vx), .second, .val (.int (6 : Int32)), .val (.ref b142), .val (.int (6 : Int32))] [(.ref b142)])) t → Steps p.tables e below (s₁.setTop (entryFrame m #[(.long vx)] 5)) t := fun t k => pre175 t (by
                show Steps p.tables e below (T172.setTop (mkF m 40 #[.val (.long vx), .second, .val (.int (6 : Int32)), .val (.ref b142), .val (.int (6 : Int32))] [(.int (6 : Int32)), (.int (6 : Int32))])) _
                refine XS.icmpYes X172.here hx rfl (pc0 := 40) (pc' := 66) rfl (hb hby d1_40) rfl (flt hb174).2.1 (by decide) (by decide) ?_
                refine XS.aloadN X172.here hx rfl (hb hby d1_66) rfl rfl ?_
                exact k)
              obtain ⟨fs, hr, hrun, hended, hW, hsame⟩ := X172.leave (v := some (.ref b142)) (fun h => by rw [Bd.returns] at h; cases h)
              refine ⟨_, _, pre176 _ ?_, hrun, hended, _, _, rfl, ?_, ⟨_, rfl⟩, hW, hsame.mono (by decide) (by decide)⟩
              · show Steps p.tables e below (T172.setTop (mkF m 67 #[.val (.long vx), .second, .val (.int (6 : Int32)), .val (.ref b142), .val (.int (6 : Int32))] [(.ref b142)])) _
                exact Jvm.Own.retA X172 hx (t := (.array .byte)) rfl Bd.returns (hb hby d1_67) hr
              · show Q1 Z vx n0 Rst _ T172.heap _
                rw [e172]
                exact ⟨b142, rfl, N172, (by simp only [EB, if_neg hb4, if_neg hb21, if_neg hb43, if_neg hb70, if_neg hb102, if_pos hb139]; exact R172)⟩
            · have pre177 : ∀ t, Steps p.tables e below (s₁.setTop (mkF m 24 #[.val (.long vx), .second, .val (.int (6 : Int32)), .unset, .unset] [])) t → Steps p.tables e below (s₁.setTop (entryFrame m #[(.long vx)] 5)) t := fun t k => pre138 t (by show Steps p.tables e below (s₁.setTop (mkF m 21 #[.val (.long vx), .second, .val (.int (6 : Int32)), .unset, .unset] [(.int (XT.cmpL (lshr vx (47 : Int32)) (lshr vx (63 : Int32))))])) _; refine XS.ifNo X0.here hx rfl (hb hby d1_21) rfl (XT.ll_eq_f hb139) ?_; exact k)
              have pre179 : ∀ t, Steps p.tables e below (s₁.setTop (mkF m 5 #[.val (.long vx), .second, .val (.int (7 : Int32)), .unset, .unset] [(.int (8 : Int32)), (.int (7 : Int32))])) t → Steps p.tables e below (s₁.setTop (entryFrame m #[(.long vx)] 5)) t := fun t k => pre177 t (by
                show Steps p.tables e below (s₁.setTop (mkF m 24 #[.val (.long vx), .second, .val (.int (6 : Int32)), .unset, .unset] [])) _
                refine XS.iinc X0.here hx rfl (hb hby d1_24) rfl (l' := #[.val (.long vx), .second, .val (.int (7 : Int32)), .unset, .unset]) rfl ?_
                refine XS.goto X0.here hx rfl (pc0 := 27) (pc' := 2) rfl (hb hby d1_27) (by decide) (by decide) ?_
                refine XS.iloadN X0.here hx rfl (hb hby d1_2) rfl ?_
                refine XS.bipush X0.here hx rfl (hb hby d1_3) ?_
                exact k)
              have hb178 : (7 : Int32) < (8 : Int32) := (by decide)
              have pre180 : ∀ t, Steps p.tables e below (s₁.setTop (mkF m 21 #[.val (.long vx), .second, .val (.int (7 : Int32)), .unset, .unset] [(.int (XT.cmpL (lshr vx (55 : Int32)) (lshr vx (63 : Int32))))])) t → Steps p.tables e below (s₁.setTop (entryFrame m #[(.long vx)] 5)) t := fun t k => pre179 t (by
                show Steps p.tables e below (s₁.setTop (mkF m 5 #[.val (.long vx), .second, .val (.int (7 : Int32)), .unset, .unset] [(.int (8 : Int32)), (.int (7 : Int32))])) _
                refine XS.icmpNo X0.here hx rfl (hb hby d1_5) rfl (tlt hb178).2.1 ?_
                refine XS.lloadN X0.here hx rfl (hb hby d1_8) rfl ?_
                refine XS.iloadN X0.here hx rfl (hb hby d1_9) rfl ?_
                refine XS.bipush X0.here hx rfl (hb hby d1_10) ?_
                refine XS.imul X0.here hx rfl (hb hby d1_12) rfl ?_
                refine XS.iconst X0.here hx rfl (hb hby d1_13) ?_
                refine XS.isub X0.here hx rfl (hb hby d1_14) rfl ?_
                show Steps p.tables e below (s₁.setTop (mkF m 15 #[.val (.long vx), .second, .val (.int (7 : Int32)), .unset, .unset] [(.int (55 : Int32)), (.long vx)])) _
                refine XS.lshr X0.here hx rfl (hb hby d1_15) rfl ?_
                refine XS.lloadN X0.here hx rfl (hb hby d1_16) rfl ?_
                refine XS.bipush X0.here hx rfl (hb hby d1_17) ?_
                refine XS.lshr X0.here hx rfl (hb hby d1_19) rfl ?_
                refine XS.lcmp X0.here hx rfl (hb hby d1_20) rfl ?_
                exact k)
              by_cases hb181 : (lshr vx (55 : Int32)) = (lshr vx (63 : Int32))
              · have pre182 : ∀ t, Steps p.tables e below (s₁.setTop (mkF m 30 #[.val (.long vx), .second, .val (.int (7 : Int32)), .unset, .unset] [])) t → Steps p.tables e below (s₁.setTop (entryFrame m #[(.long vx)] 5)) t := fun t k => pre180 t (by show Steps p.tables e below (s₁.setTop (mkF m 21 #[.val (.long vx), .second, .val (.int (7 : Int32)), .unset, .unset] [(.int (XT.cmpL (lshr vx (55 : Int32)) (lshr vx (63 : Int32))))])) _; refine XS.ifYes X0.here hx rfl (pc0 := 21) (pc' := 30) rfl (hb hby d1_21) rfl (XT.ll_eq_t hb181) (by decide) (by decide) ?_; exact k)
                have pre183 : ∀ t, Steps p.tables e below (s₁.setTop (mkF m 31 #[.val (.long vx), .second, .val (.int (7 : Int32)), .unset, .unset] [(.int (7 : Int32))])) t → Steps p.tables e below (s₁.setTop (entryFrame m #[(.long vx)] 5)) t := fun t k => pre182 t (by
                  show Steps p.tables e below (s₁.setTop (mkF m 30 #[.val (.long vx), .second, .val (.int (7 : Int32)), .unset, .unset] [])) _
                  refine XS.iloadN X0.here hx rfl (hb hby d1_30) rfl ?_
                  exact k)
                obtain ⟨T184, h184, b184, X184, e184, R184, st184⟩ := gNewP X0 hx hZ (hw _ (List.mem_of_getElem? (i := 4) rfl)) e0 R0 (g := (mkF m 31 #[.val (.long vx), .second, .val (.int (7 : Int32)), .unset, .unset] [(.int (7 : Int32))])) rfl (hb hby d1_31) rfl (by decide) 7 (by decide) (by decide) (by decide) (by decide) (vs := [(.int (0 : Int32)), (.int (0 : Int32)), (.int (0 : Int32)), (.int (0 : Int32)), (.int (0 : Int32)), (.int (0 : Int32)), (.int (0 : Int32))]) rfl
                replace R184 : Rep Z n0 h184 ((b184, Ar .byte [(.int (0 : Int32)), (.int (0 : Int32)), (.int (0 : Int32)), (.int (0 : Int32)), (.int (0 : Int32)), (.int (0 : Int32)), (.int (0 : Int32))]) :: Rst) := R184
                have pre185 : ∀ t, Steps p.tables e below (T184.setTop (mkF m 33 #[.val (.long vx), .second, .val (.int (7 : Int32)), .unset, .unset] [(.ref b184)])) t → Steps p.tables e below (s₁.setTop (entryFrame m #[(.long vx)] 5)) t := fun t k => pre183 t (st184 t k)
                have pre187 : ∀ t, Steps p.tables e below (T184.setTop (mkF m 40 #[.val (.long vx), .second, .val (.int (7 : Int32)), .val (.ref b184), .val (.int (0 : Int32))] [(.int (7 : Int32)), (.int (0 : Int32))])) t → Steps p.tables e below (s₁.setTop (entryFrame m #[(.long vx)] 5)) t := fun t k => pre185 t (by
                  show Steps p.tables e below (T184.setTop (mkF m 33 #[.val (.long vx), .second, .val (.int (7 : Int32)), .unset, .unset] [(.ref b184)])) _
                  refine XS.astoreN X184.here hx rfl (hb hby d1_33) rfl rfl (l' := #[.val (.long vx), .second, .val (.int (7 : Int32)), .val (.ref b184), .unset]) rfl ?_
                  refine XS.iconst X184.here hx rfl (hb hby d1_34) ?_
                  refine XS.istore X184.here hx rfl (hb hby d1_35) rfl (l' := #[.val (.long vx), .second, .val (.int (7 : Int32)), .val (.ref b184), .val (.int (0 : Int32))]) rfl ?_
                  refine XS.iload X184.here hx rfl (hb hby d1_37) rfl ?_
                  refine XS.iloadN X184.here hx rfl (hb hby d1_39) rfl ?_
                  exact k)
                have hb186 : (0 : Int32) < (7 : Int32) := (by decide)
                have pre188 : ∀ t, Steps p.tables e below (T184.setTop (mkF m 59 #[.val (.long vx), .second, .val (.int (7 : Int32)), .val (.ref b184), .val (.int (0 : Int32))] [(.int (((lshr vx (48 : Int32)).toInt32).toInt8.toInt32)), (.int (0 : Int32)), (.ref b184)])) t → Steps p.tables e below (s₁.setTop (entryFrame m #[(.long vx)] 5)) t := fun t k => pre187 t (by
                  show Steps p.tables e below (T184.setTop (mkF m 40 #[.val (.long vx), .second, .val (.int (7 : Int32)), .val (.ref b184), .val (.int (0 : Int32))] [(.int (7 : Int32)), (.int (0 : Int32))])) _
                  refine XS.icmpNo X184.here hx rfl (hb hby d1_40) rfl (tlt hb186).2.1 ?_
                  refine XS.aloadN X184.here hx rfl (hb hby d1_43) rfl rfl ?_
                  refine XS.iload X184.here hx rfl (hb hby d1_44) rfl ?_
                  refine XS.lloadN X184.here hx rfl (hb hby d1_46) rfl ?_
                  refine XS.iloadN X184.here hx rfl (hb hby d1_47) rfl ?_
                  refine XS.iconst X184.here hx rfl (hb hby d1_48) ?_
                  refine XS.isub X184.here hx rfl (hb hby d1_49) rfl ?_
                  show Steps p.tables e below (T184.setTop (mkF m 50 #[.val (.long vx), .second, .val (.int (7 : Int32)), .val (.ref b184), .val (.int (0 : Int32))] [(.int (6 : Int32)), (.long vx), (.int (0 : Int32)), (.ref b184)])) _
                  refine XS.iload X184.here hx rfl (hb hby d1_50) rfl ?_
                  refine XS.isub X184.here hx rfl (hb hby d1_52) rfl ?_
                  refine XS.bipush X184.here hx rfl (hb hby d1_53) ?_
                  refine XS.imul X184.here hx rfl (hb hby d1_55) rfl ?_
                  refine XS.lshr X184.here hx rfl (hb hby d1_56) rfl ?_
                  refine XS.l2i X184.here hx rfl (hb hby d1_57) rfl ?_
                  refine XS.i2b X184.here hx rfl (hb hby d1_58) rfl ?_
                  exact k)
                obtain ⟨T189, h189, ls189, X189, e189, N189, R189, st189⟩ := gBst X184 hx hZ e184 N0 R184 0 rfl (j := (0 : Int32)) (by decide) (0) rfl (show (0 : Nat) < 7 by decide) (g := (mkF m 59 #[.val (.long vx), .second, .val (.int (7 : Int32)), .val (.ref b184), .val (.int (0 : Int32))] [(.int (((lshr vx (48 : Int32)).toInt32).toInt8.toInt32)), (.int (0 : Int32)), (.ref b184)])) rfl rfl (hb hby d1_59)
                replace R189 : Rep Z n0 h189 ((b184, Ar .byte [(.int ((((lshr vx (48 : Int32)).toInt32).toInt8.toInt32).toInt8.toInt32)), (.int (0 : Int32)), (.int (0 : Int32)), (.int (0 : Int32)), (.int (0 : Int32)), (.int (0 : Int32)), (.int (0 : Int32))]) :: Rst) := R189
                have pre190 : ∀ t, Steps p.tables e below (T189.setTop (mkF m 60 #[.val (.long vx), .second, .val (.int (7 : Int32)), .val (.ref b184), .val (.int (0 : Int32))] [])) t → Steps p.tables e below (s₁.setTop (entryFrame m #[(.long vx)] 5)) t := fun t k => pre188 t (st189 t k)
                have pre192 : ∀ t, Steps p.tables e below (T189.setTop (mkF m 40 #[.val (.long vx), .second, .val (.int (7 : Int32)), .val (.ref b184), .val (.int (1 : Int32))] [(.int (7 : Int32)), (.int (1 : Int32))])) t → Steps p.tables e below (s₁.setTop (entryFrame m #[(.long vx)] 5)) t := fun t k => pre190 t (by
                  show Steps p.tables e below (T189.setTop (mkF m 60 #[.val (.long vx), .second, .val (.int (7 : Int32)), .val (.ref b184), .val (.int (0 : Int32))] [])) _
                  refine XS.iinc X189.here hx rfl (hb hby d1_60) rfl (l' := #[.val (.long vx), .second, .val (.int (7 : Int32)), .val (.ref b184), .val (.int (1 : Int32))]) rfl ?_
                  refine XS.goto X189.here hx rfl (pc0 := 63) (pc' := 37) rfl (hb hby d1_63) (by decide) (by decide) ?_
                  refine XS.iload X189.here hx rfl (hb hby d1_37) rfl ?_
                  refine XS.iloadN X189.here hx rfl (hb hby d1_39) rfl ?_
                  exact k)
                have hb191 : (1 : Int32) < (7 : Int32) := (by decide)
                have pre193 : ∀ t, Steps p.tables e below (T189.setTop (mkF m 59 #[.val (.long vx), .second, .val (.int (7 : Int32)), .val (.ref b184), .val (.int (1 : Int32))] [(.int (((lshr vx (40 : Int32)).toInt32).toInt8.toInt32)), (.int (1 : Int32)), (.ref b184)])) t → Steps p.tables e below (s₁.setTop (entryFrame m #[(.long vx)] 5)) t := fun t k => pre192 t (by
                  show Steps p.tables e below (T189.setTop (mkF m 40 #[.val (.long vx), .second, .val (.int (7 : Int32)), .val (.ref b184), .val (.int (1 : Int32))] [(.int (7 : Int32)), (.int (1 : Int32))])) _
                  refine XS.icmpNo X189.here hx rfl (hb hby d1_40) rfl (tlt hb191).2.1 ?_
                  refine XS.aloadN X189.here hx rfl (hb hby d1_43) rfl rfl ?_
                  refine XS.iload X189.here hx rfl (hb hby d1_44) rfl ?_
                  refine XS.lloadN X189.here hx rfl (hb hby d1_46) rfl ?_
                  refine XS.iloadN X189.here hx rfl (hb hby d1_47) rfl ?_
                  refine XS.iconst X189.here hx rfl (hb hby d1_48) ?_
                  refine XS.isub X189.here hx rfl (hb hby d1_49) rfl ?_
                  show Steps p.tables e below (T189.setTop (mkF m 50 #[.val (.long vx), .second, .val (.int (7 : Int32)), .val (.ref b184), .val (.int (1 : Int32))] [(.int (6 : Int32)), (.long vx), (.int (1 : Int32)), (.ref b184)])) _
                  refine XS.iload X189.here hx rfl (hb hby d1_50) rfl ?_
                  refine XS.isub X189.here hx rfl (hb hby d1_52) rfl ?_
                  refine XS.bipush X189.here hx rfl (hb hby d1_53) ?_
                  refine XS.imul X189.here hx rfl (hb hby d1_55) rfl ?_
                  refine XS.lshr X189.here hx rfl (hb hby d1_56) rfl ?_
                  refine XS.l2i X189.here hx rfl (hb hby d1_57) rfl ?_
                  refine XS.i2b X189.here hx rfl (hb hby d1_58) rfl ?_
                  exact k)
                obtain ⟨T194, h194, ls194, X194, e194, N194, R194, st194⟩ := gBst X189 hx hZ e189 N189 R189 0 rfl (j := (1 : Int32)) (by decide) (1) rfl (show (1 : Nat) < 7 by decide) (g := (mkF m 59 #[.val (.long vx), .second, .val (.int (7 : Int32)), .val (.ref b184), .val (.int (1 : Int32))] [(.int (((lshr vx (40 : Int32)).toInt32).toInt8.toInt32)), (.int (1 : Int32)), (.ref b184)])) rfl rfl (hb hby d1_59)
                replace R194 : Rep Z n0 h194 ((b184, Ar .byte [(.int ((((lshr vx (48 : Int32)).toInt32).toInt8.toInt32).toInt8.toInt32)), (.int ((((lshr vx (40 : Int32)).toInt32).toInt8.toInt32).toInt8.toInt32)), (.int (0 : Int32)), (.int (0 : Int32)), (.int (0 : Int32)), (.int (0 : Int32)), (.int (0 : Int32))]) :: Rst) := R194
                have pre195 : ∀ t, Steps p.tables e below (T194.setTop (mkF m 60 #[.val (.long vx), .second, .val (.int (7 : Int32)), .val (.ref b184), .val (.int (1 : Int32))] [])) t → Steps p.tables e below (s₁.setTop (entryFrame m #[(.long vx)] 5)) t := fun t k => pre193 t (st194 t k)
                have pre197 : ∀ t, Steps p.tables e below (T194.setTop (mkF m 40 #[.val (.long vx), .second, .val (.int (7 : Int32)), .val (.ref b184), .val (.int (2 : Int32))] [(.int (7 : Int32)), (.int (2 : Int32))])) t → Steps p.tables e below (s₁.setTop (entryFrame m #[(.long vx)] 5)) t := fun t k => pre195 t (by
                  show Steps p.tables e below (T194.setTop (mkF m 60 #[.val (.long vx), .second, .val (.int (7 : Int32)), .val (.ref b184), .val (.int (1 : Int32))] [])) _
                  refine XS.iinc X194.here hx rfl (hb hby d1_60) rfl (l' := #[.val (.long vx), .second, .val (.int (7 : Int32)), .val (.ref b184), .val (.int (2 : Int32))]) rfl ?_
                  refine XS.goto X194.here hx rfl (pc0 := 63) (pc' := 37) rfl (hb hby d1_63) (by decide) (by decide) ?_
                  refine XS.iload X194.here hx rfl (hb hby d1_37) rfl ?_
                  refine XS.iloadN X194.here hx rfl (hb hby d1_39) rfl ?_
                  exact k)
                have hb196 : (2 : Int32) < (7 : Int32) := (by decide)
                have pre198 : ∀ t, Steps p.tables e below (T194.setTop (mkF m 59 #[.val (.long vx), .second, .val (.int (7 : Int32)), .val (.ref b184), .val (.int (2 : Int32))] [(.int (((lshr vx (32 : Int32)).toInt32).toInt8.toInt32)), (.int (2 : Int32)), (.ref b184)])) t → Steps p.tables e below (s₁.setTop (entryFrame m #[(.long vx)] 5)) t := fun t k => pre197 t (by
                  show Steps p.tables e below (T194.setTop (mkF m 40 #[.val (.long vx), .second, .val (.int (7 : Int32)), .val (.ref b184), .val (.int (2 : Int32))] [(.int (7 : Int32)), (.int (2 : Int32))])) _
                  refine XS.icmpNo X194.here hx rfl (hb hby d1_40) rfl (tlt hb196).2.1 ?_
                  refine XS.aloadN X194.here hx rfl (hb hby d1_43) rfl rfl ?_
                  refine XS.iload X194.here hx rfl (hb hby d1_44) rfl ?_
                  refine XS.lloadN X194.here hx rfl (hb hby d1_46) rfl ?_
                  refine XS.iloadN X194.here hx rfl (hb hby d1_47) rfl ?_
                  refine XS.iconst X194.here hx rfl (hb hby d1_48) ?_
                  refine XS.isub X194.here hx rfl (hb hby d1_49) rfl ?_
                  show Steps p.tables e below (T194.setTop (mkF m 50 #[.val (.long vx), .second, .val (.int (7 : Int32)), .val (.ref b184), .val (.int (2 : Int32))] [(.int (6 : Int32)), (.long vx), (.int (2 : Int32)), (.ref b184)])) _
                  refine XS.iload X194.here hx rfl (hb hby d1_50) rfl ?_
                  refine XS.isub X194.here hx rfl (hb hby d1_52) rfl ?_
                  refine XS.bipush X194.here hx rfl (hb hby d1_53) ?_
                  refine XS.imul X194.here hx rfl (hb hby d1_55) rfl ?_
                  refine XS.lshr X194.here hx rfl (hb hby d1_56) rfl ?_
                  refine XS.l2i X194.here hx rfl (hb hby d1_57) rfl ?_
                  refine XS.i2b X194.here hx rfl (hb hby d1_58) rfl ?_
                  exact k)
                obtain ⟨T199, h199, ls199, X199, e199, N199, R199, st199⟩ := gBst X194 hx hZ e194 N194 R194 0 rfl (j := (2 : Int32)) (by decide) (2) rfl (show (2 : Nat) < 7 by decide) (g := (mkF m 59 #[.val (.long vx), .second, .val (.int (7 : Int32)), .val (.ref b184), .val (.int (2 : Int32))] [(.int (((lshr vx (32 : Int32)).toInt32).toInt8.toInt32)), (.int (2 : Int32)), (.ref b184)])) rfl rfl (hb hby d1_59)
                replace R199 : Rep Z n0 h199 ((b184, Ar .byte [(.int ((((lshr vx (48 : Int32)).toInt32).toInt8.toInt32).toInt8.toInt32)), (.int ((((lshr vx (40 : Int32)).toInt32).toInt8.toInt32).toInt8.toInt32)), (.int ((((lshr vx (32 : Int32)).toInt32).toInt8.toInt32).toInt8.toInt32)), (.int (0 : Int32)), (.int (0 : Int32)), (.int (0 : Int32)), (.int (0 : Int32))]) :: Rst) := R199
                have pre200 : ∀ t, Steps p.tables e below (T199.setTop (mkF m 60 #[.val (.long vx), .second, .val (.int (7 : Int32)), .val (.ref b184), .val (.int (2 : Int32))] [])) t → Steps p.tables e below (s₁.setTop (entryFrame m #[(.long vx)] 5)) t := fun t k => pre198 t (st199 t k)
                have pre202 : ∀ t, Steps p.tables e below (T199.setTop (mkF m 40 #[.val (.long vx), .second, .val (.int (7 : Int32)), .val (.ref b184), .val (.int (3 : Int32))] [(.int (7 : Int32)), (.int (3 : Int32))])) t → Steps p.tables e below (s₁.setTop (entryFrame m #[(.long vx)] 5)) t := fun t k => pre200 t (by
                  show Steps p.tables e below (T199.setTop (mkF m 60 #[.val (.long vx), .second, .val (.int (7 : Int32)), .val (.ref b184), .val (.int (2 : Int32))] [])) _
                  refine XS.iinc X199.here hx rfl (hb hby d1_60) rfl (l' := #[.val (.long vx), .second, .val (.int (7 : Int32)), .val (.ref b184), .val (.int (3 : Int32))]) rfl ?_
                  refine XS.goto X199.here hx rfl (pc0 := 63) (pc' := 37) rfl (hb hby d1_63) (by decide) (by decide) ?_
                  refine XS.iload X199.here hx rfl (hb hby d1_37) rfl ?_
                  refine XS.iloadN X199.here hx rfl (hb hby d1_39) rfl ?_
                  exact k)
                have hb201 : (3 : Int32) < (7 : Int32) := (by decide)
                have pre203 : ∀ t, Steps p.tables e below (T199.setTop (mkF m 59 #[.val (.long vx), .second, .val (.int (7 : Int32)), .val (.ref b184), .val (.int (3 : Int32))] [(.int (((lshr vx (24 : Int32)).toInt32).toInt8.toInt32)), (.int (3 : Int32)), (.ref b184)])) t → Steps p.tables e below (s₁.setTop (entryFrame m #[(.long vx)] 5)) t := fun t k => pre202 t (by
                  show Steps p.tables e below (T199.setTop (mkF m 40 #[.val (.long vx), .second, .val (.int (7 : Int32)), .val (.ref b184), .val (.int (3 : Int32))] [(.int (7 : Int32)), (.int (3 : Int32))])) _
                  refine XS.icmpNo X199.here hx rfl (hb hby d1_40) rfl (tlt hb201).2.1 ?_
                  refine XS.aloadN X199.here hx rfl (hb hby d1_43) rfl rfl ?_
                  refine XS.iload X199.here hx rfl (hb hby d1_44) rfl ?_
                  refine XS.lloadN X199.here hx rfl (hb hby d1_46) rfl ?_
                  refine XS.iloadN X199.here hx rfl (hb hby d1_47) rfl ?_
                  refine XS.iconst X199.here hx rfl (hb hby d1_48) ?_
                  refine XS.isub X199.here hx rfl (hb hby d1_49) rfl ?_
                  show Steps p.tables e below (T199.setTop (mkF m 50 #[.val (.long vx), .second, .val (.int (7 : Int32)), .val (.ref b184), .val (.int (3 : Int32))] [(.int (6 : Int32)), (.long vx), (.int (3 : Int32)), (.ref b184)])) _
                  refine XS.iload X199.here hx rfl (hb hby d1_50) rfl ?_
                  refine XS.isub X199.here hx rfl (hb hby d1_52) rfl ?_
                  refine XS.bipush X199.here hx rfl (hb hby d1_53) ?_
                  refine XS.imul X199.here hx rfl (hb hby d1_55) rfl ?_
                  refine XS.lshr X199.here hx rfl (hb hby d1_56) rfl ?_
                  refine XS.l2i X199.here hx rfl (hb hby d1_57) rfl ?_
                  refine XS.i2b X199.here hx rfl (hb hby d1_58) rfl ?_
                  exact k)
                obtain ⟨T204, h204, ls204, X204, e204, N204, R204, st204⟩ := gBst X199 hx hZ e199 N199 R199 0 rfl (j := (3 : Int32)) (by decide) (3) rfl (show (3 : Nat) < 7 by decide) (g := (mkF m 59 #[.val (.long vx), .second, .val (.int (7 : Int32)), .val (.ref b184), .val (.int (3 : Int32))] [(.int (((lshr vx (24 : Int32)).toInt32).toInt8.toInt32)), (.int (3 : Int32)), (.ref b184)])) rfl rfl (hb hby d1_59)
                replace R204 : Rep Z n0 h204 ((b184, Ar .byte [(.int ((((lshr vx (48 : Int32)).toInt32).toInt8.toInt32).toInt8.toInt32)), (.int ((((lshr vx (40 : Int32)).toInt32).toInt8.toInt32).toInt8.toInt32)), (.int ((((lshr vx (32 : Int32)).toInt32).toInt8.toInt32).toInt8.toInt32)), (.int ((((lshr vx (24 : Int32)).toInt32).toInt8.toInt32).toInt8.toInt32)), (.int (0 : Int32)), (.int (0 : Int32)), (.int (0 : Int32))]) :: Rst) := R204
                have pre205 : ∀ t, Steps p.tables e below (T204.setTop (mkF m 60 #[.val (.long vx), .second, .val (.int (7 : Int32)), .val (.ref b184), .val (.int (3 : Int32))] [])) t → Steps p.tables e below (s₁.setTop (entryFrame m #[(.long vx)] 5)) t := fun t k => pre203 t (st204 t k)
                have pre207 : ∀ t, Steps p.tables e below (T204.setTop (mkF m 40 #[.val (.long vx), .second, .val (.int (7 : Int32)), .val (.ref b184), .val (.int (4 : Int32))] [(.int (7 : Int32)), (.int (4 : Int32))])) t → Steps p.tables e below (s₁.setTop (entryFrame m #[(.long vx)] 5)) t := fun t k => pre205 t (by
                  show Steps p.tables e below (T204.setTop (mkF m 60 #[.val (.long vx), .second, .val (.int (7 : Int32)), .val (.ref b184), .val (.int (3 : Int32))] [])) _
                  refine XS.iinc X204.here hx rfl (hb hby d1_60) rfl (l' := #[.val (.long vx), .second, .val (.int (7 : Int32)), .val (.ref b184), .val (.int (4 : Int32))]) rfl ?_
                  refine XS.goto X204.here hx rfl (pc0 := 63) (pc' := 37) rfl (hb hby d1_63) (by decide) (by decide) ?_
                  refine XS.iload X204.here hx rfl (hb hby d1_37) rfl ?_
                  refine XS.iloadN X204.here hx rfl (hb hby d1_39) rfl ?_
                  exact k)
                have hb206 : (4 : Int32) < (7 : Int32) := (by decide)
                have pre208 : ∀ t, Steps p.tables e below (T204.setTop (mkF m 59 #[.val (.long vx), .second, .val (.int (7 : Int32)), .val (.ref b184), .val (.int (4 : Int32))] [(.int (((lshr vx (16 : Int32)).toInt32).toInt8.toInt32)), (.int (4 : Int32)), (.ref b184)])) t → Steps p.tables e below (s₁.setTop (entryFrame m #[(.long vx)] 5)) t := fun t k => pre207 t (by
                  show Steps p.tables e below (T204.setTop (mkF m 40 #[.val (.long vx), .second, .val (.int (7 : Int32)), .val (.ref b184), .val (.int (4 : Int32))] [(.int (7 : Int32)), (.int (4 : Int32))])) _
                  refine XS.icmpNo X204.here hx rfl (hb hby d1_40) rfl (tlt hb206).2.1 ?_
                  refine XS.aloadN X204.here hx rfl (hb hby d1_43) rfl rfl ?_
                  refine XS.iload X204.here hx rfl (hb hby d1_44) rfl ?_
                  refine XS.lloadN X204.here hx rfl (hb hby d1_46) rfl ?_
                  refine XS.iloadN X204.here hx rfl (hb hby d1_47) rfl ?_
                  refine XS.iconst X204.here hx rfl (hb hby d1_48) ?_
                  refine XS.isub X204.here hx rfl (hb hby d1_49) rfl ?_
                  show Steps p.tables e below (T204.setTop (mkF m 50 #[.val (.long vx), .second, .val (.int (7 : Int32)), .val (.ref b184), .val (.int (4 : Int32))] [(.int (6 : Int32)), (.long vx), (.int (4 : Int32)), (.ref b184)])) _
                  refine XS.iload X204.here hx rfl (hb hby d1_50) rfl ?_
                  refine XS.isub X204.here hx rfl (hb hby d1_52) rfl ?_
                  refine XS.bipush X204.here hx rfl (hb hby d1_53) ?_
                  refine XS.imul X204.here hx rfl (hb hby d1_55) rfl ?_
                  refine XS.lshr X204.here hx rfl (hb hby d1_56) rfl ?_
                  refine XS.l2i X204.here hx rfl (hb hby d1_57) rfl ?_
                  refine XS.i2b X204.here hx rfl (hb hby d1_58) rfl ?_
                  exact k)
                obtain ⟨T209, h209, ls209, X209, e209, N209, R209, st209⟩ := gBst X204 hx hZ e204 N204 R204 0 rfl (j := (4 : Int32)) (by decide) (4) rfl (show (4 : Nat) < 7 by decide) (g := (mkF m 59 #[.val (.long vx), .second, .val (.int (7 : Int32)), .val (.ref b184), .val (.int (4 : Int32))] [(.int (((lshr vx (16 : Int32)).toInt32).toInt8.toInt32)), (.int (4 : Int32)), (.ref b184)])) rfl rfl (hb hby d1_59)
                replace R209 : Rep Z n0 h209 ((b184, Ar .byte [(.int ((((lshr vx (48 : Int32)).toInt32).toInt8.toInt32).toInt8.toInt32)), (.int ((((lshr vx (40 : Int32)).toInt32).toInt8.toInt32).toInt8.toInt32)), (.int ((((lshr vx (32 : Int32)).toInt32).toInt8.toInt32).toInt8.toInt32)), (.int ((((lshr vx (24 : Int32)).toInt32).toInt8.toInt32).toInt8.toInt32)), (.int ((((lshr vx (16 : Int32)).toInt32).toInt8.toInt32).toInt8.toInt32)), (.int (0 : Int32)), (.int (0 : Int32))]) :: Rst) := R209
                have pre210 : ∀ t, Steps p.tables e below (T209.setTop (mkF m 60 #[.val (.long vx), .second, .val (.int (7 : Int32)), .val (.ref b184), .val (.int (4 : Int32))] [])) t → Steps p.tables e below (s₁.setTop (entryFrame m #[(.long vx)] 5)) t := fun t k => pre208 t (st209 t k)
                have pre212 : ∀ t, Steps p.tables e below (T209.setTop (mkF m 40 #[.val (.long vx), .second, .val (.int (7 : Int32)), .val (.ref b184), .val (.int (5 : Int32))] [(.int (7 : Int32)), (.int (5 : Int32))])) t → Steps p.tables e below (s₁.setTop (entryFrame m #[(.long vx)] 5)) t := fun t k => pre210 t (by
                  show Steps p.tables e below (T209.setTop (mkF m 60 #[.val (.long vx), .second, .val (.int (7 : Int32)), .val (.ref b184), .val (.int (4 : Int32))] [])) _
                  refine XS.iinc X209.here hx rfl (hb hby d1_60) rfl (l' := #[.val (.long vx), .second, .val (.int (7 : Int32)), .val (.ref b184), .val (.int (5 : Int32))]) rfl ?_
                  refine XS.goto X209.here hx rfl (pc0 := 63) (pc' := 37) rfl (hb hby d1_63) (by decide) (by decide) ?_
                  refine XS.iload X209.here hx rfl (hb hby d1_37) rfl ?_
                  refine XS.iloadN X209.here hx rfl (hb hby d1_39) rfl ?_
                  exact k)
                have hb211 : (5 : Int32) < (7 : Int32) := (by decide)
                have pre213 : ∀ t, Steps p.tables e below (T209.setTop (mkF m 59 #[.val (.long vx), .second, .val (.int (7 : Int32)), .val (.ref b184), .val (.int (5 : Int32))] [(.int (((lshr vx (8 : Int32)).toInt32).toInt8.toInt32)), (.int (5 : Int32)), (.ref b184)])) t → Steps p.tables e below (s₁.setTop (entryFrame m #[(.long vx)] 5)) t := fun t k => pre212 t (by
                  show Steps p.tables e below (T209.setTop (mkF m 40 #[.val (.long vx), .second, .val (.int (7 : Int32)), .val (.ref b184), .val (.int (5 : Int32))] [(.int (7 : Int32)), (.int (5 : Int32))])) _
                  refine XS.icmpNo X209.here hx rfl (hb hby d1_40) rfl (tlt hb211).2.1 ?_
                  refine XS.aloadN X209.here hx rfl (hb hby d1_43) rfl rfl ?_
                  refine XS.iload X209.here hx rfl (hb hby d1_44) rfl ?_
                  refine XS.lloadN X209.here hx rfl (hb hby d1_46) rfl ?_
                  refine XS.iloadN X209.here hx rfl (hb hby d1_47) rfl ?_
                  refine XS.iconst X209.here hx rfl (hb hby d1_48) ?_
                  refine XS.isub X209.here hx rfl (hb hby d1_49) rfl ?_
                  show Steps p.tables e below (T209.setTop (mkF m 50 #[.val (.long vx), .second, .val (.int (7 : Int32)), .val (.ref b184), .val (.int (5 : Int32))] [(.int (6 : Int32)), (.long vx), (.int (5 : Int32)), (.ref b184)])) _
                  refine XS.iload X209.here hx rfl (hb hby d1_50) rfl ?_
                  refine XS.isub X209.here hx rfl (hb hby d1_52) rfl ?_
                  refine XS.bipush X209.here hx rfl (hb hby d1_53) ?_
                  refine XS.imul X209.here hx rfl (hb hby d1_55) rfl ?_
                  refine XS.lshr X209.here hx rfl (hb hby d1_56) rfl ?_
                  refine XS.l2i X209.here hx rfl (hb hby d1_57) rfl ?_
                  refine XS.i2b X209.here hx rfl (hb hby d1_58) rfl ?_
                  exact k)
                obtain ⟨T214, h214, ls214, X214, e214, N214, R214, st214⟩ := gBst X209 hx hZ e209 N209 R209 0 rfl (j := (5 : Int32)) (by decide) (5) rfl (show (5 : Nat) < 7 by decide) (g := (mkF m 59 #[.val (.long vx), .second, .val (.int (7 : Int32)), .val (.ref b184), .val (.int (5 : Int32))] [(.int (((lshr vx (8 : Int32)).toInt32).toInt8.toInt32)), (.int (5 : Int32)), (.ref b184)])) rfl rfl (hb hby d1_59)
                replace R214 : Rep Z n0 h214 ((b184, Ar .byte [(.int ((((lshr vx (48 : Int32)).toInt32).toInt8.toInt32).toInt8.toInt32)), (.int ((((lshr vx (40 : Int32)).toInt32).toInt8.toInt32).toInt8.toInt32)), (.int ((((lshr vx (32 : Int32)).toInt32).toInt8.toInt32).toInt8.toInt32)), (.int ((((lshr vx (24 : Int32)).toInt32).toInt8.toInt32).toInt8.toInt32)), (.int ((((lshr vx (16 : Int32)).toInt32).toInt8.toInt32).toInt8.toInt32)), (.int ((((lshr vx (8 : Int32)).toInt32).toInt8.toInt32).toInt8.toInt32)), (.int (0 : Int32))]) :: Rst) := R214
                have pre215 : ∀ t, Steps p.tables e below (T214.setTop (mkF m 60 #[.val (.long vx), .second, .val (.int (7 : Int32)), .val (.ref b184), .val (.int (5 : Int32))] [])) t → Steps p.tables e below (s₁.setTop (entryFrame m #[(.long vx)] 5)) t := fun t k => pre213 t (st214 t k)
                have pre217 : ∀ t, Steps p.tables e below (T214.setTop (mkF m 40 #[.val (.long vx), .second, .val (.int (7 : Int32)), .val (.ref b184), .val (.int (6 : Int32))] [(.int (7 : Int32)), (.int (6 : Int32))])) t → Steps p.tables e below (s₁.setTop (entryFrame m #[(.long vx)] 5)) t := fun t k => pre215 t (by
                  show Steps p.tables e below (T214.setTop (mkF m 60 #[.val (.long vx), .second, .val (.int (7 : Int32)), .val (.ref b184), .val (.int (5 : Int32))] [])) _
                  refine XS.iinc X214.here hx rfl (hb hby d1_60) rfl (l' := #[.val (.long vx), .second, .val (.int (7 : Int32)), .val (.ref b184), .val (.int (6 : Int32))]) rfl ?_
                  refine XS.goto X214.here hx rfl (pc0 := 63) (pc' := 37) rfl (hb hby d1_63) (by decide) (by decide) ?_
                  refine XS.iload X214.here hx rfl (hb hby d1_37) rfl ?_
                  refine XS.iloadN X214.here hx rfl (hb hby d1_39) rfl ?_
                  exact k)
                have hb216 : (6 : Int32) < (7 : Int32) := (by decide)
                have pre218 : ∀ t, Steps p.tables e below (T214.setTop (mkF m 59 #[.val (.long vx), .second, .val (.int (7 : Int32)), .val (.ref b184), .val (.int (6 : Int32))] [(.int (((lshr vx (0 : Int32)).toInt32).toInt8.toInt32)), (.int (6 : Int32)), (.ref b184)])) t → Steps p.tables e below (s₁.setTop (entryFrame m #[(.long vx)] 5)) t := fun t k => pre217 t (by
                  show Steps p.tables e below (T214.setTop (mkF m 40 #[.val (.long vx), .second, .val (.int (7 : Int32)), .val (.ref b184), .val (.int (6 : Int32))] [(.int (7 : Int32)), (.int (6 : Int32))])) _
                  refine XS.icmpNo X214.here hx rfl (hb hby d1_40) rfl (tlt hb216).2.1 ?_
                  refine XS.aloadN X214.here hx rfl (hb hby d1_43) rfl rfl ?_
                  refine XS.iload X214.here hx rfl (hb hby d1_44) rfl ?_
                  refine XS.lloadN X214.here hx rfl (hb hby d1_46) rfl ?_
                  refine XS.iloadN X214.here hx rfl (hb hby d1_47) rfl ?_
                  refine XS.iconst X214.here hx rfl (hb hby d1_48) ?_
                  refine XS.isub X214.here hx rfl (hb hby d1_49) rfl ?_
                  show Steps p.tables e below (T214.setTop (mkF m 50 #[.val (.long vx), .second, .val (.int (7 : Int32)), .val (.ref b184), .val (.int (6 : Int32))] [(.int (6 : Int32)), (.long vx), (.int (6 : Int32)), (.ref b184)])) _
                  refine XS.iload X214.here hx rfl (hb hby d1_50) rfl ?_
                  refine XS.isub X214.here hx rfl (hb hby d1_52) rfl ?_
                  refine XS.bipush X214.here hx rfl (hb hby d1_53) ?_
                  refine XS.imul X214.here hx rfl (hb hby d1_55) rfl ?_
                  refine XS.lshr X214.here hx rfl (hb hby d1_56) rfl ?_
                  refine XS.l2i X214.here hx rfl (hb hby d1_57) rfl ?_
                  refine XS.i2b X214.here hx rfl (hb hby d1_58) rfl ?_
                  exact k)
                obtain ⟨T219, h219, ls219, X219, e219, N219, R219, st219⟩ := gBst X214 hx hZ e214 N214 R214 0 rfl (j := (6 : Int32)) (by decide) (6) rfl (show (6 : Nat) < 7 by decide) (g := (mkF m 59 #[.val (.long vx), .second, .val (.int (7 : Int32)), .val (.ref b184), .val (.int (6 : Int32))] [(.int (((lshr vx (0 : Int32)).toInt32).toInt8.toInt32)), (.int (6 : Int32)), (.ref b184)])) rfl rfl (hb hby d1_59)
                replace R219 : Rep Z n0 h219 ((b184, Ar .byte [(.int ((((lshr vx (48 : Int32)).toInt32).toInt8.toInt32).toInt8.toInt32)), (.int ((((lshr vx (40 : Int32)).toInt32).toInt8.toInt32).toInt8.toInt32)), (.int ((((lshr vx (32 : Int32)).toInt32).toInt8.toInt32).toInt8.toInt32)), (.int ((((lshr vx (24 : Int32)).toInt32).toInt8.toInt32).toInt8.toInt32)), (.int ((((lshr vx (16 : Int32)).toInt32).toInt8.toInt32).toInt8.toInt32)), (.int ((((lshr vx (8 : Int32)).toInt32).toInt8.toInt32).toInt8.toInt32)), (.int ((((lshr vx (0 : Int32)).toInt32).toInt8.toInt32).toInt8.toInt32))]) :: Rst) := R219
                have pre220 : ∀ t, Steps p.tables e below (T219.setTop (mkF m 60 #[.val (.long vx), .second, .val (.int (7 : Int32)), .val (.ref b184), .val (.int (6 : Int32))] [])) t → Steps p.tables e below (s₁.setTop (entryFrame m #[(.long vx)] 5)) t := fun t k => pre218 t (st219 t k)
                have pre222 : ∀ t, Steps p.tables e below (T219.setTop (mkF m 40 #[.val (.long vx), .second, .val (.int (7 : Int32)), .val (.ref b184), .val (.int (7 : Int32))] [(.int (7 : Int32)), (.int (7 : Int32))])) t → Steps p.tables e below (s₁.setTop (entryFrame m #[(.long vx)] 5)) t := fun t k => pre220 t (by
                  show Steps p.tables e below (T219.setTop (mkF m 60 #[.val (.long vx), .second, .val (.int (7 : Int32)), .val (.ref b184), .val (.int (6 : Int32))] [])) _
                  refine XS.iinc X219.here hx rfl (hb hby d1_60) rfl (l' := #[.val (.long vx), .second, .val (.int (7 : Int32)), .val (.ref b184), .val (.int (7 : Int32))]) rfl ?_
                  refine XS.goto X219.here hx rfl (pc0 := 63) (pc' := 37) rfl (hb hby d1_63) (by decide) (by decide) ?_
                  refine XS.iload X219.here hx rfl (hb hby d1_37) rfl ?_
                  refine XS.iloadN X219.here hx rfl (hb hby d1_39) rfl ?_
                  exact k)
                have hb221 : ¬ ((7 : Int32) < (7 : Int32)) := (by decide)
                have pre223 : ∀ t, Steps p.tables e below (T219.setTop (mkF m 67 #[.val (.long vx), .second, .val (.int (7 : Int32)), .val (.ref b184), .val (.int (7 : Int32))] [(.ref b184)])) t → Steps p.tables e below (s₁.setTop (entryFrame m #[(.long vx)] 5)) t := fun t k => pre222 t (by
                  show Steps p.tables e below (T219.setTop (mkF m 40 #[.val (.long vx), .second, .val (.int (7 : Int32)), .val (.ref b184), .val (.int (7 : Int32))] [(.int (7 : Int32)), (.int (7 : Int32))])) _
                  refine XS.icmpYes X219.here hx rfl (pc0 := 40) (pc' := 66) rfl (hb hby d1_40) rfl (flt hb221).2.1 (by decide) (by decide) ?_
                  refine XS.aloadN X219.here hx rfl (hb hby d1_66) rfl rfl ?_
                  exact k)
                obtain ⟨fs, hr, hrun, hended, hW, hsame⟩ := X219.leave (v := some (.ref b184)) (fun h => by rw [Bd.returns] at h; cases h)
                refine ⟨_, _, pre223 _ ?_, hrun, hended, _, _, rfl, ?_, ⟨_, rfl⟩, hW, hsame.mono (by decide) (by decide)⟩
                · show Steps p.tables e below (T219.setTop (mkF m 67 #[.val (.long vx), .second, .val (.int (7 : Int32)), .val (.ref b184), .val (.int (7 : Int32))] [(.ref b184)])) _
                  exact Jvm.Own.retA X219 hx (t := (.array .byte)) rfl Bd.returns (hb hby d1_67) hr
                · show Q1 Z vx n0 Rst _ T219.heap _
                  rw [e219]
                  exact ⟨b184, rfl, N219, (by simp only [EB, if_neg hb4, if_neg hb21, if_neg hb43, if_neg hb70, if_neg hb102, if_neg hb139, if_pos hb181]; exact R219)⟩
              · have pre224 : ∀ t, Steps p.tables e below (s₁.setTop (mkF m 24 #[.val (.long vx), .second, .val (.int (7 : Int32)), .unset, .unset] [])) t → Steps p.tables e below (s₁.setTop (entryFrame m #[(.long vx)] 5)) t := fun t k => pre180 t (by show Steps p.tables e below (s₁.setTop (mkF m 21 #[.val (.long vx), .second, .val (.int (7 : Int32)), .unset, .unset] [(.int (XT.cmpL (lshr vx (55 : Int32)) (lshr vx (63 : Int32))))])) _; refine XS.ifNo X0.here hx rfl (hb hby d1_21) rfl (XT.ll_eq_f hb181) ?_; exact k)
                have pre226 : ∀ t, Steps p.tables e below (s₁.setTop (mkF m 5 #[.val (.long vx), .second, .val (.int (8 : Int32)), .unset, .unset] [(.int (8 : Int32)), (.int (8 : Int32))])) t → Steps p.tables e below (s₁.setTop (entryFrame m #[(.long vx)] 5)) t := fun t k => pre224 t (by
                  show Steps p.tables e below (s₁.setTop (mkF m 24 #[.val (.long vx), .second, .val (.int (7 : Int32)), .unset, .unset] [])) _
                  refine XS.iinc X0.here hx rfl (hb hby d1_24) rfl (l' := #[.val (.long vx), .second, .val (.int (8 : Int32)), .unset, .unset]) rfl ?_
                  refine XS.goto X0.here hx rfl (pc0 := 27) (pc' := 2) rfl (hb hby d1_27) (by decide) (by decide) ?_
                  refine XS.iloadN X0.here hx rfl (hb hby d1_2) rfl ?_
                  refine XS.bipush X0.here hx rfl (hb hby d1_3) ?_
                  exact k)
                have hb225 : ¬ ((8 : Int32) < (8 : Int32)) := (by decide)
                have pre227 : ∀ t, Steps p.tables e below (s₁.setTop (mkF m 31 #[.val (.long vx), .second, .val (.int (8 : Int32)), .unset, .unset] [(.int (8 : Int32))])) t → Steps p.tables e below (s₁.setTop (entryFrame m #[(.long vx)] 5)) t := fun t k => pre226 t (by
                  show Steps p.tables e below (s₁.setTop (mkF m 5 #[.val (.long vx), .second, .val (.int (8 : Int32)), .unset, .unset] [(.int (8 : Int32)), (.int (8 : Int32))])) _
                  refine XS.icmpYes X0.here hx rfl (pc0 := 5) (pc' := 30) rfl (hb hby d1_5) rfl (flt hb225).2.1 (by decide) (by decide) ?_
                  refine XS.iloadN X0.here hx rfl (hb hby d1_30) rfl ?_
                  exact k)
                obtain ⟨T228, h228, b228, X228, e228, R228, st228⟩ := gNewP X0 hx hZ (hw _ (List.mem_of_getElem? (i := 4) rfl)) e0 R0 (g := (mkF m 31 #[.val (.long vx), .second, .val (.int (8 : Int32)), .unset, .unset] [(.int (8 : Int32))])) rfl (hb hby d1_31) rfl (by decide) 8 (by decide) (by decide) (by decide) (by decide) (vs := [(.int (0 : Int32)), (.int (0 : Int32)), (.int (0 : Int32)), (.int (0 : Int32)), (.int (0 : Int32)), (.int (0 : Int32)), (.int (0 : Int32)), (.int (0 : Int32))]) rfl
                replace R228 : Rep Z n0 h228 ((b228, Ar .byte [(.int (0 : Int32)), (.int (0 : Int32)), (.int (0 : Int32)), (.int (0 : Int32)), (.int (0 : Int32)), (.int (0 : Int32)), (.int (0 : Int32)), (.int (0 : Int32))]) :: Rst) := R228
                have pre229 : ∀ t, Steps p.tables e below (T228.setTop (mkF m 33 #[.val (.long vx), .second, .val (.int (8 : Int32)), .unset, .unset] [(.ref b228)])) t → Steps p.tables e below (s₁.setTop (entryFrame m #[(.long vx)] 5)) t := fun t k => pre227 t (st228 t k)
                have pre231 : ∀ t, Steps p.tables e below (T228.setTop (mkF m 40 #[.val (.long vx), .second, .val (.int (8 : Int32)), .val (.ref b228), .val (.int (0 : Int32))] [(.int (8 : Int32)), (.int (0 : Int32))])) t → Steps p.tables e below (s₁.setTop (entryFrame m #[(.long vx)] 5)) t := fun t k => pre229 t (by
                  show Steps p.tables e below (T228.setTop (mkF m 33 #[.val (.long vx), .second, .val (.int (8 : Int32)), .unset, .unset] [(.ref b228)])) _
                  refine XS.astoreN X228.here hx rfl (hb hby d1_33) rfl rfl (l' := #[.val (.long vx), .second, .val (.int (8 : Int32)), .val (.ref b228), .unset]) rfl ?_
                  refine XS.iconst X228.here hx rfl (hb hby d1_34) ?_
                  refine XS.istore X228.here hx rfl (hb hby d1_35) rfl (l' := #[.val (.long vx), .second, .val (.int (8 : Int32)), .val (.ref b228), .val (.int (0 : Int32))]) rfl ?_
                  refine XS.iload X228.here hx rfl (hb hby d1_37) rfl ?_
                  refine XS.iloadN X228.here hx rfl (hb hby d1_39) rfl ?_
                  exact k)
                have hb230 : (0 : Int32) < (8 : Int32) := (by decide)
                have pre232 : ∀ t, Steps p.tables e below (T228.setTop (mkF m 59 #[.val (.long vx), .second, .val (.int (8 : Int32)), .val (.ref b228), .val (.int (0 : Int32))] [(.int (((lshr vx (56 : Int32)).toInt32).toInt8.toInt32)), (.int (0 : Int32)), (.ref b228)])) t → Steps p.tables e below (s₁.setTop (entryFrame m #[(.long vx)] 5)) t := fun t k => pre231 t (by
                  show Steps p.tables e below (T228.setTop (mkF m 40 #[.val (.long vx), .second, .val (.int (8 : Int32)), .val (.ref b228), .val (.int (0 : Int32))] [(.int (8 : Int32)), (.int (0 : Int32))])) _
                  refine XS.icmpNo X228.here hx rfl (hb hby d1_40) rfl (tlt hb230).2.1 ?_
                  refine XS.aloadN X228.here hx rfl (hb hby d1_43) rfl rfl ?_
                  refine XS.iload X228.here hx rfl (hb hby d1_44) rfl ?_
                  refine XS.lloadN X228.here hx rfl (hb hby d1_46) rfl ?_
                  refine XS.iloadN X228.here hx rfl (hb hby d1_47) rfl ?_
                  refine XS.iconst X228.here hx rfl (hb hby d1_48) ?_
                  refine XS.isub X228.here hx rfl (hb hby d1_49) rfl ?_
                  show Steps p.tables e below (T228.setTop (mkF m 50 #[.val (.long vx), .second, .val (.int (8 : Int32)), .val (.ref b228), .val (.int (0 : Int32))] [(.int (7 : Int32)), (.long vx), (.int (0 : Int32)), (.ref b228)])) _
                  refine XS.iload X228.here hx rfl (hb hby d1_50) rfl ?_
                  refine XS.isub X228.here hx rfl (hb hby d1_52) rfl ?_
                  refine XS.bipush X228.here hx rfl (hb hby d1_53) ?_
                  refine XS.imul X228.here hx rfl (hb hby d1_55) rfl ?_
                  refine XS.lshr X228.here hx rfl (hb hby d1_56) rfl ?_
                  refine XS.l2i X228.here hx rfl (hb hby d1_57) rfl ?_
                  refine XS.i2b X228.here hx rfl (hb hby d1_58) rfl ?_
                  exact k)
                obtain ⟨T233, h233, ls233, X233, e233, N233, R233, st233⟩ := gBst X228 hx hZ e228 N0 R228 0 rfl (j := (0 : Int32)) (by decide) (0) rfl (show (0 : Nat) < 8 by decide) (g := (mkF m 59 #[.val (.long vx), .second, .val (.int (8 : Int32)), .val (.ref b228), .val (.int (0 : Int32))] [(.int (((lshr vx (56 : Int32)).toInt32).toInt8.toInt32)), (.int (0 : Int32)), (.ref b228)])) rfl rfl (hb hby d1_59)
                replace R233 : Rep Z n0 h233 ((b228, Ar .byte [(.int ((((lshr vx (56 : Int32)).toInt32).toInt8.toInt32).toInt8.toInt32)), (.int (0 : Int32)), (.int (0 : Int32)), (.int (0 : Int32)), (.int (0 : Int32)), (.int (0 : Int32)), (.int (0 : Int32)), (.int (0 : Int32))]) :: Rst) := R233
                have pre234 : ∀ t, Steps p.tables e below (T233.setTop (mkF m 60 #[.val (.long vx), .second, .val (.int (8 : Int32)), .val (.ref b228), .val (.int (0 : Int32))] [])) t → Steps p.tables e below (s₁.setTop (entryFrame m #[(.long vx)] 5)) t := fun t k => pre232 t (st233 t k)
                have pre236 : ∀ t, Steps p.tables e below (T233.setTop (mkF m 40 #[.val (.long vx), .second, .val (.int (8 : Int32)), .val (.ref b228), .val (.int (1 : Int32))] [(.int (8 : Int32)), (.int (1 : Int32))])) t → Steps p.tables e below (s₁.setTop (entryFrame m #[(.long vx)] 5)) t := fun t k => pre234 t (by
                  show Steps p.tables e below (T233.setTop (mkF m 60 #[.val (.long vx), .second, .val (.int (8 : Int32)), .val (.ref b228), .val (.int (0 : Int32))] [])) _
                  refine XS.iinc X233.here hx rfl (hb hby d1_60) rfl (l' := #[.val (.long vx), .second, .val (.int (8 : Int32)), .val (.ref b228), .val (.int (1 : Int32))]) rfl ?_
                  refine XS.goto X233.here hx rfl (pc0 := 63) (pc' := 37) rfl (hb hby d1_63) (by decide) (by decide) ?_
                  refine XS.iload X233.here hx rfl (hb hby d1_37) rfl ?_
                  refine XS.iloadN X233.here hx rfl (hb hby d1_39) rfl ?_
                  exact k)
                have hb235 : (1 : Int32) < (8 : Int32) := (by decide)
                have pre237 : ∀ t, Steps p.tables e below (T233.setTop (mkF m 59 #[.val (.long vx), .second, .val (.int (8 : Int32)), .val (.ref b228), .val (.int (1 : Int32))] [(.int (((lshr vx (48 : Int32)).toInt32).toInt8.toInt32)), (.int (1 : Int32)), (.ref b228)])) t → Steps p.tables e below (s₁.setTop (entryFrame m #[(.long vx)] 5)) t := fun t k => pre236 t (by
                  show Steps p.tables e below (T233.setTop (mkF m 40 #[.val (.long vx), .second, .val (.int (8 : Int32)), .val (.ref b228), .val (.int (1 : Int32))] [(.int (8 : Int32)), (.int (1 : Int32))])) _
                  refine XS.icmpNo X233.here hx rfl (hb hby d1_40) rfl (tlt hb235).2.1 ?_
                  refine XS.aloadN X233.here hx rfl (hb hby d1_43) rfl rfl ?_
                  refine XS.iload X233.here hx rfl (hb hby d1_44) rfl ?_
                  refine XS.lloadN X233.here hx rfl (hb hby d1_46) rfl ?_
                  refine XS.iloadN X233.here hx rfl (hb hby d1_47) rfl ?_
                  refine XS.iconst X233.here hx rfl (hb hby d1_48) ?_
                  refine XS.isub X233.here hx rfl (hb hby d1_49) rfl ?_
                  show Steps p.tables e below (T233.setTop (mkF m 50 #[.val (.long vx), .second, .val (.int (8 : Int32)), .val (.ref b228), .val (.int (1 : Int32))] [(.int (7 : Int32)), (.long vx), (.int (1 : Int32)), (.ref b228)])) _
                  refine XS.iload X233.here hx rfl (hb hby d1_50) rfl ?_
                  refine XS.isub X233.here hx rfl (hb hby d1_52) rfl ?_
                  refine XS.bipush X233.here hx rfl (hb hby d1_53) ?_
                  refine XS.imul X233.here hx rfl (hb hby d1_55) rfl ?_
                  refine XS.lshr X233.here hx rfl (hb hby d1_56) rfl ?_
                  refine XS.l2i X233.here hx rfl (hb hby d1_57) rfl ?_
                  refine XS.i2b X233.here hx rfl (hb hby d1_58) rfl ?_
                  exact k)
                obtain ⟨T238, h238, ls238, X238, e238, N238, R238, st238⟩ := gBst X233 hx hZ e233 N233 R233 0 rfl (j := (1 : Int32)) (by decide) (1) rfl (show (1 : Nat) < 8 by decide) (g := (mkF m 59 #[.val (.long vx), .second, .val (.int (8 : Int32)), .val (.ref b228), .val (.int (1 : Int32))] [(.int (((lshr vx (48 : Int32)).toInt32).toInt8.toInt32)), (.int (1 : Int32)), (.ref b228)])) rfl rfl (hb hby d1_59)
                replace R238 : Rep Z n0 h238 ((b228, Ar .byte [(.int ((((lshr vx (56 : Int32)).toInt32).toInt8.toInt32).toInt8.toInt32)), (.int ((((lshr vx (48 : Int32)).toInt32).toInt8.toInt32).toInt8.toInt32)), (.int (0 : Int32)), (.int (0 : Int32)), (.int (0 : Int32)), (.int (0 : Int32)), (.int (0 : Int32)), (.int (0 : Int32))]) :: Rst) := R238
                have pre239 : ∀ t, Steps p.tables e below (T238.setTop (mkF m 60 #[.val (.long vx), .second, .val (.int (8 : Int32)), .val (.ref b228), .val (.int (1 : Int32))] [])) t → Steps p.tables e below (s₁.setTop (entryFrame m #[(.long vx)] 5)) t := fun t k => pre237 t (st238 t k)
                have pre241 : ∀ t, Steps p.tables e below (T238.setTop (mkF m 40 #[.val (.long vx), .second, .val (.int (8 : Int32)), .val (.ref b228), .val (.int (2 : Int32))] [(.int (8 : Int32)), (.int (2 : Int32))])) t → Steps p.tables e below (s₁.setTop (entryFrame m #[(.long vx)] 5)) t := fun t k => pre239 t (by
                  show Steps p.tables e below (T238.setTop (mkF m 60 #[.val (.long vx), .second, .val (.int (8 : Int32)), .val (.ref b228), .val (.int (1 : Int32))] [])) _
                  refine XS.iinc X238.here hx rfl (hb hby d1_60) rfl (l' := #[.val (.long vx), .second, .val (.int (8 : Int32)), .val (.ref b228), .val (.int (2 : Int32))]) rfl ?_
                  refine XS.goto X238.here hx rfl (pc0 := 63) (pc' := 37) rfl (hb hby d1_63) (by decide) (by decide) ?_
                  refine XS.iload X238.here hx rfl (hb hby d1_37) rfl ?_
                  refine XS.iloadN X238.here hx rfl (hb hby d1_39) rfl ?_
                  exact k)
                have hb240 : (2 : Int32) < (8 : Int32) := (by decide)
                have pre242 : ∀ t, Steps p.tables e below (T238.setTop (mkF m 59 #[.val (.long vx), .second, .val (.int (8 : Int32)), .val (.ref b228), .val (.int (2 : Int32))] [(.int (((lshr vx (40 : Int32)).toInt32).toInt8.toInt32)), (.int (2 : Int32)), (.ref b228)])) t → Steps p.tables e below (s₁.setTop (entryFrame m #[(.long vx)] 5)) t := fun t k => pre241 t (by
                  show Steps p.tables e below (T238.setTop (mkF m 40 #[.val (.long vx), .second, .val (.int (8 : Int32)), .val (.ref b228), .val (.int (2 : Int32))] [(.int (8 : Int32)), (.int (2 : Int32))])) _
                  refine XS.icmpNo X238.here hx rfl (hb hby d1_40) rfl (tlt hb240).2.1 ?_
                  refine XS.aloadN X238.here hx rfl (hb hby d1_43) rfl rfl ?_
                  refine XS.iload X238.here hx rfl (hb hby d1_44) rfl ?_
                  refine XS.lloadN X238.here hx rfl (hb hby d1_46) rfl ?_
                  refine XS.iloadN X238.here hx rfl (hb hby d1_47) rfl ?_
                  refine XS.iconst X238.here hx rfl (hb hby d1_48) ?_
                  refine XS.isub X238.here hx rfl (hb hby d1_49) rfl ?_
                  show Steps p.tables e below (T238.setTop (mkF m 50 #[.val (.long vx), .second, .val (.int (8 : Int32)), .val (.ref b228), .val (.int (2 : Int32))] [(.int (7 : Int32)), (.long vx), (.int (2 : Int32)), (.ref b228)])) _
                  refine XS.iload X238.here hx rfl (hb hby d1_50) rfl ?_
                  refine XS.isub X238.here hx rfl (hb hby d1_52) rfl ?_
                  refine XS.bipush X238.here hx rfl (hb hby d1_53) ?_
                  refine XS.imul X238.here hx rfl (hb hby d1_55) rfl ?_
                  refine XS.lshr X238.here hx rfl (hb hby d1_56) rfl ?_
                  refine XS.l2i X238.here hx rfl (hb hby d1_57) rfl ?_
                  refine XS.i2b X238.here hx rfl (hb hby d1_58) rfl ?_
                  exact k)
                obtain ⟨T243, h243, ls243, X243, e243, N243, R243, st243⟩ := gBst X238 hx hZ e238 N238 R238 0 rfl (j := (2 : Int32)) (by decide) (2) rfl (show (2 : Nat) < 8 by decide) (g := (mkF m 59 #[.val (.long vx), .second, .val (.int (8 : Int32)), .val (.ref b228), .val (.int (2 : Int32))] [(.int (((lshr vx (40 : Int32)).toInt32).toInt8.toInt32)), (.int (2 : Int32)), (.ref b228)])) rfl rfl (hb hby d1_59)
                replace R243 : Rep Z n0 h243 ((b228, Ar .byte [(.int ((((lshr vx (56 : Int32)).toInt32).toInt8.toInt32).toInt8.toInt32)), (.int ((((lshr vx (48 : Int32)).toInt32).toInt8.toInt32).toInt8.toInt32)), (.int ((((lshr vx (40 : Int32)).toInt32).toInt8.toInt32).toInt8.toInt32)), (.int (0 : Int32)), (.int (0 : Int32)), (.int (0 : Int32)), (.int (0 : Int32)), (.int (0 : Int32))]) :: Rst) := R243
                have pre244 : ∀ t, Steps p.tables e below (T243.setTop (mkF m 60 #[.val (.long vx), .second, .val (.int (8 : Int32)), .val (.ref b228), .val (.int (2 : Int32))] [])) t → Steps p.tables e below (s₁.setTop (entryFrame m #[(.long vx)] 5)) t := fun t k => pre242 t (st243 t k)
                have pre246 : ∀ t, Steps p.tables e below (T243.setTop (mkF m 40 #[.val (.long vx), .second, .val (.int (8 : Int32)), .val (.ref b228), .val (.int (3 : Int32))] [(.int (8 : Int32)), (.int (3 : Int32))])) t → Steps p.tables e below (s₁.setTop (entryFrame m #[(.long vx)] 5)) t := fun t k => pre244 t (by
                  show Steps p.tables e below (T243.setTop (mkF m 60 #[.val (.long vx), .second, .val (.int (8 : Int32)), .val (.ref b228), .val (.int (2 : Int32))] [])) _
                  refine XS.iinc X243.here hx rfl (hb hby d1_60) rfl (l' := #[.val (.long vx), .second, .val (.int (8 : Int32)), .val (.ref b228), .val (.int (3 : Int32))]) rfl ?_
                  refine XS.goto X243.here hx rfl (pc0 := 63) (pc' := 37) rfl (hb hby d1_63) (by decide) (by decide) ?_
                  refine XS.iload X243.here hx rfl (hb hby d1_37) rfl ?_
                  refine XS.iloadN X243.here hx rfl (hb hby d1_39) rfl ?_
                  exact k)
                have hb245 : (3 : Int32) < (8 : Int32) := (by decide)
                have pre247 : ∀ t, Steps p.tables e below (T243.setTop (mkF m 59 #[.val (.long vx), .second, .val (.int (8 : Int32)), .val (.ref b228), .val (.int (3 : Int32))] [(.int (((lshr vx (32 : Int32)).toInt32).toInt8.toInt32)), (.int (3 : Int32)), (.ref b228)])) t → Steps p.tables e below (s₁.setTop (entryFrame m #[(.long vx)] 5)) t := fun t k => pre246 t (by
                  show Steps p.tables e below (T243.setTop (mkF m 40 #[.val (.long vx), .second, .val (.int (8 : Int32)), .val (.ref b228), .val (.int (3 : Int32))] [(.int (8 : Int32)), (.int (3 : Int32))])) _
                  refine XS.icmpNo X243.here hx rfl (hb hby d1_40) rfl (tlt hb245).2.1 ?_
                  refine XS.aloadN X243.here hx rfl (hb hby d1_43) rfl rfl ?_
                  refine XS.iload X243.here hx rfl (hb hby d1_44) rfl ?_
                  refine XS.lloadN X243.here hx rfl (hb hby d1_46) rfl ?_
                  refine XS.iloadN X243.here hx rfl (hb hby d1_47) rfl ?_
                  refine XS.iconst X243.here hx rfl (hb hby d1_48) ?_
                  refine XS.isub X243.here hx rfl (hb hby d1_49) rfl ?_
                  show Steps p.tables e below (T243.setTop (mkF m 50 #[.val (.long vx), .second, .val (.int (8 : Int32)), .val (.ref b228), .val (.int (3 : Int32))] [(.int (7 : Int32)), (.long vx), (.int (3 : Int32)), (.ref b228)])) _
                  refine XS.iload X243.here hx rfl (hb hby d1_50) rfl ?_
                  refine XS.isub X243.here hx rfl (hb hby d1_52) rfl ?_
                  refine XS.bipush X243.here hx rfl (hb hby d1_53) ?_
                  refine XS.imul X243.here hx rfl (hb hby d1_55) rfl ?_
                  refine XS.lshr X243.here hx rfl (hb hby d1_56) rfl ?_
                  refine XS.l2i X243.here hx rfl (hb hby d1_57) rfl ?_
                  refine XS.i2b X243.here hx rfl (hb hby d1_58) rfl ?_
                  exact k)
                obtain ⟨T248, h248, ls248, X248, e248, N248, R248, st248⟩ := gBst X243 hx hZ e243 N243 R243 0 rfl (j := (3 : Int32)) (by decide) (3) rfl (show (3 : Nat) < 8 by decide) (g := (mkF m 59 #[.val (.long vx), .second, .val (.int (8 : Int32)), .val (.ref b228), .val (.int (3 : Int32))] [(.int (((lshr vx (32 : Int32)).toInt32).toInt8.toInt32)), (.int (3 : Int32)), (.ref b228)])) rfl rfl (hb hby d1_59)
                replace R248 : Rep Z n0 h248 ((b228, Ar .byte [(.int ((((lshr vx (56 : Int32)).toInt32).toInt8.toInt32).toInt8.toInt32)), (.int ((((lshr vx (48 : Int32)).toInt32).toInt8.toInt32).toInt8.toInt32)), (.int ((((lshr vx (40 : Int32)).toInt32).toInt8.toInt32).toInt8.toInt32)), (.int ((((lshr vx (32 : Int32)).toInt32).toInt8.toInt32).toInt8.toInt32)), (.int (0 : Int32)), (.int (0 : Int32)), (.int (0 : Int32)), (.int (0 : Int32))]) :: Rst) := R248
                have pre249 : ∀ t, Steps p.tables e below (T248.setTop (mkF m 60 #[.val (.long vx), .second, .val (.int (8 : Int32)), .val (.ref b228), .val (.int (3 : Int32))] [])) t → Steps p.tables e below (s₁.setTop (entryFrame m #[(.long vx)] 5)) t := fun t k => pre247 t (st248 t k)
                have pre251 : ∀ t, Steps p.tables e below (T248.setTop (mkF m 40 #[.val (.long vx), .second, .val (.int (8 : Int32)), .val (.ref b228), .val (.int (4 : Int32))] [(.int (8 : Int32)), (.int (4 : Int32))])) t → Steps p.tables e below (s₁.setTop (entryFrame m #[(.long vx)] 5)) t := fun t k => pre249 t (by
                  show Steps p.tables e below (T248.setTop (mkF m 60 #[.val (.long vx), .second, .val (.int (8 : Int32)), .val (.ref b228), .val (.int (3 : Int32))] [])) _
                  refine XS.iinc X248.here hx rfl (hb hby d1_60) rfl (l' := #[.val (.long vx), .second, .val (.int (8 : Int32)), .val (.ref b228), .val (.int (4 : Int32))]) rfl ?_
                  refine XS.goto X248.here hx rfl (pc0 := 63) (pc' := 37) rfl (hb hby d1_63) (by decide) (by decide) ?_
                  refine XS.iload X248.here hx rfl (hb hby d1_37) rfl ?_
                  refine XS.iloadN X248.here hx rfl (hb hby d1_39) rfl ?_
                  exact k)
                have hb250 : (4 : Int32) < (8 : Int32) := (by decide)
                have pre252 : ∀ t, Steps p.tables e below (T248.setTop (mkF m 59 #[.val (.long vx), .second, .val (.int (8 : Int32)), .val (.ref b228), .val (.int (4 : Int32))] [(.int (((lshr vx (24 : Int32)).toInt32).toInt8.toInt32)), (.int (4 : Int32)), (.ref b228)])) t → Steps p.tables e below (s₁.setTop (entryFrame m #[(.long vx)] 5)) t := fun t k => pre251 t (by
                  show Steps p.tables e below (T248.setTop (mkF m 40 #[.val (.long vx), .second, .val (.int (8 : Int32)), .val (.ref b228), .val (.int (4 : Int32))] [(.int (8 : Int32)), (.int (4 : Int32))])) _
                  refine XS.icmpNo X248.here hx rfl (hb hby d1_40) rfl (tlt hb250).2.1 ?_
                  refine XS.aloadN X248.here hx rfl (hb hby d1_43) rfl rfl ?_
                  refine XS.iload X248.here hx rfl (hb hby d1_44) rfl ?_
                  refine XS.lloadN X248.here hx rfl (hb hby d1_46) rfl ?_
                  refine XS.iloadN X248.here hx rfl (hb hby d1_47) rfl ?_
                  refine XS.iconst X248.here hx rfl (hb hby d1_48) ?_
                  refine XS.isub X248.here hx rfl (hb hby d1_49) rfl ?_
                  show Steps p.tables e below (T248.setTop (mkF m 50 #[.val (.long vx), .second, .val (.int (8 : Int32)), .val (.ref b228), .val (.int (4 : Int32))] [(.int (7 : Int32)), (.long vx), (.int (4 : Int32)), (.ref b228)])) _
                  refine XS.iload X248.here hx rfl (hb hby d1_50) rfl ?_
                  refine XS.isub X248.here hx rfl (hb hby d1_52) rfl ?_
                  refine XS.bipush X248.here hx rfl (hb hby d1_53) ?_
                  refine XS.imul X248.here hx rfl (hb hby d1_55) rfl ?_
                  refine XS.lshr X248.here hx rfl (hb hby d1_56) rfl ?_
                  refine XS.l2i X248.here hx rfl (hb hby d1_57) rfl ?_
                  refine XS.i2b X248.here hx rfl (hb hby d1_58) rfl ?_
                  exact k)
                obtain ⟨T253, h253, ls253, X253, e253, N253, R253, st253⟩ := gBst X248 hx hZ e248 N248 R248 0 rfl (j := (4 : Int32)) (by decide) (4) rfl (show (4 : Nat) < 8 by decide) (g := (mkF m 59 #[.val (.long vx), .second, .val (.int (8 : Int32)), .val (.ref b228), .val (.int (4 : Int32))] [(.int (((lshr vx (24 : Int32)).toInt32).toInt8.toInt32)), (.int (4 : Int32)), (.ref b228)])) rfl rfl (hb hby d1_59)
                replace R253 : Rep Z n0 h253 ((b228, Ar .byte [(.int ((((lshr vx (56 : Int32)).toInt32).toInt8.toInt32).toInt8.toInt32)), (.int ((((lshr vx (48 : Int32)).toInt32).toInt8.toInt32).toInt8.toInt32)), (.int ((((lshr vx (40 : Int32)).toInt32).toInt8.toInt32).toInt8.toInt32)), (.int ((((lshr vx (32 : Int32)).toInt32).toInt8.toInt32).toInt8.toInt32)), (.int ((((lshr vx (24 : Int32)).toInt32).toInt8.toInt32).toInt8.toInt32)), (.int (0 : Int32)), (.int (0 : Int32)), (.int (0 : Int32))]) :: Rst) := R253
                have pre254 : ∀ t, Steps p.tables e below (T253.setTop (mkF m 60 #[.val (.long vx), .second, .val (.int (8 : Int32)), .val (.ref b228), .val (.int (4 : Int32))] [])) t → Steps p.tables e below (s₁.setTop (entryFrame m #[(.long vx)] 5)) t := fun t k => pre252 t (st253 t k)
                have pre256 : ∀ t, Steps p.tables e below (T253.setTop (mkF m 40 #[.val (.long vx), .second, .val (.int (8 : Int32)), .val (.ref b228), .val (.int (5 : Int32))] [(.int (8 : Int32)), (.int (5 : Int32))])) t → Steps p.tables e below (s₁.setTop (entryFrame m #[(.long vx)] 5)) t := fun t k => pre254 t (by
                  show Steps p.tables e below (T253.setTop (mkF m 60 #[.val (.long vx), .second, .val (.int (8 : Int32)), .val (.ref b228), .val (.int (4 : Int32))] [])) _
                  refine XS.iinc X253.here hx rfl (hb hby d1_60) rfl (l' := #[.val (.long vx), .second, .val (.int (8 : Int32)), .val (.ref b228), .val (.int (5 : Int32))]) rfl ?_
                  refine XS.goto X253.here hx rfl (pc0 := 63) (pc' := 37) rfl (hb hby d1_63) (by decide) (by decide) ?_
                  refine XS.iload X253.here hx rfl (hb hby d1_37) rfl ?_
                  refine XS.iloadN X253.here hx rfl (hb hby d1_39) rfl ?_
                  exact k)
                have hb255 : (5 : Int32) < (8 : Int32) := (by decide)
                have pre257 : ∀ t, Steps p.tables e below (T253.setTop (mkF m 59 #[.val (.long vx), .second, .val (.int (8 : Int32)), .val (.ref b228), .val (.int (5 : Int32))] [(.int (((lshr vx (16 : Int32)).toInt32).toInt8.toInt32)), (.int (5 : Int32)), (.ref b228)])) t → Steps p.tables e below (s₁.setTop (entryFrame m #[(.long vx)] 5)) t := fun t k => pre256 t (by
                  show Steps p.tables e below (T253.setTop (mkF m 40 #[.val (.long vx), .second, .val (.int (8 : Int32)), .val (.ref b228), .val (.int (5 : Int32))] [(.int (8 : Int32)), (.int (5 : Int32))])) _
                  refine XS.icmpNo X253.here hx rfl (hb hby d1_40) rfl (tlt hb255).2.1 ?_
                  refine XS.aloadN X253.here hx rfl (hb hby d1_43) rfl rfl ?_
                  refine XS.iload X253.here hx rfl (hb hby d1_44) rfl ?_
                  refine XS.lloadN X253.here hx rfl (hb hby d1_46) rfl ?_
                  refine XS.iloadN X253.here hx rfl (hb hby d1_47) rfl ?_
                  refine XS.iconst X253.here hx rfl (hb hby d1_48) ?_
                  refine XS.isub X253.here hx rfl (hb hby d1_49) rfl ?_
                  show Steps p.tables e below (T253.setTop (mkF m 50 #[.val (.long vx), .second, .val (.int (8 : Int32)), .val (.ref b228), .val (.int (5 : Int32))] [(.int (7 : Int32)), (.long vx), (.int (5 : Int32)), (.ref b228)])) _
                  refine XS.iload X253.here hx rfl (hb hby d1_50) rfl ?_
                  refine XS.isub X253.here hx rfl (hb hby d1_52) rfl ?_
                  refine XS.bipush X253.here hx rfl (hb hby d1_53) ?_
                  refine XS.imul X253.here hx rfl (hb hby d1_55) rfl ?_
                  refine XS.lshr X253.here hx rfl (hb hby d1_56) rfl ?_
                  refine XS.l2i X253.here hx rfl (hb hby d1_57) rfl ?_
                  refine XS.i2b X253.here hx rfl (hb hby d1_58) rfl ?_
                  exact k)
                obtain ⟨T258, h258, ls258, X258, e258, N258, R258, st258⟩ := gBst X253 hx hZ e253 N253 R253 0 rfl (j := (5 : Int32)) (by decide) (5) rfl (show (5 : Nat) < 8 by decide) (g := (mkF m 59 #[.val (.long vx), .second, .val (.int (8 : Int32)), .val (.ref b228), .val (.int (5 : Int32))] [(.int (((lshr vx (16 : Int32)).toInt32).toInt8.toInt32)), (.int (5 : Int32)), (.ref b228)])) rfl rfl (hb hby d1_59)
                replace R258 : Rep Z n0 h258 ((b228, Ar .byte [(.int ((((lshr vx (56 : Int32)).toInt32).toInt8.toInt32).toInt8.toInt32)), (.int ((((lshr vx (48 : Int32)).toInt32).toInt8.toInt32).toInt8.toInt32)), (.int ((((lshr vx (40 : Int32)).toInt32).toInt8.toInt32).toInt8.toInt32)), (.int ((((lshr vx (32 : Int32)).toInt32).toInt8.toInt32).toInt8.toInt32)), (.int ((((lshr vx (24 : Int32)).toInt32).toInt8.toInt32).toInt8.toInt32)), (.int ((((lshr vx (16 : Int32)).toInt32).toInt8.toInt32).toInt8.toInt32)), (.int (0 : Int32)), (.int (0 : Int32))]) :: Rst) := R258
                have pre259 : ∀ t, Steps p.tables e below (T258.setTop (mkF m 60 #[.val (.long vx), .second, .val (.int (8 : Int32)), .val (.ref b228), .val (.int (5 : Int32))] [])) t → Steps p.tables e below (s₁.setTop (entryFrame m #[(.long vx)] 5)) t := fun t k => pre257 t (st258 t k)
                have pre261 : ∀ t, Steps p.tables e below (T258.setTop (mkF m 40 #[.val (.long vx), .second, .val (.int (8 : Int32)), .val (.ref b228), .val (.int (6 : Int32))] [(.int (8 : Int32)), (.int (6 : Int32))])) t → Steps p.tables e below (s₁.setTop (entryFrame m #[(.long vx)] 5)) t := fun t k => pre259 t (by
                  show Steps p.tables e below (T258.setTop (mkF m 60 #[.val (.long vx), .second, .val (.int (8 : Int32)), .val (.ref b228), .val (.int (5 : Int32))] [])) _
                  refine XS.iinc X258.here hx rfl (hb hby d1_60) rfl (l' := #[.val (.long vx), .second, .val (.int (8 : Int32)), .val (.ref b228), .val (.int (6 : Int32))]) rfl ?_
                  refine XS.goto X258.here hx rfl (pc0 := 63) (pc' := 37) rfl (hb hby d1_63) (by decide) (by decide) ?_
                  refine XS.iload X258.here hx rfl (hb hby d1_37) rfl ?_
                  refine XS.iloadN X258.here hx rfl (hb hby d1_39) rfl ?_
                  exact k)
                have hb260 : (6 : Int32) < (8 : Int32) := (by decide)
                have pre262 : ∀ t, Steps p.tables e below (T258.setTop (mkF m 59 #[.val (.long vx), .second, .val (.int (8 : Int32)), .val (.ref b228), .val (.int (6 : Int32))] [(.int (((lshr vx (8 : Int32)).toInt32).toInt8.toInt32)), (.int (6 : Int32)), (.ref b228)])) t → Steps p.tables e below (s₁.setTop (entryFrame m #[(.long vx)] 5)) t := fun t k => pre261 t (by
                  show Steps p.tables e below (T258.setTop (mkF m 40 #[.val (.long vx), .second, .val (.int (8 : Int32)), .val (.ref b228), .val (.int (6 : Int32))] [(.int (8 : Int32)), (.int (6 : Int32))])) _
                  refine XS.icmpNo X258.here hx rfl (hb hby d1_40) rfl (tlt hb260).2.1 ?_
                  refine XS.aloadN X258.here hx rfl (hb hby d1_43) rfl rfl ?_
                  refine XS.iload X258.here hx rfl (hb hby d1_44) rfl ?_
                  refine XS.lloadN X258.here hx rfl (hb hby d1_46) rfl ?_
                  refine XS.iloadN X258.here hx rfl (hb hby d1_47) rfl ?_
                  refine XS.iconst X258.here hx rfl (hb hby d1_48) ?_
                  refine XS.isub X258.here hx rfl (hb hby d1_49) rfl ?_
                  show Steps p.tables e below (T258.setTop (mkF m 50 #[.val (.long vx), .second, .val (.int (8 : Int32)), .val (.ref b228), .val (.int (6 : Int32))] [(.int (7 : Int32)), (.long vx), (.int (6 : Int32)), (.ref b228)])) _
                  refine XS.iload X258.here hx rfl (hb hby d1_50) rfl ?_
                  refine XS.isub X258.here hx rfl (hb hby d1_52) rfl ?_
                  refine XS.bipush X258.here hx rfl (hb hby d1_53) ?_
                  refine XS.imul X258.here hx rfl (hb hby d1_55) rfl ?_
                  refine XS.lshr X258.here hx rfl (hb hby d1_56) rfl ?_
                  refine XS.l2i X258.here hx rfl (hb hby d1_57) rfl ?_
                  refine XS.i2b X258.here hx rfl (hb hby d1_58) rfl ?_
                  exact k)
                obtain ⟨T263, h263, ls263, X263, e263, N263, R263, st263⟩ := gBst X258 hx hZ e258 N258 R258 0 rfl (j := (6 : Int32)) (by decide) (6) rfl (show (6 : Nat) < 8 by decide) (g := (mkF m 59 #[.val (.long vx), .second, .val (.int (8 : Int32)), .val (.ref b228), .val (.int (6 : Int32))] [(.int (((lshr vx (8 : Int32)).toInt32).toInt8.toInt32)), (.int (6 : Int32)), (.ref b228)])) rfl rfl (hb hby d1_59)
                replace R263 : Rep Z n0 h263 ((b228, Ar .byte [(.int ((((lshr vx (56 : Int32)).toInt32).toInt8.toInt32).toInt8.toInt32)), (.int ((((lshr vx (48 : Int32)).toInt32).toInt8.toInt32).toInt8.toInt32)), (.int ((((lshr vx (40 : Int32)).toInt32).toInt8.toInt32).toInt8.toInt32)), (.int ((((lshr vx (32 : Int32)).toInt32).toInt8.toInt32).toInt8.toInt32)), (.int ((((lshr vx (24 : Int32)).toInt32).toInt8.toInt32).toInt8.toInt32)), (.int ((((lshr vx (16 : Int32)).toInt32).toInt8.toInt32).toInt8.toInt32)), (.int ((((lshr vx (8 : Int32)).toInt32).toInt8.toInt32).toInt8.toInt32)), (.int (0 : Int32))]) :: Rst) := R263
                have pre264 : ∀ t, Steps p.tables e below (T263.setTop (mkF m 60 #[.val (.long vx), .second, .val (.int (8 : Int32)), .val (.ref b228), .val (.int (6 : Int32))] [])) t → Steps p.tables e below (s₁.setTop (entryFrame m #[(.long vx)] 5)) t := fun t k => pre262 t (st263 t k)
                have pre266 : ∀ t, Steps p.tables e below (T263.setTop (mkF m 40 #[.val (.long vx), .second, .val (.int (8 : Int32)), .val (.ref b228), .val (.int (7 : Int32))] [(.int (8 : Int32)), (.int (7 : Int32))])) t → Steps p.tables e below (s₁.setTop (entryFrame m #[(.long vx)] 5)) t := fun t k => pre264 t (by
                  show Steps p.tables e below (T263.setTop (mkF m 60 #[.val (.long vx), .second, .val (.int (8 : Int32)), .val (.ref b228), .val (.int (6 : Int32))] [])) _
                  refine XS.iinc X263.here hx rfl (hb hby d1_60) rfl (l' := #[.val (.long vx), .second, .val (.int (8 : Int32)), .val (.ref b228), .val (.int (7 : Int32))]) rfl ?_
                  refine XS.goto X263.here hx rfl (pc0 := 63) (pc' := 37) rfl (hb hby d1_63) (by decide) (by decide) ?_
                  refine XS.iload X263.here hx rfl (hb hby d1_37) rfl ?_
                  refine XS.iloadN X263.here hx rfl (hb hby d1_39) rfl ?_
                  exact k)
                have hb265 : (7 : Int32) < (8 : Int32) := (by decide)
                have pre267 : ∀ t, Steps p.tables e below (T263.setTop (mkF m 59 #[.val (.long vx), .second, .val (.int (8 : Int32)), .val (.ref b228), .val (.int (7 : Int32))] [(.int (((lshr vx (0 : Int32)).toInt32).toInt8.toInt32)), (.int (7 : Int32)), (.ref b228)])) t → Steps p.tables e below (s₁.setTop (entryFrame m #[(.long vx)] 5)) t := fun t k => pre266 t (by
                  show Steps p.tables e below (T263.setTop (mkF m 40 #[.val (.long vx), .second, .val (.int (8 : Int32)), .val (.ref b228), .val (.int (7 : Int32))] [(.int (8 : Int32)), (.int (7 : Int32))])) _
                  refine XS.icmpNo X263.here hx rfl (hb hby d1_40) rfl (tlt hb265).2.1 ?_
                  refine XS.aloadN X263.here hx rfl (hb hby d1_43) rfl rfl ?_
                  refine XS.iload X263.here hx rfl (hb hby d1_44) rfl ?_
                  refine XS.lloadN X263.here hx rfl (hb hby d1_46) rfl ?_
                  refine XS.iloadN X263.here hx rfl (hb hby d1_47) rfl ?_
                  refine XS.iconst X263.here hx rfl (hb hby d1_48) ?_
                  refine XS.isub X263.here hx rfl (hb hby d1_49) rfl ?_
                  show Steps p.tables e below (T263.setTop (mkF m 50 #[.val (.long vx), .second, .val (.int (8 : Int32)), .val (.ref b228), .val (.int (7 : Int32))] [(.int (7 : Int32)), (.long vx), (.int (7 : Int32)), (.ref b228)])) _
                  refine XS.iload X263.here hx rfl (hb hby d1_50) rfl ?_
                  refine XS.isub X263.here hx rfl (hb hby d1_52) rfl ?_
                  refine XS.bipush X263.here hx rfl (hb hby d1_53) ?_
                  refine XS.imul X263.here hx rfl (hb hby d1_55) rfl ?_
                  refine XS.lshr X263.here hx rfl (hb hby d1_56) rfl ?_
                  refine XS.l2i X263.here hx rfl (hb hby d1_57) rfl ?_
                  refine XS.i2b X263.here hx rfl (hb hby d1_58) rfl ?_
                  exact k)
                obtain ⟨T268, h268, ls268, X268, e268, N268, R268, st268⟩ := gBst X263 hx hZ e263 N263 R263 0 rfl (j := (7 : Int32)) (by decide) (7) rfl (show (7 : Nat) < 8 by decide) (g := (mkF m 59 #[.val (.long vx), .second, .val (.int (8 : Int32)), .val (.ref b228), .val (.int (7 : Int32))] [(.int (((lshr vx (0 : Int32)).toInt32).toInt8.toInt32)), (.int (7 : Int32)), (.ref b228)])) rfl rfl (hb hby d1_59)
                replace R268 : Rep Z n0 h268 ((b228, Ar .byte [(.int ((((lshr vx (56 : Int32)).toInt32).toInt8.toInt32).toInt8.toInt32)), (.int ((((lshr vx (48 : Int32)).toInt32).toInt8.toInt32).toInt8.toInt32)), (.int ((((lshr vx (40 : Int32)).toInt32).toInt8.toInt32).toInt8.toInt32)), (.int ((((lshr vx (32 : Int32)).toInt32).toInt8.toInt32).toInt8.toInt32)), (.int ((((lshr vx (24 : Int32)).toInt32).toInt8.toInt32).toInt8.toInt32)), (.int ((((lshr vx (16 : Int32)).toInt32).toInt8.toInt32).toInt8.toInt32)), (.int ((((lshr vx (8 : Int32)).toInt32).toInt8.toInt32).toInt8.toInt32)), (.int ((((lshr vx (0 : Int32)).toInt32).toInt8.toInt32).toInt8.toInt32))]) :: Rst) := R268
                have pre269 : ∀ t, Steps p.tables e below (T268.setTop (mkF m 60 #[.val (.long vx), .second, .val (.int (8 : Int32)), .val (.ref b228), .val (.int (7 : Int32))] [])) t → Steps p.tables e below (s₁.setTop (entryFrame m #[(.long vx)] 5)) t := fun t k => pre267 t (st268 t k)
                have pre271 : ∀ t, Steps p.tables e below (T268.setTop (mkF m 40 #[.val (.long vx), .second, .val (.int (8 : Int32)), .val (.ref b228), .val (.int (8 : Int32))] [(.int (8 : Int32)), (.int (8 : Int32))])) t → Steps p.tables e below (s₁.setTop (entryFrame m #[(.long vx)] 5)) t := fun t k => pre269 t (by
                  show Steps p.tables e below (T268.setTop (mkF m 60 #[.val (.long vx), .second, .val (.int (8 : Int32)), .val (.ref b228), .val (.int (7 : Int32))] [])) _
                  refine XS.iinc X268.here hx rfl (hb hby d1_60) rfl (l' := #[.val (.long vx), .second, .val (.int (8 : Int32)), .val (.ref b228), .val (.int (8 : Int32))]) rfl ?_
                  refine XS.goto X268.here hx rfl (pc0 := 63) (pc' := 37) rfl (hb hby d1_63) (by decide) (by decide) ?_
                  refine XS.iload X268.here hx rfl (hb hby d1_37) rfl ?_
                  refine XS.iloadN X268.here hx rfl (hb hby d1_39) rfl ?_
                  exact k)
                have hb270 : ¬ ((8 : Int32) < (8 : Int32)) := (by decide)
                have pre272 : ∀ t, Steps p.tables e below (T268.setTop (mkF m 67 #[.val (.long vx), .second, .val (.int (8 : Int32)), .val (.ref b228), .val (.int (8 : Int32))] [(.ref b228)])) t → Steps p.tables e below (s₁.setTop (entryFrame m #[(.long vx)] 5)) t := fun t k => pre271 t (by
                  show Steps p.tables e below (T268.setTop (mkF m 40 #[.val (.long vx), .second, .val (.int (8 : Int32)), .val (.ref b228), .val (.int (8 : Int32))] [(.int (8 : Int32)), (.int (8 : Int32))])) _
                  refine XS.icmpYes X268.here hx rfl (pc0 := 40) (pc' := 66) rfl (hb hby d1_40) rfl (flt hb270).2.1 (by decide) (by decide) ?_
                  refine XS.aloadN X268.here hx rfl (hb hby d1_66) rfl rfl ?_
                  exact k)
                obtain ⟨fs, hr, hrun, hended, hW, hsame⟩ := X268.leave (v := some (.ref b228)) (fun h => by rw [Bd.returns] at h; cases h)
                refine ⟨_, _, pre272 _ ?_, hrun, hended, _, _, rfl, ?_, ⟨_, rfl⟩, hW, hsame.mono (by decide) (by decide)⟩
                · show Steps p.tables e below (T268.setTop (mkF m 67 #[.val (.long vx), .second, .val (.int (8 : Int32)), .val (.ref b228), .val (.int (8 : Int32))] [(.ref b228)])) _
                  exact Jvm.Own.retA X268 hx (t := (.array .byte)) rfl Bd.returns (hb hby d1_67) hr
                · show Q1 Z vx n0 Rst _ T268.heap _
                  rw [e268]
                  exact ⟨b228, rfl, N268, (by simp only [EB, if_neg hb4, if_neg hb21, if_neg hb43, if_neg hb70, if_neg hb102, if_neg hb139, if_neg hb181]; exact R268)⟩
theorem own_byte (v : Int64) (q : Int32) (k : Nat) (hk : ni q % 64 = k) : ((((lshr v q).toInt32).toInt8.toInt32).toInt8.toInt32).toInt % 256 = (v.toInt / (2 ^ k : Nat)) % 256 ∧ -128 ≤ ((((lshr v q).toInt32).toInt8.toInt32).toInt8.toInt32).toInt ∧ ((((lshr v q).toInt32).toInt8.toInt32).toInt8.toInt32).toInt < 128 := by
  obtain ⟨a1, a2, a3⟩ := c_i2b (((lshr v q).toInt32).toInt8.toInt32)
  obtain ⟨b1, b2, b3⟩ := c_i2b ((lshr v q).toInt32)
  have c := c_l2i (lshr v q)
  have d : (lshr v q).toInt = v.toInt / (2 ^ k : Nat) := c_lshr v q k hk
  rw [d] at c
  generalize v.toInt / ((2 ^ k : Nat) : Int) = U at c
  refine ⟨?_, a2, a3⟩
  omega
theorem own_step {U : Int} (h1 : -9223372036854775808 ≤ U) (h2 : U < 9223372036854775808) {x : Int64} {y : Int32} (hx : x.toInt = U / 256) (hy : y.toInt % 256 = U % 256) : ((lshl x (8 : Int32)) ||| ((y &&& (255 : Int32)).toInt64)).toInt = U := by
  have a := c_lshl x (8 : Int32) 8 rfl
  have r := rng64 (x <<< ((8 : Int32) &&& 0x3f).toInt64)
  rw [show ((2 ^ 8 : Nat) : Int) = 256 from rfl, hx] at a
  have e : (lshl x (8 : Int32)).toInt = U / 256 * 256 := by
    show (x <<< ((8 : Int32) &&& 0x3f).toInt64).toInt = _
    omega
  have m : ((y &&& (255 : Int32)).toInt64).toInt = U % 256 := by
    rw [c_i2l, c_mask y (255 : Int32) 8 (by decide) rfl]
    show y.toInt % 256 = _
    exact hy
  have o := c_orL (lshl x (8 : Int32)) ((y &&& (255 : Int32)).toInt64) 8 (by decide) 256 rfl (by rw [e]; omega) (by rw [m]; omega) (by rw [m]; omega)
  have q := rng64 ((lshl x (8 : Int32)) ||| ((y &&& (255 : Int32)).toInt64))
  rw [e, m] at o
  omega
theorem own_top {v : Int64} {b : Int32} {P : Int} (h : b.toInt % 256 = (v.toInt / P) % 256) (h1 : -128 ≤ b.toInt) (h2 : b.toInt < 128) (k1 : -128 ≤ v.toInt / P) (k2 : v.toInt / P < 128) : (b.toInt64).toInt = v.toInt / P := by
  rw [c_i2l]; omega
theorem own_sign (v : Int64) : (lshr v (63 : Int32)).toInt = if v.toInt < 0 then -1 else 0 := by
  have d : (lshr v (63 : Int32)).toInt = v.toInt / (2 ^ 63 : Nat) := c_lshr v (63 : Int32) 63 rfl
  have r := rng64 v
  rw [d]
  show v.toInt / 9223372036854775808 = _
  split <;> omega
theorem own_m1 {V P : Int} (h0 : 0 < P) (n : V < 0) (a : -P ≤ V) : V / P = -1 := by
  have m := Int.emod_nonneg V (show P ≠ 0 by omega)
  have m2 := Int.emod_lt_of_pos V h0
  have e := Int.mul_ediv_add_emod V P
  have u : V / P < 0 := Int.ediv_neg_of_neg_of_pos n h0
  have l : -1 ≤ V / P := by
    rw [Int.le_ediv_iff_mul_le h0]; omega
  omega
theorem own_in {v : Int64} (q : Int32) (k : Nat) (P : Int) (hk : ni q % 64 = k) (hP : ((2 ^ k : Nat) : Int) = P) (h0 : 0 < P) : (lshr v q) = (lshr v (63 : Int32)) ↔ (-P ≤ v.toInt ∧ v.toInt < P) := by
  have d : (lshr v q).toInt = v.toInt / P := by rw [← hP]; exact c_lshr v q k hk
  rw [← Int64.toInt_inj, d, own_sign]
  constructor
  · intro h
    have m := Int.emod_nonneg v.toInt (show P ≠ 0 by omega)
    have m2 := Int.emod_lt_of_pos v.toInt h0
    have e := Int.mul_ediv_add_emod v.toInt P
    split at h
    · rw [h, Int.mul_neg, Int.mul_one] at e; omega
    · rw [h, Int.mul_zero] at e; omega
  · rintro ⟨a, b⟩
    split
    · rename_i n
      exact own_m1 h0 n a
    · rename_i n
      exact Int.ediv_eq_zero_of_lt (by omega) b
set_option maxRecDepth 4096 in
set_option maxHeartbeats 40000000 in
theorem own_cases (v : Int64) : (∃ b0 : Int32, EB v = [.int b0] ∧ F2 v = (1 : Int32) ∧ (b0.toInt64) = v) ∨ (∃ b0 b1 : Int32, EB v = [.int b0, .int b1] ∧ F2 v = (2 : Int32) ∧ ((lshl (b0.toInt64) (8 : Int32)) ||| ((b1 &&& (255 : Int32)).toInt64)) = v) ∨ (∃ b0 b1 b2 : Int32, EB v = [.int b0, .int b1, .int b2] ∧ F2 v = (3 : Int32) ∧ ((lshl ((lshl (b0.toInt64) (8 : Int32)) ||| ((b1 &&& (255 : Int32)).toInt64)) (8 : Int32)) ||| ((b2 &&& (255 : Int32)).toInt64)) = v) ∨ (∃ b0 b1 b2 b3 : Int32, EB v = [.int b0, .int b1, .int b2, .int b3] ∧ F2 v = (4 : Int32) ∧ ((lshl ((lshl ((lshl (b0.toInt64) (8 : Int32)) ||| ((b1 &&& (255 : Int32)).toInt64)) (8 : Int32)) ||| ((b2 &&& (255 : Int32)).toInt64)) (8 : Int32)) ||| ((b3 &&& (255 : Int32)).toInt64)) = v) ∨ (∃ b0 b1 b2 b3 b4 : Int32, EB v = [.int b0, .int b1, .int b2, .int b3, .int b4] ∧ F2 v = (5 : Int32) ∧ ((lshl ((lshl ((lshl ((lshl (b0.toInt64) (8 : Int32)) ||| ((b1 &&& (255 : Int32)).toInt64)) (8 : Int32)) ||| ((b2 &&& (255 : Int32)).toInt64)) (8 : Int32)) ||| ((b3 &&& (255 : Int32)).toInt64)) (8 : Int32)) ||| ((b4 &&& (255 : Int32)).toInt64)) = v) ∨ (∃ b0 b1 b2 b3 b4 b5 : Int32, EB v = [.int b0, .int b1, .int b2, .int b3, .int b4, .int b5] ∧ F2 v = (6 : Int32) ∧ ((lshl ((lshl ((lshl ((lshl ((lshl (b0.toInt64) (8 : Int32)) ||| ((b1 &&& (255 : Int32)).toInt64)) (8 : Int32)) ||| ((b2 &&& (255 : Int32)).toInt64)) (8 : Int32)) ||| ((b3 &&& (255 : Int32)).toInt64)) (8 : Int32)) ||| ((b4 &&& (255 : Int32)).toInt64)) (8 : Int32)) ||| ((b5 &&& (255 : Int32)).toInt64)) = v) ∨ (∃ b0 b1 b2 b3 b4 b5 b6 : Int32, EB v = [.int b0, .int b1, .int b2, .int b3, .int b4, .int b5, .int b6] ∧ F2 v = (7 : Int32) ∧ ((lshl ((lshl ((lshl ((lshl ((lshl ((lshl (b0.toInt64) (8 : Int32)) ||| ((b1 &&& (255 : Int32)).toInt64)) (8 : Int32)) ||| ((b2 &&& (255 : Int32)).toInt64)) (8 : Int32)) ||| ((b3 &&& (255 : Int32)).toInt64)) (8 : Int32)) ||| ((b4 &&& (255 : Int32)).toInt64)) (8 : Int32)) ||| ((b5 &&& (255 : Int32)).toInt64)) (8 : Int32)) ||| ((b6 &&& (255 : Int32)).toInt64)) = v) ∨ (∃ b0 b1 b2 b3 b4 b5 b6 b7 : Int32, EB v = [.int b0, .int b1, .int b2, .int b3, .int b4, .int b5, .int b6, .int b7] ∧ F2 v = (8 : Int32) ∧ ((lshl ((lshl ((lshl ((lshl ((lshl ((lshl ((lshl (b0.toInt64) (8 : Int32)) ||| ((b1 &&& (255 : Int32)).toInt64)) (8 : Int32)) ||| ((b2 &&& (255 : Int32)).toInt64)) (8 : Int32)) ||| ((b3 &&& (255 : Int32)).toInt64)) (8 : Int32)) ||| ((b4 &&& (255 : Int32)).toInt64)) (8 : Int32)) ||| ((b5 &&& (255 : Int32)).toInt64)) (8 : Int32)) ||| ((b6 &&& (255 : Int32)).toInt64)) (8 : Int32)) ||| ((b7 &&& (255 : Int32)).toInt64)) = v) := by
  by_cases h7 : (lshr v (7 : Int32)) = (lshr v (63 : Int32))
  · left
    refine ⟨((((lshr v (0 : Int32)).toInt32).toInt8.toInt32).toInt8.toInt32), ?_, ?_, ?_⟩
    · rw [EB, if_pos h7]
    · have e0 := rng64 v
      rw [(own_in (v := v) (7 : Int32) 7 128 rfl rfl (by decide))] at h7
      rw [F2, if_neg (show ¬ ((v < (-128 : Int64)) ∨ ((127 : Int64) < v)) by rw [lt64, lt64, show (-128 : Int64).toInt = -128 from rfl, show (127 : Int64).toInt = 127 from rfl]; omega)]
    · have e0 := rng64 v
      rw [(own_in (v := v) (7 : Int32) 7 128 rfl rfl (by decide))] at h7
      obtain ⟨a0, c0, d0⟩ := own_byte v (0 : Int32) 0 rfl
      rw [show ((2 ^ 0 : Nat) : Int) = 1 from rfl] at a0
      have x0 := own_top a0 c0 d0 (by omega) (by omega)
      exact Int64.toInt_inj.mp (x0.trans (by omega))
  · skip
    by_cases h15 : (lshr v (15 : Int32)) = (lshr v (63 : Int32))
    · right; left
      refine ⟨((((lshr v (8 : Int32)).toInt32).toInt8.toInt32).toInt8.toInt32), ((((lshr v (0 : Int32)).toInt32).toInt8.toInt32).toInt8.toInt32), ?_, ?_, ?_⟩
      · rw [EB, if_neg h7, if_pos h15]
      · have e0 := rng64 v
        rw [(own_in (v := v) (7 : Int32) 7 128 rfl rfl (by decide))] at h7
        rw [(own_in (v := v) (15 : Int32) 15 32768 rfl rfl (by decide))] at h15
        rw [F2, if_pos (show (v < (-128 : Int64)) ∨ ((127 : Int64) < v) by rw [lt64, lt64, show (-128 : Int64).toInt = -128 from rfl, show (127 : Int64).toInt = 127 from rfl]; omega), if_neg (show ¬ ((v < (-32768 : Int64)) ∨ ((32767 : Int64) < v)) by rw [lt64, lt64, show (-32768 : Int64).toInt = -32768 from rfl, show (32767 : Int64).toInt = 32767 from rfl]; omega)]
      · have e0 := rng64 v
        rw [(own_in (v := v) (15 : Int32) 15 32768 rfl rfl (by decide))] at h15
        obtain ⟨a0, c0, d0⟩ := own_byte v (8 : Int32) 8 rfl
        rw [show ((2 ^ 8 : Nat) : Int) = 256 from rfl] at a0
        obtain ⟨a1, c1, d1⟩ := own_byte v (0 : Int32) 0 rfl
        rw [show ((2 ^ 0 : Nat) : Int) = 1 from rfl] at a1
        have x0 := own_top a0 c0 d0 (by omega) (by omega)
        have x1 := own_step (U := v.toInt / 1) (by omega) (by omega) (x0.trans (by omega)) a1
        exact Int64.toInt_inj.mp (x1.trans (by omega))
    · skip
      by_cases h23 : (lshr v (23 : Int32)) = (lshr v (63 : Int32))
      · right; right; left
        refine ⟨((((lshr v (16 : Int32)).toInt32).toInt8.toInt32).toInt8.toInt32), ((((lshr v (8 : Int32)).toInt32).toInt8.toInt32).toInt8.toInt32), ((((lshr v (0 : Int32)).toInt32).toInt8.toInt32).toInt8.toInt32), ?_, ?_, ?_⟩
        · rw [EB, if_neg h7, if_neg h15, if_pos h23]
        · have e0 := rng64 v
          rw [(own_in (v := v) (7 : Int32) 7 128 rfl rfl (by decide))] at h7
          rw [(own_in (v := v) (15 : Int32) 15 32768 rfl rfl (by decide))] at h15
          rw [(own_in (v := v) (23 : Int32) 23 8388608 rfl rfl (by decide))] at h23
          rw [F2, if_pos (show (v < (-128 : Int64)) ∨ ((127 : Int64) < v) by rw [lt64, lt64, show (-128 : Int64).toInt = -128 from rfl, show (127 : Int64).toInt = 127 from rfl]; omega), if_pos (show (v < (-32768 : Int64)) ∨ ((32767 : Int64) < v) by rw [lt64, lt64, show (-32768 : Int64).toInt = -32768 from rfl, show (32767 : Int64).toInt = 32767 from rfl]; omega), if_neg (show ¬ ((v < (-8388608 : Int64)) ∨ ((8388607 : Int64) < v)) by rw [lt64, lt64, show (-8388608 : Int64).toInt = -8388608 from rfl, show (8388607 : Int64).toInt = 8388607 from rfl]; omega)]
        · have e0 := rng64 v
          rw [(own_in (v := v) (23 : Int32) 23 8388608 rfl rfl (by decide))] at h23
          obtain ⟨a0, c0, d0⟩ := own_byte v (16 : Int32) 16 rfl
          rw [show ((2 ^ 16 : Nat) : Int) = 65536 from rfl] at a0
          obtain ⟨a1, c1, d1⟩ := own_byte v (8 : Int32) 8 rfl
          rw [show ((2 ^ 8 : Nat) : Int) = 256 from rfl] at a1
          obtain ⟨a2, c2, d2⟩ := own_byte v (0 : Int32) 0 rfl
          rw [show ((2 ^ 0 : Nat) : Int) = 1 from rfl] at a2
          have x0 := own_top a0 c0 d0 (by omega) (by omega)
          have x1 := own_step (U := v.toInt / 256) (by omega) (by omega) (x0.trans (by omega)) a1
          have x2 := own_step (U := v.toInt / 1) (by omega) (by omega) (x1.trans (by omega)) a2
          exact Int64.toInt_inj.mp (x2.trans (by omega))
      · skip
        by_cases h31 : (lshr v (31 : Int32)) = (lshr v (63 : Int32))
        · right; right; right; left
          refine ⟨((((lshr v (24 : Int32)).toInt32).toInt8.toInt32).toInt8.toInt32), ((((lshr v (16 : Int32)).toInt32).toInt8.toInt32).toInt8.toInt32), ((((lshr v (8 : Int32)).toInt32).toInt8.toInt32).toInt8.toInt32), ((((lshr v (0 : Int32)).toInt32).toInt8.toInt32).toInt8.toInt32), ?_, ?_, ?_⟩
          · rw [EB, if_neg h7, if_neg h15, if_neg h23, if_pos h31]
          · have e0 := rng64 v
            rw [(own_in (v := v) (7 : Int32) 7 128 rfl rfl (by decide))] at h7
            rw [(own_in (v := v) (15 : Int32) 15 32768 rfl rfl (by decide))] at h15
            rw [(own_in (v := v) (23 : Int32) 23 8388608 rfl rfl (by decide))] at h23
            rw [(own_in (v := v) (31 : Int32) 31 2147483648 rfl rfl (by decide))] at h31
            rw [F2, if_pos (show (v < (-128 : Int64)) ∨ ((127 : Int64) < v) by rw [lt64, lt64, show (-128 : Int64).toInt = -128 from rfl, show (127 : Int64).toInt = 127 from rfl]; omega), if_pos (show (v < (-32768 : Int64)) ∨ ((32767 : Int64) < v) by rw [lt64, lt64, show (-32768 : Int64).toInt = -32768 from rfl, show (32767 : Int64).toInt = 32767 from rfl]; omega), if_pos (show (v < (-8388608 : Int64)) ∨ ((8388607 : Int64) < v) by rw [lt64, lt64, show (-8388608 : Int64).toInt = -8388608 from rfl, show (8388607 : Int64).toInt = 8388607 from rfl]; omega), if_neg (show ¬ ((v < (-2147483648 : Int64)) ∨ ((2147483647 : Int64) < v)) by rw [lt64, lt64, show (-2147483648 : Int64).toInt = -2147483648 from rfl, show (2147483647 : Int64).toInt = 2147483647 from rfl]; omega)]
          · have e0 := rng64 v
            rw [(own_in (v := v) (31 : Int32) 31 2147483648 rfl rfl (by decide))] at h31
            obtain ⟨a0, c0, d0⟩ := own_byte v (24 : Int32) 24 rfl
            rw [show ((2 ^ 24 : Nat) : Int) = 16777216 from rfl] at a0
            obtain ⟨a1, c1, d1⟩ := own_byte v (16 : Int32) 16 rfl
            rw [show ((2 ^ 16 : Nat) : Int) = 65536 from rfl] at a1
            obtain ⟨a2, c2, d2⟩ := own_byte v (8 : Int32) 8 rfl
            rw [show ((2 ^ 8 : Nat) : Int) = 256 from rfl] at a2
            obtain ⟨a3, c3, d3⟩ := own_byte v (0 : Int32) 0 rfl
            rw [show ((2 ^ 0 : Nat) : Int) = 1 from rfl] at a3
            have x0 := own_top a0 c0 d0 (by omega) (by omega)
            have x1 := own_step (U := v.toInt / 65536) (by omega) (by omega) (x0.trans (by omega)) a1
            have x2 := own_step (U := v.toInt / 256) (by omega) (by omega) (x1.trans (by omega)) a2
            have x3 := own_step (U := v.toInt / 1) (by omega) (by omega) (x2.trans (by omega)) a3
            exact Int64.toInt_inj.mp (x3.trans (by omega))
        · skip
          by_cases h39 : (lshr v (39 : Int32)) = (lshr v (63 : Int32))
          · right; right; right; right; left
            refine ⟨((((lshr v (32 : Int32)).toInt32).toInt8.toInt32).toInt8.toInt32), ((((lshr v (24 : Int32)).toInt32).toInt8.toInt32).toInt8.toInt32), ((((lshr v (16 : Int32)).toInt32).toInt8.toInt32).toInt8.toInt32), ((((lshr v (8 : Int32)).toInt32).toInt8.toInt32).toInt8.toInt32), ((((lshr v (0 : Int32)).toInt32).toInt8.toInt32).toInt8.toInt32), ?_, ?_, ?_⟩
            · rw [EB, if_neg h7, if_neg h15, if_neg h23, if_neg h31, if_pos h39]
            · have e0 := rng64 v
              rw [(own_in (v := v) (7 : Int32) 7 128 rfl rfl (by decide))] at h7
              rw [(own_in (v := v) (15 : Int32) 15 32768 rfl rfl (by decide))] at h15
              rw [(own_in (v := v) (23 : Int32) 23 8388608 rfl rfl (by decide))] at h23
              rw [(own_in (v := v) (31 : Int32) 31 2147483648 rfl rfl (by decide))] at h31
              rw [(own_in (v := v) (39 : Int32) 39 549755813888 rfl rfl (by decide))] at h39
              rw [F2, if_pos (show (v < (-128 : Int64)) ∨ ((127 : Int64) < v) by rw [lt64, lt64, show (-128 : Int64).toInt = -128 from rfl, show (127 : Int64).toInt = 127 from rfl]; omega), if_pos (show (v < (-32768 : Int64)) ∨ ((32767 : Int64) < v) by rw [lt64, lt64, show (-32768 : Int64).toInt = -32768 from rfl, show (32767 : Int64).toInt = 32767 from rfl]; omega), if_pos (show (v < (-8388608 : Int64)) ∨ ((8388607 : Int64) < v) by rw [lt64, lt64, show (-8388608 : Int64).toInt = -8388608 from rfl, show (8388607 : Int64).toInt = 8388607 from rfl]; omega), if_pos (show (v < (-2147483648 : Int64)) ∨ ((2147483647 : Int64) < v) by rw [lt64, lt64, show (-2147483648 : Int64).toInt = -2147483648 from rfl, show (2147483647 : Int64).toInt = 2147483647 from rfl]; omega), if_neg (show ¬ ((v < (-549755813888 : Int64)) ∨ ((549755813887 : Int64) < v)) by rw [lt64, lt64, show (-549755813888 : Int64).toInt = -549755813888 from rfl, show (549755813887 : Int64).toInt = 549755813887 from rfl]; omega)]
            · have e0 := rng64 v
              rw [(own_in (v := v) (39 : Int32) 39 549755813888 rfl rfl (by decide))] at h39
              obtain ⟨a0, c0, d0⟩ := own_byte v (32 : Int32) 32 rfl
              rw [show ((2 ^ 32 : Nat) : Int) = 4294967296 from rfl] at a0
              obtain ⟨a1, c1, d1⟩ := own_byte v (24 : Int32) 24 rfl
              rw [show ((2 ^ 24 : Nat) : Int) = 16777216 from rfl] at a1
              obtain ⟨a2, c2, d2⟩ := own_byte v (16 : Int32) 16 rfl
              rw [show ((2 ^ 16 : Nat) : Int) = 65536 from rfl] at a2
              obtain ⟨a3, c3, d3⟩ := own_byte v (8 : Int32) 8 rfl
              rw [show ((2 ^ 8 : Nat) : Int) = 256 from rfl] at a3
              obtain ⟨a4, c4, d4⟩ := own_byte v (0 : Int32) 0 rfl
              rw [show ((2 ^ 0 : Nat) : Int) = 1 from rfl] at a4
              have x0 := own_top a0 c0 d0 (by omega) (by omega)
              have x1 := own_step (U := v.toInt / 16777216) (by omega) (by omega) (x0.trans (by omega)) a1
              have x2 := own_step (U := v.toInt / 65536) (by omega) (by omega) (x1.trans (by omega)) a2
              have x3 := own_step (U := v.toInt / 256) (by omega) (by omega) (x2.trans (by omega)) a3
              have x4 := own_step (U := v.toInt / 1) (by omega) (by omega) (x3.trans (by omega)) a4
              exact Int64.toInt_inj.mp (x4.trans (by omega))
          · skip
            by_cases h47 : (lshr v (47 : Int32)) = (lshr v (63 : Int32))
            · right; right; right; right; right; left
              refine ⟨((((lshr v (40 : Int32)).toInt32).toInt8.toInt32).toInt8.toInt32), ((((lshr v (32 : Int32)).toInt32).toInt8.toInt32).toInt8.toInt32), ((((lshr v (24 : Int32)).toInt32).toInt8.toInt32).toInt8.toInt32), ((((lshr v (16 : Int32)).toInt32).toInt8.toInt32).toInt8.toInt32), ((((lshr v (8 : Int32)).toInt32).toInt8.toInt32).toInt8.toInt32), ((((lshr v (0 : Int32)).toInt32).toInt8.toInt32).toInt8.toInt32), ?_, ?_, ?_⟩
              · rw [EB, if_neg h7, if_neg h15, if_neg h23, if_neg h31, if_neg h39, if_pos h47]
              · have e0 := rng64 v
                rw [(own_in (v := v) (7 : Int32) 7 128 rfl rfl (by decide))] at h7
                rw [(own_in (v := v) (15 : Int32) 15 32768 rfl rfl (by decide))] at h15
                rw [(own_in (v := v) (23 : Int32) 23 8388608 rfl rfl (by decide))] at h23
                rw [(own_in (v := v) (31 : Int32) 31 2147483648 rfl rfl (by decide))] at h31
                rw [(own_in (v := v) (39 : Int32) 39 549755813888 rfl rfl (by decide))] at h39
                rw [(own_in (v := v) (47 : Int32) 47 140737488355328 rfl rfl (by decide))] at h47
                rw [F2, if_pos (show (v < (-128 : Int64)) ∨ ((127 : Int64) < v) by rw [lt64, lt64, show (-128 : Int64).toInt = -128 from rfl, show (127 : Int64).toInt = 127 from rfl]; omega), if_pos (show (v < (-32768 : Int64)) ∨ ((32767 : Int64) < v) by rw [lt64, lt64, show (-32768 : Int64).toInt = -32768 from rfl, show (32767 : Int64).toInt = 32767 from rfl]; omega), if_pos (show (v < (-8388608 : Int64)) ∨ ((8388607 : Int64) < v) by rw [lt64, lt64, show (-8388608 : Int64).toInt = -8388608 from rfl, show (8388607 : Int64).toInt = 8388607 from rfl]; omega), if_pos (show (v < (-2147483648 : Int64)) ∨ ((2147483647 : Int64) < v) by rw [lt64, lt64, show (-2147483648 : Int64).toInt = -2147483648 from rfl, show (2147483647 : Int64).toInt = 2147483647 from rfl]; omega), if_pos (show (v < (-549755813888 : Int64)) ∨ ((549755813887 : Int64) < v) by rw [lt64, lt64, show (-549755813888 : Int64).toInt = -549755813888 from rfl, show (549755813887 : Int64).toInt = 549755813887 from rfl]; omega), if_neg (show ¬ ((v < (-140737488355328 : Int64)) ∨ ((140737488355327 : Int64) < v)) by rw [lt64, lt64, show (-140737488355328 : Int64).toInt = -140737488355328 from rfl, show (140737488355327 : Int64).toInt = 140737488355327 from rfl]; omega)]
              · have e0 := rng64 v
                rw [(own_in (v := v) (47 : Int32) 47 140737488355328 rfl rfl (by decide))] at h47
                obtain ⟨a0, c0, d0⟩ := own_byte v (40 : Int32) 40 rfl
                rw [show ((2 ^ 40 : Nat) : Int) = 1099511627776 from rfl] at a0
                obtain ⟨a1, c1, d1⟩ := own_byte v (32 : Int32) 32 rfl
                rw [show ((2 ^ 32 : Nat) : Int) = 4294967296 from rfl] at a1
                obtain ⟨a2, c2, d2⟩ := own_byte v (24 : Int32) 24 rfl
                rw [show ((2 ^ 24 : Nat) : Int) = 16777216 from rfl] at a2
                obtain ⟨a3, c3, d3⟩ := own_byte v (16 : Int32) 16 rfl
                rw [show ((2 ^ 16 : Nat) : Int) = 65536 from rfl] at a3
                obtain ⟨a4, c4, d4⟩ := own_byte v (8 : Int32) 8 rfl
                rw [show ((2 ^ 8 : Nat) : Int) = 256 from rfl] at a4
                obtain ⟨a5, c5, d5⟩ := own_byte v (0 : Int32) 0 rfl
                rw [show ((2 ^ 0 : Nat) : Int) = 1 from rfl] at a5
                have x0 := own_top a0 c0 d0 (by omega) (by omega)
                have x1 := own_step (U := v.toInt / 4294967296) (by omega) (by omega) (x0.trans (by omega)) a1
                have x2 := own_step (U := v.toInt / 16777216) (by omega) (by omega) (x1.trans (by omega)) a2
                have x3 := own_step (U := v.toInt / 65536) (by omega) (by omega) (x2.trans (by omega)) a3
                have x4 := own_step (U := v.toInt / 256) (by omega) (by omega) (x3.trans (by omega)) a4
                have x5 := own_step (U := v.toInt / 1) (by omega) (by omega) (x4.trans (by omega)) a5
                exact Int64.toInt_inj.mp (x5.trans (by omega))
            · skip
              by_cases h55 : (lshr v (55 : Int32)) = (lshr v (63 : Int32))
              · right; right; right; right; right; right; left
                refine ⟨((((lshr v (48 : Int32)).toInt32).toInt8.toInt32).toInt8.toInt32), ((((lshr v (40 : Int32)).toInt32).toInt8.toInt32).toInt8.toInt32), ((((lshr v (32 : Int32)).toInt32).toInt8.toInt32).toInt8.toInt32), ((((lshr v (24 : Int32)).toInt32).toInt8.toInt32).toInt8.toInt32), ((((lshr v (16 : Int32)).toInt32).toInt8.toInt32).toInt8.toInt32), ((((lshr v (8 : Int32)).toInt32).toInt8.toInt32).toInt8.toInt32), ((((lshr v (0 : Int32)).toInt32).toInt8.toInt32).toInt8.toInt32), ?_, ?_, ?_⟩
                · rw [EB, if_neg h7, if_neg h15, if_neg h23, if_neg h31, if_neg h39, if_neg h47, if_pos h55]
                · have e0 := rng64 v
                  rw [(own_in (v := v) (7 : Int32) 7 128 rfl rfl (by decide))] at h7
                  rw [(own_in (v := v) (15 : Int32) 15 32768 rfl rfl (by decide))] at h15
                  rw [(own_in (v := v) (23 : Int32) 23 8388608 rfl rfl (by decide))] at h23
                  rw [(own_in (v := v) (31 : Int32) 31 2147483648 rfl rfl (by decide))] at h31
                  rw [(own_in (v := v) (39 : Int32) 39 549755813888 rfl rfl (by decide))] at h39
                  rw [(own_in (v := v) (47 : Int32) 47 140737488355328 rfl rfl (by decide))] at h47
                  rw [(own_in (v := v) (55 : Int32) 55 36028797018963968 rfl rfl (by decide))] at h55
                  rw [F2, if_pos (show (v < (-128 : Int64)) ∨ ((127 : Int64) < v) by rw [lt64, lt64, show (-128 : Int64).toInt = -128 from rfl, show (127 : Int64).toInt = 127 from rfl]; omega), if_pos (show (v < (-32768 : Int64)) ∨ ((32767 : Int64) < v) by rw [lt64, lt64, show (-32768 : Int64).toInt = -32768 from rfl, show (32767 : Int64).toInt = 32767 from rfl]; omega), if_pos (show (v < (-8388608 : Int64)) ∨ ((8388607 : Int64) < v) by rw [lt64, lt64, show (-8388608 : Int64).toInt = -8388608 from rfl, show (8388607 : Int64).toInt = 8388607 from rfl]; omega), if_pos (show (v < (-2147483648 : Int64)) ∨ ((2147483647 : Int64) < v) by rw [lt64, lt64, show (-2147483648 : Int64).toInt = -2147483648 from rfl, show (2147483647 : Int64).toInt = 2147483647 from rfl]; omega), if_pos (show (v < (-549755813888 : Int64)) ∨ ((549755813887 : Int64) < v) by rw [lt64, lt64, show (-549755813888 : Int64).toInt = -549755813888 from rfl, show (549755813887 : Int64).toInt = 549755813887 from rfl]; omega), if_pos (show (v < (-140737488355328 : Int64)) ∨ ((140737488355327 : Int64) < v) by rw [lt64, lt64, show (-140737488355328 : Int64).toInt = -140737488355328 from rfl, show (140737488355327 : Int64).toInt = 140737488355327 from rfl]; omega), if_neg (show ¬ ((v < (-36028797018963968 : Int64)) ∨ ((36028797018963967 : Int64) < v)) by rw [lt64, lt64, show (-36028797018963968 : Int64).toInt = -36028797018963968 from rfl, show (36028797018963967 : Int64).toInt = 36028797018963967 from rfl]; omega)]
                · have e0 := rng64 v
                  rw [(own_in (v := v) (55 : Int32) 55 36028797018963968 rfl rfl (by decide))] at h55
                  obtain ⟨a0, c0, d0⟩ := own_byte v (48 : Int32) 48 rfl
                  rw [show ((2 ^ 48 : Nat) : Int) = 281474976710656 from rfl] at a0
                  obtain ⟨a1, c1, d1⟩ := own_byte v (40 : Int32) 40 rfl
                  rw [show ((2 ^ 40 : Nat) : Int) = 1099511627776 from rfl] at a1
                  obtain ⟨a2, c2, d2⟩ := own_byte v (32 : Int32) 32 rfl
                  rw [show ((2 ^ 32 : Nat) : Int) = 4294967296 from rfl] at a2
                  obtain ⟨a3, c3, d3⟩ := own_byte v (24 : Int32) 24 rfl
                  rw [show ((2 ^ 24 : Nat) : Int) = 16777216 from rfl] at a3
                  obtain ⟨a4, c4, d4⟩ := own_byte v (16 : Int32) 16 rfl
                  rw [show ((2 ^ 16 : Nat) : Int) = 65536 from rfl] at a4
                  obtain ⟨a5, c5, d5⟩ := own_byte v (8 : Int32) 8 rfl
                  rw [show ((2 ^ 8 : Nat) : Int) = 256 from rfl] at a5
                  obtain ⟨a6, c6, d6⟩ := own_byte v (0 : Int32) 0 rfl
                  rw [show ((2 ^ 0 : Nat) : Int) = 1 from rfl] at a6
                  have x0 := own_top a0 c0 d0 (by omega) (by omega)
                  have x1 := own_step (U := v.toInt / 1099511627776) (by omega) (by omega) (x0.trans (by omega)) a1
                  have x2 := own_step (U := v.toInt / 4294967296) (by omega) (by omega) (x1.trans (by omega)) a2
                  have x3 := own_step (U := v.toInt / 16777216) (by omega) (by omega) (x2.trans (by omega)) a3
                  have x4 := own_step (U := v.toInt / 65536) (by omega) (by omega) (x3.trans (by omega)) a4
                  have x5 := own_step (U := v.toInt / 256) (by omega) (by omega) (x4.trans (by omega)) a5
                  have x6 := own_step (U := v.toInt / 1) (by omega) (by omega) (x5.trans (by omega)) a6
                  exact Int64.toInt_inj.mp (x6.trans (by omega))
              · skip
                right; right; right; right; right; right; right
                refine ⟨((((lshr v (56 : Int32)).toInt32).toInt8.toInt32).toInt8.toInt32), ((((lshr v (48 : Int32)).toInt32).toInt8.toInt32).toInt8.toInt32), ((((lshr v (40 : Int32)).toInt32).toInt8.toInt32).toInt8.toInt32), ((((lshr v (32 : Int32)).toInt32).toInt8.toInt32).toInt8.toInt32), ((((lshr v (24 : Int32)).toInt32).toInt8.toInt32).toInt8.toInt32), ((((lshr v (16 : Int32)).toInt32).toInt8.toInt32).toInt8.toInt32), ((((lshr v (8 : Int32)).toInt32).toInt8.toInt32).toInt8.toInt32), ((((lshr v (0 : Int32)).toInt32).toInt8.toInt32).toInt8.toInt32), ?_, ?_, ?_⟩
                · rw [EB, if_neg h7, if_neg h15, if_neg h23, if_neg h31, if_neg h39, if_neg h47, if_neg h55]
                · have e0 := rng64 v
                  rw [(own_in (v := v) (7 : Int32) 7 128 rfl rfl (by decide))] at h7
                  rw [(own_in (v := v) (15 : Int32) 15 32768 rfl rfl (by decide))] at h15
                  rw [(own_in (v := v) (23 : Int32) 23 8388608 rfl rfl (by decide))] at h23
                  rw [(own_in (v := v) (31 : Int32) 31 2147483648 rfl rfl (by decide))] at h31
                  rw [(own_in (v := v) (39 : Int32) 39 549755813888 rfl rfl (by decide))] at h39
                  rw [(own_in (v := v) (47 : Int32) 47 140737488355328 rfl rfl (by decide))] at h47
                  rw [(own_in (v := v) (55 : Int32) 55 36028797018963968 rfl rfl (by decide))] at h55
                  rw [F2, if_pos (show (v < (-128 : Int64)) ∨ ((127 : Int64) < v) by rw [lt64, lt64, show (-128 : Int64).toInt = -128 from rfl, show (127 : Int64).toInt = 127 from rfl]; omega), if_pos (show (v < (-32768 : Int64)) ∨ ((32767 : Int64) < v) by rw [lt64, lt64, show (-32768 : Int64).toInt = -32768 from rfl, show (32767 : Int64).toInt = 32767 from rfl]; omega), if_pos (show (v < (-8388608 : Int64)) ∨ ((8388607 : Int64) < v) by rw [lt64, lt64, show (-8388608 : Int64).toInt = -8388608 from rfl, show (8388607 : Int64).toInt = 8388607 from rfl]; omega), if_pos (show (v < (-2147483648 : Int64)) ∨ ((2147483647 : Int64) < v) by rw [lt64, lt64, show (-2147483648 : Int64).toInt = -2147483648 from rfl, show (2147483647 : Int64).toInt = 2147483647 from rfl]; omega), if_pos (show (v < (-549755813888 : Int64)) ∨ ((549755813887 : Int64) < v) by rw [lt64, lt64, show (-549755813888 : Int64).toInt = -549755813888 from rfl, show (549755813887 : Int64).toInt = 549755813887 from rfl]; omega), if_pos (show (v < (-140737488355328 : Int64)) ∨ ((140737488355327 : Int64) < v) by rw [lt64, lt64, show (-140737488355328 : Int64).toInt = -140737488355328 from rfl, show (140737488355327 : Int64).toInt = 140737488355327 from rfl]; omega), if_pos (show (v < (-36028797018963968 : Int64)) ∨ ((36028797018963967 : Int64) < v) by rw [lt64, lt64, show (-36028797018963968 : Int64).toInt = -36028797018963968 from rfl, show (36028797018963967 : Int64).toInt = 36028797018963967 from rfl]; omega)]
                · have e0 := rng64 v
                  obtain ⟨a0, c0, d0⟩ := own_byte v (56 : Int32) 56 rfl
                  rw [show ((2 ^ 56 : Nat) : Int) = 72057594037927936 from rfl] at a0
                  obtain ⟨a1, c1, d1⟩ := own_byte v (48 : Int32) 48 rfl
                  rw [show ((2 ^ 48 : Nat) : Int) = 281474976710656 from rfl] at a1
                  obtain ⟨a2, c2, d2⟩ := own_byte v (40 : Int32) 40 rfl
                  rw [show ((2 ^ 40 : Nat) : Int) = 1099511627776 from rfl] at a2
                  obtain ⟨a3, c3, d3⟩ := own_byte v (32 : Int32) 32 rfl
                  rw [show ((2 ^ 32 : Nat) : Int) = 4294967296 from rfl] at a3
                  obtain ⟨a4, c4, d4⟩ := own_byte v (24 : Int32) 24 rfl
                  rw [show ((2 ^ 24 : Nat) : Int) = 16777216 from rfl] at a4
                  obtain ⟨a5, c5, d5⟩ := own_byte v (16 : Int32) 16 rfl
                  rw [show ((2 ^ 16 : Nat) : Int) = 65536 from rfl] at a5
                  obtain ⟨a6, c6, d6⟩ := own_byte v (8 : Int32) 8 rfl
                  rw [show ((2 ^ 8 : Nat) : Int) = 256 from rfl] at a6
                  obtain ⟨a7, c7, d7⟩ := own_byte v (0 : Int32) 0 rfl
                  rw [show ((2 ^ 0 : Nat) : Int) = 1 from rfl] at a7
                  have x0 := own_top a0 c0 d0 (by omega) (by omega)
                  have x1 := own_step (U := v.toInt / 281474976710656) (by omega) (by omega) (x0.trans (by omega)) a1
                  have x2 := own_step (U := v.toInt / 1099511627776) (by omega) (by omega) (x1.trans (by omega)) a2
                  have x3 := own_step (U := v.toInt / 4294967296) (by omega) (by omega) (x2.trans (by omega)) a3
                  have x4 := own_step (U := v.toInt / 16777216) (by omega) (by omega) (x3.trans (by omega)) a4
                  have x5 := own_step (U := v.toInt / 65536) (by omega) (by omega) (x4.trans (by omega)) a5
                  have x6 := own_step (U := v.toInt / 256) (by omega) (by omega) (x5.trans (by omega)) a6
                  have x7 := own_step (U := v.toInt / 1) (by omega) (by omega) (x6.trans (by omega)) a7
                  exact Int64.toInt_inj.mp (x7.trans (by omega))
theorem pd__28J_29_5bB : parseMethodDescriptor "(J)[B" = some ⟨[.long], some (.array .byte)⟩ := by decide +kernel
theorem pd__28J_29I : parseMethodDescriptor "(J)I" = some ⟨[.long], some .int⟩ := by decide +kernel
theorem ef_0 (m : MethodId) (x0 : Int64) (x1 : Int32) : entryFrame m #[(.long x0), (.int x1)] maxLocals = mkF m 0 #[.val (.long x0), .second, .val (.int x1), .unset, .unset, .unset, .unset, .unset, .unset] [] := by first | (simp [entryFrame, mkF, argsToLocals, Value.category, maxLocals]; done) | rfl
def Q0 (Z : State) (px : Int64) (sx : Int32) (n0 : Nat) (Rst : RL) (v : Option Value) (h : Heap) (L : List Loc) : Prop := v = some (.int (1 : Int32)) ∧ Fr n0 L ∧ Rep Z n0 h (Rst)
set_option maxRecDepth 65536 in
set_option maxHeartbeats 40000000 in
theorem rm0 (l : Launch) (Z : State) (a0 : Array Value) (hw : ∀ d ∈ tables_1, d.before a0 Z = true) (ws : List Jvm.Cond) (px : Int64) (sx : Int32) (h0 : Heap) (n0 : Nat) (R0 : Rep Z n0 h0 ([])) :
    MetFree l x (head1 (Jvm.Cond.code x code maxLocals ret :: ws) room_1) (fun a U => a = #[(.long px), (.int sx)] ∧ Z.Warmed39 U.vm ∧ U.heap = h0) (fun _ _ _ _ _ => True) (fun _ U o U' => ∃ v L, o = .returned v ∧ Q0 Z px sx n0 [] v U'.heap L ∧ FrameEnd U o U' L 16 128) := by
  refine MetFree.of_bodySF (plainFor_of_name pn_com_example_sidetrack_sidetrack_codec_BerIntegerEncodePinLaw) hisR ?_
  intro p e s m args below meth c s₁ Bd hml0 hP hK
  obtain ⟨rfl, hZ, hh⟩ := hP
  have hx := Bd.exec
  have hby := Bd.bytes
  have hml : c.maxLocals = 9 := hml0
  have hown : s.vm.findClass "com/example/sidetrack/sidetrack/codec/BerIntegerEncodePinLaw" = some m.cls := findClass_of_methodNamed Bd.named
  have hnm := (name_of_methodNamed Bd.named Bd.method).1
  have X0 : Stand p l e room_1 s m #[(.long px), (.int sx)] below meth c s₁ [] 0 0 := Stand.of_body Bd
  have e0 : s₁.heap = h0 := by rw [← hh, Bd.state]; rfl
  have N0 := Fr.nil n0
  have pre0 : ∀ t, Steps p.tables e below (s₁.setTop (mkF m 0 #[.val (.long px), .second, .val (.int sx), .unset, .unset, .unset, .unset, .unset, .unset] [])) t → Steps p.tables e below (s₁.setTop (entryFrame m #[(.long px), (.int sx)] maxLocals)) t := fun t k => castTop (ef_0 m px sx) k
  have pre2 : ∀ t, Steps p.tables e below (s₁.setTop (mkF m 7 #[.val (.long px), .second, .val (.int sx), .val (.long (lshr px (sx &&& (63 : Int32)))), .second, .unset, .unset, .unset, .unset] [])) t → Steps p.tables e below (s₁.setTop (entryFrame m #[(.long px), (.int sx)] maxLocals)) t := fun t k => pre0 t (by
    show Steps p.tables e below (s₁.setTop (mkF m 0 #[.val (.long px), .second, .val (.int sx), .unset, .unset, .unset, .unset, .unset, .unset] [])) _
    refine XS.lloadN X0.here hx rfl (hb hby at_0) rfl ?_
    refine XS.iloadN X0.here hx rfl (hb hby at_1) rfl ?_
    refine XS.bipush X0.here hx rfl (hb hby at_2) ?_
    refine XS.iand X0.here hx rfl (hb hby at_4) rfl ?_
    refine XS.lshr X0.here hx rfl (hb hby at_5) rfl ?_
    refine XS.lstoreN X0.here hx rfl (hb hby at_6) rfl (l' := #[.val (.long px), .second, .val (.int sx), .val (.long (lshr px (sx &&& (63 : Int32)))), .second, .unset, .unset, .unset, .unset]) rfl ?_
    exact k)
  obtain ⟨v1, hv1⟩ : ∃ z : Int64, z = (lshr px (sx &&& (63 : Int32))) := ⟨_, rfl⟩
  rw [← hv1] at pre2
  have pre3 : ∀ t, Steps p.tables e below (s₁.setTop (mkF m 8 #[.val (.long px), .second, .val (.int sx), .val (.long v1), .second, .unset, .unset, .unset, .unset] [(.long v1)])) t → Steps p.tables e below (s₁.setTop (entryFrame m #[(.long px), (.int sx)] maxLocals)) t := fun t k => pre2 t (by
    show Steps p.tables e below (s₁.setTop (mkF m 7 #[.val (.long px), .second, .val (.int sx), .val (.long v1), .second, .unset, .unset, .unset, .unset] [])) _
    refine XS.lloadN X0.here hx rfl (hb hby at_7) rfl ?_
    exact k)
  obtain ⟨_, _, ⟨T4, L4, k4, n4⟩, -, X4, ⟨Lc4, hQ4, l4, y4, z4⟩, st4⟩ := Jvm.LawKit.callS X0 hx (y := (⟨"com/example/sidetrack/sidetrack/codec/BerInteger", "encode", "(J)[B"⟩ : MethodName)) hown (mvT hZ (hw _ (List.mem_of_getElem? (i := 0) rfl))) (mvT hZ (hw _ (List.mem_of_getElem? (i := 1) rfl))) (mvT hZ (hw _ (List.mem_of_getElem? (i := 2) rfl))) (mvT hZ (hw _ (List.mem_of_getElem? (i := 3) rfl))) (by decide) (backOf (W := 0) (rm1 l Z a0 hw [] v1  h0 n0 _ R0 ) hZ (hw _ (List.mem_of_getElem? (i := 3) rfl)) (hw _ (List.mem_of_getElem? (i := 2) rfl)) (by decide) (by decide)) (g := (mkF m 8 #[.val (.long px), .second, .val (.int sx), .val (.long v1), .second, .unset, .unset, .unset, .unset] [(.long v1)])) rfl (by rw [hml]; rfl) (argsL := [(.long v1)]) (rest := []) (lenOf pd__28J_29_5bB rfl) rfl (by show 2 * 0 + _ ≤ _; exact Nat.le_of_eq rfl) (hb hby at_8) (fun _ _ => ⟨rfl, e0, (by decide : 0 + 1 ≤ _), (by decide : 0 + 8 ≤ _)⟩)
  dsimp only [Pt.U, Pt.locs, Pt.cells, Pt.slots] at X4 l4 y4 z4 st4 hQ4
  subst l4 y4 z4
  obtain ⟨bx4, rfl, N4q, R4⟩ := hQ4
  have N4 := Fr.app N0 N4q
  replace R4 : Rep Z n0 T4.heap ((bx4, Ar .byte (EB v1)) :: []) := R4
  have pre5 : ∀ t, Steps p.tables e below (T4.setTop (mkF m 11 #[.val (.long px), .second, .val (.int sx), .val (.long v1), .second, .unset, .unset, .unset, .unset] [(.ref bx4)])) t → Steps p.tables e below (s₁.setTop (entryFrame m #[(.long px), (.int sx)] maxLocals)) t := fun t k => pre3 t (st4 t k)
  rcases own_cases v1 with ⟨b0, hE, hF, hR⟩ | ⟨b0, b1, hE, hF, hR⟩ | ⟨b0, b1, b2, hE, hF, hR⟩ | ⟨b0, b1, b2, b3, hE, hF, hR⟩ | ⟨b0, b1, b2, b3, b4, hE, hF, hR⟩ | ⟨b0, b1, b2, b3, b4, b5, hE, hF, hR⟩ | ⟨b0, b1, b2, b3, b4, b5, b6, hE, hF, hR⟩ | ⟨b0, b1, b2, b3, b4, b5, b6, b7, hE, hF, hR⟩
  · have R6 : Rep Z n0 T4.heap ((bx4, Ar .byte [(.int b0)]) :: []) := by rw [← hE]; exact R4
    have pre7 : ∀ t, Steps p.tables e below (T4.setTop (mkF m 21 #[.val (.long px), .second, .val (.int sx), .val (.long v1), .second, .val (.ref bx4), .val (.int (1 : Int32)), .unset, .unset] [(.long v1), (.int (1 : Int32))])) t → Steps p.tables e below (s₁.setTop (entryFrame m #[(.long px), (.int sx)] maxLocals)) t := fun t k => pre5 t (by
      show Steps p.tables e below (T4.setTop (mkF m 11 #[.val (.long px), .second, .val (.int sx), .val (.long v1), .second, .unset, .unset, .unset, .unset] [(.ref bx4)])) _
      refine XS.astore X4.here hx rfl (hb hby at_11) rfl rfl (l' := #[.val (.long px), .second, .val (.int sx), .val (.long v1), .second, .val (.ref bx4), .unset, .unset, .unset]) rfl ?_
      refine XS.aload X4.here hx rfl (hb hby at_13) rfl rfl ?_
      refine gLen X4 hx hZ rfl R6 0 rfl (g := (mkF m 15 #[.val (.long px), .second, .val (.int sx), .val (.long v1), .second, .val (.ref bx4), .unset, .unset, .unset] [(.ref bx4)])) rfl rfl (hb hby at_15) (z := (1 : Int32)) (rfl) _ ?_
      refine XS.istore X4.here hx rfl (hb hby at_16) rfl (l' := #[.val (.long px), .second, .val (.int sx), .val (.long v1), .second, .val (.ref bx4), .val (.int (1 : Int32)), .unset, .unset]) rfl ?_
      refine XS.iload X4.here hx rfl (hb hby at_18) rfl ?_
      refine XS.lloadN X4.here hx rfl (hb hby at_20) rfl ?_
      exact k)
    obtain ⟨_, _, ⟨T8, L8, k8, n8⟩, -, X8, ⟨Lc8, hQ8, l8, y8, z8⟩, st8⟩ := Jvm.LawKit.callS X4 hx (y := (⟨"com/example/sidetrack/sidetrack/codec/BerIntegerEncodePinLaw", "expectedLength", "(J)I"⟩ : MethodName)) hown (mvT hZ (hw _ (List.mem_of_getElem? (i := 5) rfl))) (mvT hZ (hw _ (List.mem_of_getElem? (i := 6) rfl))) (mvT hZ (hw _ (List.mem_of_getElem? (i := 7) rfl))) (mvT hZ (hw _ (List.mem_of_getElem? (i := 8) rfl))) (by decide) (backOf (W := 1) (rm2 l Z a0 hw [] v1  T4.heap n0 _ R6 ) hZ (hw _ (List.mem_of_getElem? (i := 8) rfl)) (hw _ (List.mem_of_getElem? (i := 7) rfl)) (by decide) (by decide)) (g := (mkF m 21 #[.val (.long px), .second, .val (.int sx), .val (.long v1), .second, .val (.ref bx4), .val (.int (1 : Int32)), .unset, .unset] [(.long v1), (.int (1 : Int32))])) rfl (by rw [hml]; rfl) (argsL := [(.long v1)]) (rest := [(.int (1 : Int32))]) (lenOf pd__28J_29I rfl) rfl (by show 2 * 0 + _ ≤ _; exact Nat.le_of_eq rfl) (hb hby at_21) (fun _ _ => ⟨rfl, rfl, (by decide : 1 + 0 ≤ _), (by decide : 8 + 0 ≤ _)⟩)
    dsimp only [Pt.U, Pt.locs, Pt.cells, Pt.slots] at X8 l8 y8 z8 st8 hQ8
    subst l8 y8 z8
    obtain ⟨rfl, N8q, R8⟩ := hQ8
    have N8 := Fr.app N4 N8q
    replace R8 : Rep Z n0 T8.heap ((bx4, Ar .byte [(.int b0)]) :: []) := R8
    have pre9 : ∀ t, Steps p.tables e below (T8.setTop (mkF m 24 #[.val (.long px), .second, .val (.int sx), .val (.long v1), .second, .val (.ref bx4), .val (.int (1 : Int32)), .unset, .unset] [(.int (F2 v1)), (.int (1 : Int32))])) t → Steps p.tables e below (s₁.setTop (entryFrame m #[(.long px), (.int sx)] maxLocals)) t := fun t k => pre7 t (st8 t k)
    have hb10 : (1 : Int32) = (F2 v1) := hF.symm
    have pre12 : ∀ t, Steps p.tables e below (T8.setTop (mkF m 39 #[.val (.long px), .second, .val (.int sx), .val (.long v1), .second, .val (.ref bx4), .val (.int (1 : Int32)), .val (.long (b0.toInt64)), .second] [(.int (1 : Int32)), (.int (1 : Int32))])) t → Steps p.tables e below (s₁.setTop (entryFrame m #[(.long px), (.int sx)] maxLocals)) t := fun t k => pre9 t (by
      show Steps p.tables e below (T8.setTop (mkF m 24 #[.val (.long px), .second, .val (.int sx), .val (.long v1), .second, .val (.ref bx4), .val (.int (1 : Int32)), .unset, .unset] [(.int (F2 v1)), (.int (1 : Int32))])) _
      refine XS.icmpYes X8.here hx rfl (pc0 := 24) (pc' := 29) rfl (hb hby at_24) rfl (teq hb10).1 (by decide) (by decide) ?_
      refine XS.aload X8.here hx rfl (hb hby at_29) rfl rfl ?_
      refine XS.iconst X8.here hx rfl (hb hby at_31) ?_
      refine gBald X8 hx hZ rfl R8 0 rfl (j := (0 : Int32)) (v := (.int b0)) (by decide) rfl (g := (mkF m 32 #[.val (.long px), .second, .val (.int sx), .val (.long v1), .second, .val (.ref bx4), .val (.int (1 : Int32)), .unset, .unset] [(.int (0 : Int32)), (.ref bx4)])) rfl rfl (hb hby at_32) _ ?_
      refine XS.i2l X8.here hx rfl (hb hby at_33) rfl ?_
      refine XS.lstore X8.here hx rfl (hb hby at_34) rfl (l' := #[.val (.long px), .second, .val (.int sx), .val (.long v1), .second, .val (.ref bx4), .val (.int (1 : Int32)), .val (.long (b0.toInt64)), .second]) rfl ?_
      refine XS.iload X8.here hx rfl (hb hby at_36) rfl ?_
      show Steps p.tables e below (T8.setTop (mkF m 38 #[.val (.long px), .second, .val (.int sx), .val (.long v1), .second, .val (.ref bx4), .val (.int (1 : Int32)), .val (.long (b0.toInt64)), .second] [(.int (1 : Int32))])) _
      refine XS.iconst X8.here hx rfl (hb hby at_38) ?_
      exact k)
    have hb11 : ¬ ((1 : Int32) < (1 : Int32)) := (by decide)
    have pre14 : ∀ t, Steps p.tables e below (T8.setTop (mkF m 62 #[.val (.long px), .second, .val (.int sx), .val (.long v1), .second, .val (.ref bx4), .val (.int (1 : Int32)), .val (.long (b0.toInt64)), .second] [(.int (2 : Int32)), (.int (1 : Int32))])) t → Steps p.tables e below (s₁.setTop (entryFrame m #[(.long px), (.int sx)] maxLocals)) t := fun t k => pre12 t (by
      show Steps p.tables e below (T8.setTop (mkF m 39 #[.val (.long px), .second, .val (.int sx), .val (.long v1), .second, .val (.ref bx4), .val (.int (1 : Int32)), .val (.long (b0.toInt64)), .second] [(.int (1 : Int32)), (.int (1 : Int32))])) _
      refine XS.icmpYes X8.here hx rfl (pc0 := 39) (pc' := 59) rfl (hb hby at_39) rfl (flt hb11).2.2.2 (by decide) (by decide) ?_
      refine XS.iload X8.here hx rfl (hb hby at_59) rfl ?_
      refine XS.iconst X8.here hx rfl (hb hby at_61) ?_
      exact k)
    have hb13 : ¬ ((2 : Int32) < (1 : Int32)) := (by decide)
    have pre16 : ∀ t, Steps p.tables e below (T8.setTop (mkF m 85 #[.val (.long px), .second, .val (.int sx), .val (.long v1), .second, .val (.ref bx4), .val (.int (1 : Int32)), .val (.long (b0.toInt64)), .second] [(.int (3 : Int32)), (.int (1 : Int32))])) t → Steps p.tables e below (s₁.setTop (entryFrame m #[(.long px), (.int sx)] maxLocals)) t := fun t k => pre14 t (by
      show Steps p.tables e below (T8.setTop (mkF m 62 #[.val (.long px), .second, .val (.int sx), .val (.long v1), .second, .val (.ref bx4), .val (.int (1 : Int32)), .val (.long (b0.toInt64)), .second] [(.int (2 : Int32)), (.int (1 : Int32))])) _
      refine XS.icmpYes X8.here hx rfl (pc0 := 62) (pc' := 82) rfl (hb hby at_62) rfl (flt hb13).2.2.2 (by decide) (by decide) ?_
      refine XS.iload X8.here hx rfl (hb hby at_82) rfl ?_
      refine XS.iconst X8.here hx rfl (hb hby at_84) ?_
      exact k)
    have hb15 : ¬ ((3 : Int32) < (1 : Int32)) := (by decide)
    have pre18 : ∀ t, Steps p.tables e below (T8.setTop (mkF m 108 #[.val (.long px), .second, .val (.int sx), .val (.long v1), .second, .val (.ref bx4), .val (.int (1 : Int32)), .val (.long (b0.toInt64)), .second] [(.int (4 : Int32)), (.int (1 : Int32))])) t → Steps p.tables e below (s₁.setTop (entryFrame m #[(.long px), (.int sx)] maxLocals)) t := fun t k => pre16 t (by
      show Steps p.tables e below (T8.setTop (mkF m 85 #[.val (.long px), .second, .val (.int sx), .val (.long v1), .second, .val (.ref bx4), .val (.int (1 : Int32)), .val (.long (b0.toInt64)), .second] [(.int (3 : Int32)), (.int (1 : Int32))])) _
      refine XS.icmpYes X8.here hx rfl (pc0 := 85) (pc' := 105) rfl (hb hby at_85) rfl (flt hb15).2.2.2 (by decide) (by decide) ?_
      refine XS.iload X8.here hx rfl (hb hby at_105) rfl ?_
      refine XS.iconst X8.here hx rfl (hb hby at_107) ?_
      exact k)
    have hb17 : ¬ ((4 : Int32) < (1 : Int32)) := (by decide)
    have pre20 : ∀ t, Steps p.tables e below (T8.setTop (mkF m 131 #[.val (.long px), .second, .val (.int sx), .val (.long v1), .second, .val (.ref bx4), .val (.int (1 : Int32)), .val (.long (b0.toInt64)), .second] [(.int (5 : Int32)), (.int (1 : Int32))])) t → Steps p.tables e below (s₁.setTop (entryFrame m #[(.long px), (.int sx)] maxLocals)) t := fun t k => pre18 t (by
      show Steps p.tables e below (T8.setTop (mkF m 108 #[.val (.long px), .second, .val (.int sx), .val (.long v1), .second, .val (.ref bx4), .val (.int (1 : Int32)), .val (.long (b0.toInt64)), .second] [(.int (4 : Int32)), (.int (1 : Int32))])) _
      refine XS.icmpYes X8.here hx rfl (pc0 := 108) (pc' := 128) rfl (hb hby at_108) rfl (flt hb17).2.2.2 (by decide) (by decide) ?_
      refine XS.iload X8.here hx rfl (hb hby at_128) rfl ?_
      refine XS.iconst X8.here hx rfl (hb hby at_130) ?_
      exact k)
    have hb19 : ¬ ((5 : Int32) < (1 : Int32)) := (by decide)
    have pre22 : ∀ t, Steps p.tables e below (T8.setTop (mkF m 155 #[.val (.long px), .second, .val (.int sx), .val (.long v1), .second, .val (.ref bx4), .val (.int (1 : Int32)), .val (.long (b0.toInt64)), .second] [(.int (6 : Int32)), (.int (1 : Int32))])) t → Steps p.tables e below (s₁.setTop (entryFrame m #[(.long px), (.int sx)] maxLocals)) t := fun t k => pre20 t (by
      show Steps p.tables e below (T8.setTop (mkF m 131 #[.val (.long px), .second, .val (.int sx), .val (.long v1), .second, .val (.ref bx4), .val (.int (1 : Int32)), .val (.long (b0.toInt64)), .second] [(.int (5 : Int32)), (.int (1 : Int32))])) _
      refine XS.icmpYes X8.here hx rfl (pc0 := 131) (pc' := 151) rfl (hb hby at_131) rfl (flt hb19).2.2.2 (by decide) (by decide) ?_
      refine XS.iload X8.here hx rfl (hb hby at_151) rfl ?_
      refine XS.bipush X8.here hx rfl (hb hby at_153) ?_
      exact k)
    have hb21 : ¬ ((6 : Int32) < (1 : Int32)) := (by decide)
    have pre24 : ∀ t, Steps p.tables e below (T8.setTop (mkF m 180 #[.val (.long px), .second, .val (.int sx), .val (.long v1), .second, .val (.ref bx4), .val (.int (1 : Int32)), .val (.long (b0.toInt64)), .second] [(.int (7 : Int32)), (.int (1 : Int32))])) t → Steps p.tables e below (s₁.setTop (entryFrame m #[(.long px), (.int sx)] maxLocals)) t := fun t k => pre22 t (by
      show Steps p.tables e below (T8.setTop (mkF m 155 #[.val (.long px), .second, .val (.int sx), .val (.long v1), .second, .val (.ref bx4), .val (.int (1 : Int32)), .val (.long (b0.toInt64)), .second] [(.int (6 : Int32)), (.int (1 : Int32))])) _
      refine XS.icmpYes X8.here hx rfl (pc0 := 155) (pc' := 176) rfl (hb hby at_155) rfl (flt hb21).2.2.2 (by decide) (by decide) ?_
      refine XS.iload X8.here hx rfl (hb hby at_176) rfl ?_
      refine XS.bipush X8.here hx rfl (hb hby at_178) ?_
      exact k)
    have hb23 : ¬ ((7 : Int32) < (1 : Int32)) := (by decide)
    have pre27 : ∀ t, Steps p.tables e below (T8.setTop (mkF m 205 #[.val (.long px), .second, .val (.int sx), .val (.long v1), .second, .val (.ref bx4), .val (.int (1 : Int32)), .val (.long (b0.toInt64)), .second] [(.int (XT.cmpL (b0.toInt64) v1))])) t → Steps p.tables e below (s₁.setTop (entryFrame m #[(.long px), (.int sx)] maxLocals)) t := fun t k => pre24 t (by
      show Steps p.tables e below (T8.setTop (mkF m 180 #[.val (.long px), .second, .val (.int sx), .val (.long v1), .second, .val (.ref bx4), .val (.int (1 : Int32)), .val (.long (b0.toInt64)), .second] [(.int (7 : Int32)), (.int (1 : Int32))])) _
      refine XS.icmpYes X8.here hx rfl (pc0 := 180) (pc' := 201) rfl (hb hby at_180) rfl (flt hb23).2.2.2 (by decide) (by decide) ?_
      refine XS.lload X8.here hx rfl (hb hby at_201) rfl ?_
      refine XS.lloadN X8.here hx rfl (hb hby at_203) rfl ?_
      refine XS.lcmp X8.here hx rfl (hb hby at_204) rfl ?_
      exact k)
    have tl26 : ∀ t, Steps p.tables e below (T8.setTop (mkF m 213 #[.val (.long px), .second, .val (.int sx), .val (.long v1), .second, .val (.ref bx4), .val (.int (1 : Int32)), .val (.long (b0.toInt64)), .second] [(.int (bz ((b0.toInt64) = v1)))])) t → Steps p.tables e below (T8.setTop (mkF m 205 #[.val (.long px), .second, .val (.int sx), .val (.long v1), .second, .val (.ref bx4), .val (.int (1 : Int32)), .val (.long (b0.toInt64)), .second] [(.int (XT.cmpL (b0.toInt64) v1))])) t := fun t k => by
      by_cases hb25 : (b0.toInt64) = v1
      · refine XS.ifNo X8.here hx rfl (hb hby at_205) rfl (XT.ll_ne_f hb25) ?_
        rw [bz_one (P := ((b0.toInt64) = v1)) (iff_true_intro hb25)] at k
        show Steps p.tables e below (T8.setTop (mkF m 208 #[.val (.long px), .second, .val (.int sx), .val (.long v1), .second, .val (.ref bx4), .val (.int (1 : Int32)), .val (.long (b0.toInt64)), .second] [])) _
        refine XS.iconst X8.here hx rfl (hb hby at_208) ?_
        refine XS.goto X8.here hx rfl (pc0 := 209) (pc' := 213) rfl (hb hby at_209) (by decide) (by decide) ?_
        exact k
      · refine XS.ifYes X8.here hx rfl (pc0 := 205) (pc' := 212) rfl (hb hby at_205) rfl (XT.ll_ne_t hb25) (by decide) (by decide) ?_
        rw [bz_zero (P := ((b0.toInt64) = v1)) (iff_false_intro hb25)] at k
        show Steps p.tables e below (T8.setTop (mkF m 212 #[.val (.long px), .second, .val (.int sx), .val (.long v1), .second, .val (.ref bx4), .val (.int (1 : Int32)), .val (.long (b0.toInt64)), .second] [])) _
        refine XS.iconst X8.here hx rfl (hb hby at_212) ?_
        exact k
    have pre28 : ∀ t, Steps p.tables e below (T8.setTop (mkF m 213 #[.val (.long px), .second, .val (.int sx), .val (.long v1), .second, .val (.ref bx4), .val (.int (1 : Int32)), .val (.long (b0.toInt64)), .second] [(.int (bz ((b0.toInt64) = v1)))])) t → Steps p.tables e below (s₁.setTop (entryFrame m #[(.long px), (.int sx)] maxLocals)) t := fun t k => pre27 t (by
      exact tl26 t k)
    obtain ⟨fs, hr, hrun, hended, hW, hsame⟩ := X8.leave (v := some (.int (nar .boolean (bz ((b0.toInt64) = v1))))) (fun h => by rw [Bd.returns] at h; cases h)
    refine ⟨_, _, pre28 _ ?_, hrun, hended, _, _, rfl, ?_, ⟨_, rfl⟩, hW, hsame.mono (by decide) (by decide)⟩
    · show Steps p.tables e below (T8.setTop (mkF m 213 #[.val (.long px), .second, .val (.int sx), .val (.long v1), .second, .val (.ref bx4), .val (.int (1 : Int32)), .val (.long (b0.toInt64)), .second] [(.int (bz ((b0.toInt64) = v1)))])) _
      exact retN X8 hx (t := .boolean) Bd.returns (by simp) (hb hby at_213) hr
    · show Q0 Z px sx n0 [] _ T8.heap _
      have R29 : Rep Z n0 T8.heap ([]) := (R8.front 0 rfl rfl : Rep Z n0 T8.heap ((bx4, Ar .byte [(.int b0)]) :: [])).tail
      exact ⟨(by exact ow_fin hR), N8, R29⟩
  · have R30 : Rep Z n0 T4.heap ((bx4, Ar .byte [(.int b0), (.int b1)]) :: []) := by rw [← hE]; exact R4
    have pre31 : ∀ t, Steps p.tables e below (T4.setTop (mkF m 21 #[.val (.long px), .second, .val (.int sx), .val (.long v1), .second, .val (.ref bx4), .val (.int (2 : Int32)), .unset, .unset] [(.long v1), (.int (2 : Int32))])) t → Steps p.tables e below (s₁.setTop (entryFrame m #[(.long px), (.int sx)] maxLocals)) t := fun t k => pre5 t (by
      show Steps p.tables e below (T4.setTop (mkF m 11 #[.val (.long px), .second, .val (.int sx), .val (.long v1), .second, .unset, .unset, .unset, .unset] [(.ref bx4)])) _
      refine XS.astore X4.here hx rfl (hb hby at_11) rfl rfl (l' := #[.val (.long px), .second, .val (.int sx), .val (.long v1), .second, .val (.ref bx4), .unset, .unset, .unset]) rfl ?_
      refine XS.aload X4.here hx rfl (hb hby at_13) rfl rfl ?_
      refine gLen X4 hx hZ rfl R30 0 rfl (g := (mkF m 15 #[.val (.long px), .second, .val (.int sx), .val (.long v1), .second, .val (.ref bx4), .unset, .unset, .unset] [(.ref bx4)])) rfl rfl (hb hby at_15) (z := (2 : Int32)) (rfl) _ ?_
      refine XS.istore X4.here hx rfl (hb hby at_16) rfl (l' := #[.val (.long px), .second, .val (.int sx), .val (.long v1), .second, .val (.ref bx4), .val (.int (2 : Int32)), .unset, .unset]) rfl ?_
      refine XS.iload X4.here hx rfl (hb hby at_18) rfl ?_
      refine XS.lloadN X4.here hx rfl (hb hby at_20) rfl ?_
      exact k)
    obtain ⟨_, _, ⟨T32, L32, k32, n32⟩, -, X32, ⟨Lc32, hQ32, l32, y32, z32⟩, st32⟩ := Jvm.LawKit.callS X4 hx (y := (⟨"com/example/sidetrack/sidetrack/codec/BerIntegerEncodePinLaw", "expectedLength", "(J)I"⟩ : MethodName)) hown (mvT hZ (hw _ (List.mem_of_getElem? (i := 5) rfl))) (mvT hZ (hw _ (List.mem_of_getElem? (i := 6) rfl))) (mvT hZ (hw _ (List.mem_of_getElem? (i := 7) rfl))) (mvT hZ (hw _ (List.mem_of_getElem? (i := 8) rfl))) (by decide) (backOf (W := 1) (rm2 l Z a0 hw [] v1  T4.heap n0 _ R30 ) hZ (hw _ (List.mem_of_getElem? (i := 8) rfl)) (hw _ (List.mem_of_getElem? (i := 7) rfl)) (by decide) (by decide)) (g := (mkF m 21 #[.val (.long px), .second, .val (.int sx), .val (.long v1), .second, .val (.ref bx4), .val (.int (2 : Int32)), .unset, .unset] [(.long v1), (.int (2 : Int32))])) rfl (by rw [hml]; rfl) (argsL := [(.long v1)]) (rest := [(.int (2 : Int32))]) (lenOf pd__28J_29I rfl) rfl (by show 2 * 0 + _ ≤ _; exact Nat.le_of_eq rfl) (hb hby at_21) (fun _ _ => ⟨rfl, rfl, (by decide : 1 + 0 ≤ _), (by decide : 8 + 0 ≤ _)⟩)
    dsimp only [Pt.U, Pt.locs, Pt.cells, Pt.slots] at X32 l32 y32 z32 st32 hQ32
    subst l32 y32 z32
    obtain ⟨rfl, N32q, R32⟩ := hQ32
    have N32 := Fr.app N4 N32q
    replace R32 : Rep Z n0 T32.heap ((bx4, Ar .byte [(.int b0), (.int b1)]) :: []) := R32
    have pre33 : ∀ t, Steps p.tables e below (T32.setTop (mkF m 24 #[.val (.long px), .second, .val (.int sx), .val (.long v1), .second, .val (.ref bx4), .val (.int (2 : Int32)), .unset, .unset] [(.int (F2 v1)), (.int (2 : Int32))])) t → Steps p.tables e below (s₁.setTop (entryFrame m #[(.long px), (.int sx)] maxLocals)) t := fun t k => pre31 t (st32 t k)
    have hb34 : (2 : Int32) = (F2 v1) := hF.symm
    have pre36 : ∀ t, Steps p.tables e below (T32.setTop (mkF m 39 #[.val (.long px), .second, .val (.int sx), .val (.long v1), .second, .val (.ref bx4), .val (.int (2 : Int32)), .val (.long (b0.toInt64)), .second] [(.int (1 : Int32)), (.int (2 : Int32))])) t → Steps p.tables e below (s₁.setTop (entryFrame m #[(.long px), (.int sx)] maxLocals)) t := fun t k => pre33 t (by
      show Steps p.tables e below (T32.setTop (mkF m 24 #[.val (.long px), .second, .val (.int sx), .val (.long v1), .second, .val (.ref bx4), .val (.int (2 : Int32)), .unset, .unset] [(.int (F2 v1)), (.int (2 : Int32))])) _
      refine XS.icmpYes X32.here hx rfl (pc0 := 24) (pc' := 29) rfl (hb hby at_24) rfl (teq hb34).1 (by decide) (by decide) ?_
      refine XS.aload X32.here hx rfl (hb hby at_29) rfl rfl ?_
      refine XS.iconst X32.here hx rfl (hb hby at_31) ?_
      refine gBald X32 hx hZ rfl R32 0 rfl (j := (0 : Int32)) (v := (.int b0)) (by decide) rfl (g := (mkF m 32 #[.val (.long px), .second, .val (.int sx), .val (.long v1), .second, .val (.ref bx4), .val (.int (2 : Int32)), .unset, .unset] [(.int (0 : Int32)), (.ref bx4)])) rfl rfl (hb hby at_32) _ ?_
      refine XS.i2l X32.here hx rfl (hb hby at_33) rfl ?_
      refine XS.lstore X32.here hx rfl (hb hby at_34) rfl (l' := #[.val (.long px), .second, .val (.int sx), .val (.long v1), .second, .val (.ref bx4), .val (.int (2 : Int32)), .val (.long (b0.toInt64)), .second]) rfl ?_
      refine XS.iload X32.here hx rfl (hb hby at_36) rfl ?_
      show Steps p.tables e below (T32.setTop (mkF m 38 #[.val (.long px), .second, .val (.int sx), .val (.long v1), .second, .val (.ref bx4), .val (.int (2 : Int32)), .val (.long (b0.toInt64)), .second] [(.int (2 : Int32))])) _
      refine XS.iconst X32.here hx rfl (hb hby at_38) ?_
      exact k)
    have hb35 : (1 : Int32) < (2 : Int32) := (by decide)
    have pre38 : ∀ t, Steps p.tables e below (T32.setTop (mkF m 59 #[.val (.long px), .second, .val (.int sx), .val (.long v1), .second, .val (.ref bx4), .val (.int (2 : Int32)), .val (.long ((lshl (b0.toInt64) (8 : Int32)) ||| ((b1 &&& (255 : Int32)).toInt64))), .second] [])) t → Steps p.tables e below (s₁.setTop (entryFrame m #[(.long px), (.int sx)] maxLocals)) t := fun t k => pre36 t (by
      show Steps p.tables e below (T32.setTop (mkF m 39 #[.val (.long px), .second, .val (.int sx), .val (.long v1), .second, .val (.ref bx4), .val (.int (2 : Int32)), .val (.long (b0.toInt64)), .second] [(.int (1 : Int32)), (.int (2 : Int32))])) _
      refine XS.icmpNo X32.here hx rfl (hb hby at_39) rfl (tlt hb35).2.2.2 ?_
      refine XS.lload X32.here hx rfl (hb hby at_42) rfl ?_
      refine XS.bipush X32.here hx rfl (hb hby at_44) ?_
      refine XS.lshl X32.here hx rfl (hb hby at_46) rfl ?_
      refine XS.aload X32.here hx rfl (hb hby at_47) rfl rfl ?_
      refine XS.iconst X32.here hx rfl (hb hby at_49) ?_
      refine gBald X32 hx hZ rfl R32 0 rfl (j := (1 : Int32)) (v := (.int b1)) (by decide) rfl (g := (mkF m 50 #[.val (.long px), .second, .val (.int sx), .val (.long v1), .second, .val (.ref bx4), .val (.int (2 : Int32)), .val (.long (b0.toInt64)), .second] [(.int (1 : Int32)), (.ref bx4), (.long (lshl (b0.toInt64) (8 : Int32)))])) rfl rfl (hb hby at_50) _ ?_
      show Steps p.tables e below (T32.setTop (mkF m 51 #[.val (.long px), .second, .val (.int sx), .val (.long v1), .second, .val (.ref bx4), .val (.int (2 : Int32)), .val (.long (b0.toInt64)), .second] [(.int b1), (.long (lshl (b0.toInt64) (8 : Int32)))])) _
      refine XS.sipush X32.here hx rfl (hb hby at_51) ?_
      refine XS.iand X32.here hx rfl (hb hby at_54) rfl ?_
      refine XS.i2l X32.here hx rfl (hb hby at_55) rfl ?_
      refine XS.lor X32.here hx rfl (hb hby at_56) rfl ?_
      refine XS.lstore X32.here hx rfl (hb hby at_57) rfl (l' := #[.val (.long px), .second, .val (.int sx), .val (.long v1), .second, .val (.ref bx4), .val (.int (2 : Int32)), .val (.long ((lshl (b0.toInt64) (8 : Int32)) ||| ((b1 &&& (255 : Int32)).toInt64))), .second]) rfl ?_
      exact k)
    obtain ⟨v37, hv37⟩ : ∃ z : Int64, z = ((lshl (b0.toInt64) (8 : Int32)) ||| ((b1 &&& (255 : Int32)).toInt64)) := ⟨_, rfl⟩
    rw [← hv37] at pre38
    have pre40 : ∀ t, Steps p.tables e below (T32.setTop (mkF m 62 #[.val (.long px), .second, .val (.int sx), .val (.long v1), .second, .val (.ref bx4), .val (.int (2 : Int32)), .val (.long v37), .second] [(.int (2 : Int32)), (.int (2 : Int32))])) t → Steps p.tables e below (s₁.setTop (entryFrame m #[(.long px), (.int sx)] maxLocals)) t := fun t k => pre38 t (by
      show Steps p.tables e below (T32.setTop (mkF m 59 #[.val (.long px), .second, .val (.int sx), .val (.long v1), .second, .val (.ref bx4), .val (.int (2 : Int32)), .val (.long v37), .second] [])) _
      refine XS.iload X32.here hx rfl (hb hby at_59) rfl ?_
      refine XS.iconst X32.here hx rfl (hb hby at_61) ?_
      exact k)
    have hb39 : ¬ ((2 : Int32) < (2 : Int32)) := (by decide)
    have pre42 : ∀ t, Steps p.tables e below (T32.setTop (mkF m 85 #[.val (.long px), .second, .val (.int sx), .val (.long v1), .second, .val (.ref bx4), .val (.int (2 : Int32)), .val (.long v37), .second] [(.int (3 : Int32)), (.int (2 : Int32))])) t → Steps p.tables e below (s₁.setTop (entryFrame m #[(.long px), (.int sx)] maxLocals)) t := fun t k => pre40 t (by
      show Steps p.tables e below (T32.setTop (mkF m 62 #[.val (.long px), .second, .val (.int sx), .val (.long v1), .second, .val (.ref bx4), .val (.int (2 : Int32)), .val (.long v37), .second] [(.int (2 : Int32)), (.int (2 : Int32))])) _
      refine XS.icmpYes X32.here hx rfl (pc0 := 62) (pc' := 82) rfl (hb hby at_62) rfl (flt hb39).2.2.2 (by decide) (by decide) ?_
      refine XS.iload X32.here hx rfl (hb hby at_82) rfl ?_
      refine XS.iconst X32.here hx rfl (hb hby at_84) ?_
      exact k)
    have hb41 : ¬ ((3 : Int32) < (2 : Int32)) := (by decide)
    have pre44 : ∀ t, Steps p.tables e below (T32.setTop (mkF m 108 #[.val (.long px), .second, .val (.int sx), .val (.long v1), .second, .val (.ref bx4), .val (.int (2 : Int32)), .val (.long v37), .second] [(.int (4 : Int32)), (.int (2 : Int32))])) t → Steps p.tables e below (s₁.setTop (entryFrame m #[(.long px), (.int sx)] maxLocals)) t := fun t k => pre42 t (by
      show Steps p.tables e below (T32.setTop (mkF m 85 #[.val (.long px), .second, .val (.int sx), .val (.long v1), .second, .val (.ref bx4), .val (.int (2 : Int32)), .val (.long v37), .second] [(.int (3 : Int32)), (.int (2 : Int32))])) _
      refine XS.icmpYes X32.here hx rfl (pc0 := 85) (pc' := 105) rfl (hb hby at_85) rfl (flt hb41).2.2.2 (by decide) (by decide) ?_
      refine XS.iload X32.here hx rfl (hb hby at_105) rfl ?_
      refine XS.iconst X32.here hx rfl (hb hby at_107) ?_
      exact k)
    have hb43 : ¬ ((4 : Int32) < (2 : Int32)) := (by decide)
    have pre46 : ∀ t, Steps p.tables e below (T32.setTop (mkF m 131 #[.val (.long px), .second, .val (.int sx), .val (.long v1), .second, .val (.ref bx4), .val (.int (2 : Int32)), .val (.long v37), .second] [(.int (5 : Int32)), (.int (2 : Int32))])) t → Steps p.tables e below (s₁.setTop (entryFrame m #[(.long px), (.int sx)] maxLocals)) t := fun t k => pre44 t (by
      show Steps p.tables e below (T32.setTop (mkF m 108 #[.val (.long px), .second, .val (.int sx), .val (.long v1), .second, .val (.ref bx4), .val (.int (2 : Int32)), .val (.long v37), .second] [(.int (4 : Int32)), (.int (2 : Int32))])) _
      refine XS.icmpYes X32.here hx rfl (pc0 := 108) (pc' := 128) rfl (hb hby at_108) rfl (flt hb43).2.2.2 (by decide) (by decide) ?_
      refine XS.iload X32.here hx rfl (hb hby at_128) rfl ?_
      refine XS.iconst X32.here hx rfl (hb hby at_130) ?_
      exact k)
    have hb45 : ¬ ((5 : Int32) < (2 : Int32)) := (by decide)
    have pre48 : ∀ t, Steps p.tables e below (T32.setTop (mkF m 155 #[.val (.long px), .second, .val (.int sx), .val (.long v1), .second, .val (.ref bx4), .val (.int (2 : Int32)), .val (.long v37), .second] [(.int (6 : Int32)), (.int (2 : Int32))])) t → Steps p.tables e below (s₁.setTop (entryFrame m #[(.long px), (.int sx)] maxLocals)) t := fun t k => pre46 t (by
      show Steps p.tables e below (T32.setTop (mkF m 131 #[.val (.long px), .second, .val (.int sx), .val (.long v1), .second, .val (.ref bx4), .val (.int (2 : Int32)), .val (.long v37), .second] [(.int (5 : Int32)), (.int (2 : Int32))])) _
      refine XS.icmpYes X32.here hx rfl (pc0 := 131) (pc' := 151) rfl (hb hby at_131) rfl (flt hb45).2.2.2 (by decide) (by decide) ?_
      refine XS.iload X32.here hx rfl (hb hby at_151) rfl ?_
      refine XS.bipush X32.here hx rfl (hb hby at_153) ?_
      exact k)
    have hb47 : ¬ ((6 : Int32) < (2 : Int32)) := (by decide)
    have pre50 : ∀ t, Steps p.tables e below (T32.setTop (mkF m 180 #[.val (.long px), .second, .val (.int sx), .val (.long v1), .second, .val (.ref bx4), .val (.int (2 : Int32)), .val (.long v37), .second] [(.int (7 : Int32)), (.int (2 : Int32))])) t → Steps p.tables e below (s₁.setTop (entryFrame m #[(.long px), (.int sx)] maxLocals)) t := fun t k => pre48 t (by
      show Steps p.tables e below (T32.setTop (mkF m 155 #[.val (.long px), .second, .val (.int sx), .val (.long v1), .second, .val (.ref bx4), .val (.int (2 : Int32)), .val (.long v37), .second] [(.int (6 : Int32)), (.int (2 : Int32))])) _
      refine XS.icmpYes X32.here hx rfl (pc0 := 155) (pc' := 176) rfl (hb hby at_155) rfl (flt hb47).2.2.2 (by decide) (by decide) ?_
      refine XS.iload X32.here hx rfl (hb hby at_176) rfl ?_
      refine XS.bipush X32.here hx rfl (hb hby at_178) ?_
      exact k)
    have hb49 : ¬ ((7 : Int32) < (2 : Int32)) := (by decide)
    have pre53 : ∀ t, Steps p.tables e below (T32.setTop (mkF m 205 #[.val (.long px), .second, .val (.int sx), .val (.long v1), .second, .val (.ref bx4), .val (.int (2 : Int32)), .val (.long v37), .second] [(.int (XT.cmpL v37 v1))])) t → Steps p.tables e below (s₁.setTop (entryFrame m #[(.long px), (.int sx)] maxLocals)) t := fun t k => pre50 t (by
      show Steps p.tables e below (T32.setTop (mkF m 180 #[.val (.long px), .second, .val (.int sx), .val (.long v1), .second, .val (.ref bx4), .val (.int (2 : Int32)), .val (.long v37), .second] [(.int (7 : Int32)), (.int (2 : Int32))])) _
      refine XS.icmpYes X32.here hx rfl (pc0 := 180) (pc' := 201) rfl (hb hby at_180) rfl (flt hb49).2.2.2 (by decide) (by decide) ?_
      refine XS.lload X32.here hx rfl (hb hby at_201) rfl ?_
      refine XS.lloadN X32.here hx rfl (hb hby at_203) rfl ?_
      refine XS.lcmp X32.here hx rfl (hb hby at_204) rfl ?_
      exact k)
    have tl52 : ∀ t, Steps p.tables e below (T32.setTop (mkF m 213 #[.val (.long px), .second, .val (.int sx), .val (.long v1), .second, .val (.ref bx4), .val (.int (2 : Int32)), .val (.long v37), .second] [(.int (bz (v37 = v1)))])) t → Steps p.tables e below (T32.setTop (mkF m 205 #[.val (.long px), .second, .val (.int sx), .val (.long v1), .second, .val (.ref bx4), .val (.int (2 : Int32)), .val (.long v37), .second] [(.int (XT.cmpL v37 v1))])) t := fun t k => by
      by_cases hb51 : v37 = v1
      · refine XS.ifNo X32.here hx rfl (hb hby at_205) rfl (XT.ll_ne_f hb51) ?_
        rw [bz_one (P := (v37 = v1)) (iff_true_intro hb51)] at k
        show Steps p.tables e below (T32.setTop (mkF m 208 #[.val (.long px), .second, .val (.int sx), .val (.long v1), .second, .val (.ref bx4), .val (.int (2 : Int32)), .val (.long v37), .second] [])) _
        refine XS.iconst X32.here hx rfl (hb hby at_208) ?_
        refine XS.goto X32.here hx rfl (pc0 := 209) (pc' := 213) rfl (hb hby at_209) (by decide) (by decide) ?_
        exact k
      · refine XS.ifYes X32.here hx rfl (pc0 := 205) (pc' := 212) rfl (hb hby at_205) rfl (XT.ll_ne_t hb51) (by decide) (by decide) ?_
        rw [bz_zero (P := (v37 = v1)) (iff_false_intro hb51)] at k
        show Steps p.tables e below (T32.setTop (mkF m 212 #[.val (.long px), .second, .val (.int sx), .val (.long v1), .second, .val (.ref bx4), .val (.int (2 : Int32)), .val (.long v37), .second] [])) _
        refine XS.iconst X32.here hx rfl (hb hby at_212) ?_
        exact k
    have pre54 : ∀ t, Steps p.tables e below (T32.setTop (mkF m 213 #[.val (.long px), .second, .val (.int sx), .val (.long v1), .second, .val (.ref bx4), .val (.int (2 : Int32)), .val (.long v37), .second] [(.int (bz (v37 = v1)))])) t → Steps p.tables e below (s₁.setTop (entryFrame m #[(.long px), (.int sx)] maxLocals)) t := fun t k => pre53 t (by
      exact tl52 t k)
    obtain ⟨fs, hr, hrun, hended, hW, hsame⟩ := X32.leave (v := some (.int (nar .boolean (bz (v37 = v1))))) (fun h => by rw [Bd.returns] at h; cases h)
    refine ⟨_, _, pre54 _ ?_, hrun, hended, _, _, rfl, ?_, ⟨_, rfl⟩, hW, hsame.mono (by decide) (by decide)⟩
    · show Steps p.tables e below (T32.setTop (mkF m 213 #[.val (.long px), .second, .val (.int sx), .val (.long v1), .second, .val (.ref bx4), .val (.int (2 : Int32)), .val (.long v37), .second] [(.int (bz (v37 = v1)))])) _
      exact retN X32 hx (t := .boolean) Bd.returns (by simp) (hb hby at_213) hr
    · show Q0 Z px sx n0 [] _ T32.heap _
      have R55 : Rep Z n0 T32.heap ([]) := (R32.front 0 rfl rfl : Rep Z n0 T32.heap ((bx4, Ar .byte [(.int b0), (.int b1)]) :: [])).tail
      exact ⟨(by subst hv37; exact ow_fin hR), N32, R55⟩
  · have R56 : Rep Z n0 T4.heap ((bx4, Ar .byte [(.int b0), (.int b1), (.int b2)]) :: []) := by rw [← hE]; exact R4
    have pre57 : ∀ t, Steps p.tables e below (T4.setTop (mkF m 21 #[.val (.long px), .second, .val (.int sx), .val (.long v1), .second, .val (.ref bx4), .val (.int (3 : Int32)), .unset, .unset] [(.long v1), (.int (3 : Int32))])) t → Steps p.tables e below (s₁.setTop (entryFrame m #[(.long px), (.int sx)] maxLocals)) t := fun t k => pre5 t (by
      show Steps p.tables e below (T4.setTop (mkF m 11 #[.val (.long px), .second, .val (.int sx), .val (.long v1), .second, .unset, .unset, .unset, .unset] [(.ref bx4)])) _
      refine XS.astore X4.here hx rfl (hb hby at_11) rfl rfl (l' := #[.val (.long px), .second, .val (.int sx), .val (.long v1), .second, .val (.ref bx4), .unset, .unset, .unset]) rfl ?_
      refine XS.aload X4.here hx rfl (hb hby at_13) rfl rfl ?_
      refine gLen X4 hx hZ rfl R56 0 rfl (g := (mkF m 15 #[.val (.long px), .second, .val (.int sx), .val (.long v1), .second, .val (.ref bx4), .unset, .unset, .unset] [(.ref bx4)])) rfl rfl (hb hby at_15) (z := (3 : Int32)) (rfl) _ ?_
      refine XS.istore X4.here hx rfl (hb hby at_16) rfl (l' := #[.val (.long px), .second, .val (.int sx), .val (.long v1), .second, .val (.ref bx4), .val (.int (3 : Int32)), .unset, .unset]) rfl ?_
      refine XS.iload X4.here hx rfl (hb hby at_18) rfl ?_
      refine XS.lloadN X4.here hx rfl (hb hby at_20) rfl ?_
      exact k)
    obtain ⟨_, _, ⟨T58, L58, k58, n58⟩, -, X58, ⟨Lc58, hQ58, l58, y58, z58⟩, st58⟩ := Jvm.LawKit.callS X4 hx (y := (⟨"com/example/sidetrack/sidetrack/codec/BerIntegerEncodePinLaw", "expectedLength", "(J)I"⟩ : MethodName)) hown (mvT hZ (hw _ (List.mem_of_getElem? (i := 5) rfl))) (mvT hZ (hw _ (List.mem_of_getElem? (i := 6) rfl))) (mvT hZ (hw _ (List.mem_of_getElem? (i := 7) rfl))) (mvT hZ (hw _ (List.mem_of_getElem? (i := 8) rfl))) (by decide) (backOf (W := 1) (rm2 l Z a0 hw [] v1  T4.heap n0 _ R56 ) hZ (hw _ (List.mem_of_getElem? (i := 8) rfl)) (hw _ (List.mem_of_getElem? (i := 7) rfl)) (by decide) (by decide)) (g := (mkF m 21 #[.val (.long px), .second, .val (.int sx), .val (.long v1), .second, .val (.ref bx4), .val (.int (3 : Int32)), .unset, .unset] [(.long v1), (.int (3 : Int32))])) rfl (by rw [hml]; rfl) (argsL := [(.long v1)]) (rest := [(.int (3 : Int32))]) (lenOf pd__28J_29I rfl) rfl (by show 2 * 0 + _ ≤ _; exact Nat.le_of_eq rfl) (hb hby at_21) (fun _ _ => ⟨rfl, rfl, (by decide : 1 + 0 ≤ _), (by decide : 8 + 0 ≤ _)⟩)
    dsimp only [Pt.U, Pt.locs, Pt.cells, Pt.slots] at X58 l58 y58 z58 st58 hQ58
    subst l58 y58 z58
    obtain ⟨rfl, N58q, R58⟩ := hQ58
    have N58 := Fr.app N4 N58q
    replace R58 : Rep Z n0 T58.heap ((bx4, Ar .byte [(.int b0), (.int b1), (.int b2)]) :: []) := R58
    have pre59 : ∀ t, Steps p.tables e below (T58.setTop (mkF m 24 #[.val (.long px), .second, .val (.int sx), .val (.long v1), .second, .val (.ref bx4), .val (.int (3 : Int32)), .unset, .unset] [(.int (F2 v1)), (.int (3 : Int32))])) t → Steps p.tables e below (s₁.setTop (entryFrame m #[(.long px), (.int sx)] maxLocals)) t := fun t k => pre57 t (st58 t k)
    have hb60 : (3 : Int32) = (F2 v1) := hF.symm
    have pre62 : ∀ t, Steps p.tables e below (T58.setTop (mkF m 39 #[.val (.long px), .second, .val (.int sx), .val (.long v1), .second, .val (.ref bx4), .val (.int (3 : Int32)), .val (.long (b0.toInt64)), .second] [(.int (1 : Int32)), (.int (3 : Int32))])) t → Steps p.tables e below (s₁.setTop (entryFrame m #[(.long px), (.int sx)] maxLocals)) t := fun t k => pre59 t (by
      show Steps p.tables e below (T58.setTop (mkF m 24 #[.val (.long px), .second, .val (.int sx), .val (.long v1), .second, .val (.ref bx4), .val (.int (3 : Int32)), .unset, .unset] [(.int (F2 v1)), (.int (3 : Int32))])) _
      refine XS.icmpYes X58.here hx rfl (pc0 := 24) (pc' := 29) rfl (hb hby at_24) rfl (teq hb60).1 (by decide) (by decide) ?_
      refine XS.aload X58.here hx rfl (hb hby at_29) rfl rfl ?_
      refine XS.iconst X58.here hx rfl (hb hby at_31) ?_
      refine gBald X58 hx hZ rfl R58 0 rfl (j := (0 : Int32)) (v := (.int b0)) (by decide) rfl (g := (mkF m 32 #[.val (.long px), .second, .val (.int sx), .val (.long v1), .second, .val (.ref bx4), .val (.int (3 : Int32)), .unset, .unset] [(.int (0 : Int32)), (.ref bx4)])) rfl rfl (hb hby at_32) _ ?_
      refine XS.i2l X58.here hx rfl (hb hby at_33) rfl ?_
      refine XS.lstore X58.here hx rfl (hb hby at_34) rfl (l' := #[.val (.long px), .second, .val (.int sx), .val (.long v1), .second, .val (.ref bx4), .val (.int (3 : Int32)), .val (.long (b0.toInt64)), .second]) rfl ?_
      refine XS.iload X58.here hx rfl (hb hby at_36) rfl ?_
      show Steps p.tables e below (T58.setTop (mkF m 38 #[.val (.long px), .second, .val (.int sx), .val (.long v1), .second, .val (.ref bx4), .val (.int (3 : Int32)), .val (.long (b0.toInt64)), .second] [(.int (3 : Int32))])) _
      refine XS.iconst X58.here hx rfl (hb hby at_38) ?_
      exact k)
    have hb61 : (1 : Int32) < (3 : Int32) := (by decide)
    have pre64 : ∀ t, Steps p.tables e below (T58.setTop (mkF m 59 #[.val (.long px), .second, .val (.int sx), .val (.long v1), .second, .val (.ref bx4), .val (.int (3 : Int32)), .val (.long ((lshl (b0.toInt64) (8 : Int32)) ||| ((b1 &&& (255 : Int32)).toInt64))), .second] [])) t → Steps p.tables e below (s₁.setTop (entryFrame m #[(.long px), (.int sx)] maxLocals)) t := fun t k => pre62 t (by
      show Steps p.tables e below (T58.setTop (mkF m 39 #[.val (.long px), .second, .val (.int sx), .val (.long v1), .second, .val (.ref bx4), .val (.int (3 : Int32)), .val (.long (b0.toInt64)), .second] [(.int (1 : Int32)), (.int (3 : Int32))])) _
      refine XS.icmpNo X58.here hx rfl (hb hby at_39) rfl (tlt hb61).2.2.2 ?_
      refine XS.lload X58.here hx rfl (hb hby at_42) rfl ?_
      refine XS.bipush X58.here hx rfl (hb hby at_44) ?_
      refine XS.lshl X58.here hx rfl (hb hby at_46) rfl ?_
      refine XS.aload X58.here hx rfl (hb hby at_47) rfl rfl ?_
      refine XS.iconst X58.here hx rfl (hb hby at_49) ?_
      refine gBald X58 hx hZ rfl R58 0 rfl (j := (1 : Int32)) (v := (.int b1)) (by decide) rfl (g := (mkF m 50 #[.val (.long px), .second, .val (.int sx), .val (.long v1), .second, .val (.ref bx4), .val (.int (3 : Int32)), .val (.long (b0.toInt64)), .second] [(.int (1 : Int32)), (.ref bx4), (.long (lshl (b0.toInt64) (8 : Int32)))])) rfl rfl (hb hby at_50) _ ?_
      show Steps p.tables e below (T58.setTop (mkF m 51 #[.val (.long px), .second, .val (.int sx), .val (.long v1), .second, .val (.ref bx4), .val (.int (3 : Int32)), .val (.long (b0.toInt64)), .second] [(.int b1), (.long (lshl (b0.toInt64) (8 : Int32)))])) _
      refine XS.sipush X58.here hx rfl (hb hby at_51) ?_
      refine XS.iand X58.here hx rfl (hb hby at_54) rfl ?_
      refine XS.i2l X58.here hx rfl (hb hby at_55) rfl ?_
      refine XS.lor X58.here hx rfl (hb hby at_56) rfl ?_
      refine XS.lstore X58.here hx rfl (hb hby at_57) rfl (l' := #[.val (.long px), .second, .val (.int sx), .val (.long v1), .second, .val (.ref bx4), .val (.int (3 : Int32)), .val (.long ((lshl (b0.toInt64) (8 : Int32)) ||| ((b1 &&& (255 : Int32)).toInt64))), .second]) rfl ?_
      exact k)
    obtain ⟨v63, hv63⟩ : ∃ z : Int64, z = ((lshl (b0.toInt64) (8 : Int32)) ||| ((b1 &&& (255 : Int32)).toInt64)) := ⟨_, rfl⟩
    rw [← hv63] at pre64
    have pre66 : ∀ t, Steps p.tables e below (T58.setTop (mkF m 62 #[.val (.long px), .second, .val (.int sx), .val (.long v1), .second, .val (.ref bx4), .val (.int (3 : Int32)), .val (.long v63), .second] [(.int (2 : Int32)), (.int (3 : Int32))])) t → Steps p.tables e below (s₁.setTop (entryFrame m #[(.long px), (.int sx)] maxLocals)) t := fun t k => pre64 t (by
      show Steps p.tables e below (T58.setTop (mkF m 59 #[.val (.long px), .second, .val (.int sx), .val (.long v1), .second, .val (.ref bx4), .val (.int (3 : Int32)), .val (.long v63), .second] [])) _
      refine XS.iload X58.here hx rfl (hb hby at_59) rfl ?_
      refine XS.iconst X58.here hx rfl (hb hby at_61) ?_
      exact k)
    have hb65 : (2 : Int32) < (3 : Int32) := (by decide)
    have pre68 : ∀ t, Steps p.tables e below (T58.setTop (mkF m 82 #[.val (.long px), .second, .val (.int sx), .val (.long v1), .second, .val (.ref bx4), .val (.int (3 : Int32)), .val (.long ((lshl v63 (8 : Int32)) ||| ((b2 &&& (255 : Int32)).toInt64))), .second] [])) t → Steps p.tables e below (s₁.setTop (entryFrame m #[(.long px), (.int sx)] maxLocals)) t := fun t k => pre66 t (by
      show Steps p.tables e below (T58.setTop (mkF m 62 #[.val (.long px), .second, .val (.int sx), .val (.long v1), .second, .val (.ref bx4), .val (.int (3 : Int32)), .val (.long v63), .second] [(.int (2 : Int32)), (.int (3 : Int32))])) _
      refine XS.icmpNo X58.here hx rfl (hb hby at_62) rfl (tlt hb65).2.2.2 ?_
      refine XS.lload X58.here hx rfl (hb hby at_65) rfl ?_
      refine XS.bipush X58.here hx rfl (hb hby at_67) ?_
      refine XS.lshl X58.here hx rfl (hb hby at_69) rfl ?_
      refine XS.aload X58.here hx rfl (hb hby at_70) rfl rfl ?_
      refine XS.iconst X58.here hx rfl (hb hby at_72) ?_
      refine gBald X58 hx hZ rfl R58 0 rfl (j := (2 : Int32)) (v := (.int b2)) (by decide) rfl (g := (mkF m 73 #[.val (.long px), .second, .val (.int sx), .val (.long v1), .second, .val (.ref bx4), .val (.int (3 : Int32)), .val (.long v63), .second] [(.int (2 : Int32)), (.ref bx4), (.long (lshl v63 (8 : Int32)))])) rfl rfl (hb hby at_73) _ ?_
      show Steps p.tables e below (T58.setTop (mkF m 74 #[.val (.long px), .second, .val (.int sx), .val (.long v1), .second, .val (.ref bx4), .val (.int (3 : Int32)), .val (.long v63), .second] [(.int b2), (.long (lshl v63 (8 : Int32)))])) _
      refine XS.sipush X58.here hx rfl (hb hby at_74) ?_
      refine XS.iand X58.here hx rfl (hb hby at_77) rfl ?_
      refine XS.i2l X58.here hx rfl (hb hby at_78) rfl ?_
      refine XS.lor X58.here hx rfl (hb hby at_79) rfl ?_
      refine XS.lstore X58.here hx rfl (hb hby at_80) rfl (l' := #[.val (.long px), .second, .val (.int sx), .val (.long v1), .second, .val (.ref bx4), .val (.int (3 : Int32)), .val (.long ((lshl v63 (8 : Int32)) ||| ((b2 &&& (255 : Int32)).toInt64))), .second]) rfl ?_
      exact k)
    obtain ⟨v67, hv67⟩ : ∃ z : Int64, z = ((lshl v63 (8 : Int32)) ||| ((b2 &&& (255 : Int32)).toInt64)) := ⟨_, rfl⟩
    rw [← hv67] at pre68
    have pre70 : ∀ t, Steps p.tables e below (T58.setTop (mkF m 85 #[.val (.long px), .second, .val (.int sx), .val (.long v1), .second, .val (.ref bx4), .val (.int (3 : Int32)), .val (.long v67), .second] [(.int (3 : Int32)), (.int (3 : Int32))])) t → Steps p.tables e below (s₁.setTop (entryFrame m #[(.long px), (.int sx)] maxLocals)) t := fun t k => pre68 t (by
      show Steps p.tables e below (T58.setTop (mkF m 82 #[.val (.long px), .second, .val (.int sx), .val (.long v1), .second, .val (.ref bx4), .val (.int (3 : Int32)), .val (.long v67), .second] [])) _
      refine XS.iload X58.here hx rfl (hb hby at_82) rfl ?_
      refine XS.iconst X58.here hx rfl (hb hby at_84) ?_
      exact k)
    have hb69 : ¬ ((3 : Int32) < (3 : Int32)) := (by decide)
    have pre72 : ∀ t, Steps p.tables e below (T58.setTop (mkF m 108 #[.val (.long px), .second, .val (.int sx), .val (.long v1), .second, .val (.ref bx4), .val (.int (3 : Int32)), .val (.long v67), .second] [(.int (4 : Int32)), (.int (3 : Int32))])) t → Steps p.tables e below (s₁.setTop (entryFrame m #[(.long px), (.int sx)] maxLocals)) t := fun t k => pre70 t (by
      show Steps p.tables e below (T58.setTop (mkF m 85 #[.val (.long px), .second, .val (.int sx), .val (.long v1), .second, .val (.ref bx4), .val (.int (3 : Int32)), .val (.long v67), .second] [(.int (3 : Int32)), (.int (3 : Int32))])) _
      refine XS.icmpYes X58.here hx rfl (pc0 := 85) (pc' := 105) rfl (hb hby at_85) rfl (flt hb69).2.2.2 (by decide) (by decide) ?_
      refine XS.iload X58.here hx rfl (hb hby at_105) rfl ?_
      refine XS.iconst X58.here hx rfl (hb hby at_107) ?_
      exact k)
    have hb71 : ¬ ((4 : Int32) < (3 : Int32)) := (by decide)
    have pre74 : ∀ t, Steps p.tables e below (T58.setTop (mkF m 131 #[.val (.long px), .second, .val (.int sx), .val (.long v1), .second, .val (.ref bx4), .val (.int (3 : Int32)), .val (.long v67), .second] [(.int (5 : Int32)), (.int (3 : Int32))])) t → Steps p.tables e below (s₁.setTop (entryFrame m #[(.long px), (.int sx)] maxLocals)) t := fun t k => pre72 t (by
      show Steps p.tables e below (T58.setTop (mkF m 108 #[.val (.long px), .second, .val (.int sx), .val (.long v1), .second, .val (.ref bx4), .val (.int (3 : Int32)), .val (.long v67), .second] [(.int (4 : Int32)), (.int (3 : Int32))])) _
      refine XS.icmpYes X58.here hx rfl (pc0 := 108) (pc' := 128) rfl (hb hby at_108) rfl (flt hb71).2.2.2 (by decide) (by decide) ?_
      refine XS.iload X58.here hx rfl (hb hby at_128) rfl ?_
      refine XS.iconst X58.here hx rfl (hb hby at_130) ?_
      exact k)
    have hb73 : ¬ ((5 : Int32) < (3 : Int32)) := (by decide)
    have pre76 : ∀ t, Steps p.tables e below (T58.setTop (mkF m 155 #[.val (.long px), .second, .val (.int sx), .val (.long v1), .second, .val (.ref bx4), .val (.int (3 : Int32)), .val (.long v67), .second] [(.int (6 : Int32)), (.int (3 : Int32))])) t → Steps p.tables e below (s₁.setTop (entryFrame m #[(.long px), (.int sx)] maxLocals)) t := fun t k => pre74 t (by
      show Steps p.tables e below (T58.setTop (mkF m 131 #[.val (.long px), .second, .val (.int sx), .val (.long v1), .second, .val (.ref bx4), .val (.int (3 : Int32)), .val (.long v67), .second] [(.int (5 : Int32)), (.int (3 : Int32))])) _
      refine XS.icmpYes X58.here hx rfl (pc0 := 131) (pc' := 151) rfl (hb hby at_131) rfl (flt hb73).2.2.2 (by decide) (by decide) ?_
      refine XS.iload X58.here hx rfl (hb hby at_151) rfl ?_
      refine XS.bipush X58.here hx rfl (hb hby at_153) ?_
      exact k)
    have hb75 : ¬ ((6 : Int32) < (3 : Int32)) := (by decide)
    have pre78 : ∀ t, Steps p.tables e below (T58.setTop (mkF m 180 #[.val (.long px), .second, .val (.int sx), .val (.long v1), .second, .val (.ref bx4), .val (.int (3 : Int32)), .val (.long v67), .second] [(.int (7 : Int32)), (.int (3 : Int32))])) t → Steps p.tables e below (s₁.setTop (entryFrame m #[(.long px), (.int sx)] maxLocals)) t := fun t k => pre76 t (by
      show Steps p.tables e below (T58.setTop (mkF m 155 #[.val (.long px), .second, .val (.int sx), .val (.long v1), .second, .val (.ref bx4), .val (.int (3 : Int32)), .val (.long v67), .second] [(.int (6 : Int32)), (.int (3 : Int32))])) _
      refine XS.icmpYes X58.here hx rfl (pc0 := 155) (pc' := 176) rfl (hb hby at_155) rfl (flt hb75).2.2.2 (by decide) (by decide) ?_
      refine XS.iload X58.here hx rfl (hb hby at_176) rfl ?_
      refine XS.bipush X58.here hx rfl (hb hby at_178) ?_
      exact k)
    have hb77 : ¬ ((7 : Int32) < (3 : Int32)) := (by decide)
    have pre81 : ∀ t, Steps p.tables e below (T58.setTop (mkF m 205 #[.val (.long px), .second, .val (.int sx), .val (.long v1), .second, .val (.ref bx4), .val (.int (3 : Int32)), .val (.long v67), .second] [(.int (XT.cmpL v67 v1))])) t → Steps p.tables e below (s₁.setTop (entryFrame m #[(.long px), (.int sx)] maxLocals)) t := fun t k => pre78 t (by
      show Steps p.tables e below (T58.setTop (mkF m 180 #[.val (.long px), .second, .val (.int sx), .val (.long v1), .second, .val (.ref bx4), .val (.int (3 : Int32)), .val (.long v67), .second] [(.int (7 : Int32)), (.int (3 : Int32))])) _
      refine XS.icmpYes X58.here hx rfl (pc0 := 180) (pc' := 201) rfl (hb hby at_180) rfl (flt hb77).2.2.2 (by decide) (by decide) ?_
      refine XS.lload X58.here hx rfl (hb hby at_201) rfl ?_
      refine XS.lloadN X58.here hx rfl (hb hby at_203) rfl ?_
      refine XS.lcmp X58.here hx rfl (hb hby at_204) rfl ?_
      exact k)
    have tl80 : ∀ t, Steps p.tables e below (T58.setTop (mkF m 213 #[.val (.long px), .second, .val (.int sx), .val (.long v1), .second, .val (.ref bx4), .val (.int (3 : Int32)), .val (.long v67), .second] [(.int (bz (v67 = v1)))])) t → Steps p.tables e below (T58.setTop (mkF m 205 #[.val (.long px), .second, .val (.int sx), .val (.long v1), .second, .val (.ref bx4), .val (.int (3 : Int32)), .val (.long v67), .second] [(.int (XT.cmpL v67 v1))])) t := fun t k => by
      by_cases hb79 : v67 = v1
      · refine XS.ifNo X58.here hx rfl (hb hby at_205) rfl (XT.ll_ne_f hb79) ?_
        rw [bz_one (P := (v67 = v1)) (iff_true_intro hb79)] at k
        show Steps p.tables e below (T58.setTop (mkF m 208 #[.val (.long px), .second, .val (.int sx), .val (.long v1), .second, .val (.ref bx4), .val (.int (3 : Int32)), .val (.long v67), .second] [])) _
        refine XS.iconst X58.here hx rfl (hb hby at_208) ?_
        refine XS.goto X58.here hx rfl (pc0 := 209) (pc' := 213) rfl (hb hby at_209) (by decide) (by decide) ?_
        exact k
      · refine XS.ifYes X58.here hx rfl (pc0 := 205) (pc' := 212) rfl (hb hby at_205) rfl (XT.ll_ne_t hb79) (by decide) (by decide) ?_
        rw [bz_zero (P := (v67 = v1)) (iff_false_intro hb79)] at k
        show Steps p.tables e below (T58.setTop (mkF m 212 #[.val (.long px), .second, .val (.int sx), .val (.long v1), .second, .val (.ref bx4), .val (.int (3 : Int32)), .val (.long v67), .second] [])) _
        refine XS.iconst X58.here hx rfl (hb hby at_212) ?_
        exact k
    have pre82 : ∀ t, Steps p.tables e below (T58.setTop (mkF m 213 #[.val (.long px), .second, .val (.int sx), .val (.long v1), .second, .val (.ref bx4), .val (.int (3 : Int32)), .val (.long v67), .second] [(.int (bz (v67 = v1)))])) t → Steps p.tables e below (s₁.setTop (entryFrame m #[(.long px), (.int sx)] maxLocals)) t := fun t k => pre81 t (by
      exact tl80 t k)
    obtain ⟨fs, hr, hrun, hended, hW, hsame⟩ := X58.leave (v := some (.int (nar .boolean (bz (v67 = v1))))) (fun h => by rw [Bd.returns] at h; cases h)
    refine ⟨_, _, pre82 _ ?_, hrun, hended, _, _, rfl, ?_, ⟨_, rfl⟩, hW, hsame.mono (by decide) (by decide)⟩
    · show Steps p.tables e below (T58.setTop (mkF m 213 #[.val (.long px), .second, .val (.int sx), .val (.long v1), .second, .val (.ref bx4), .val (.int (3 : Int32)), .val (.long v67), .second] [(.int (bz (v67 = v1)))])) _
      exact retN X58 hx (t := .boolean) Bd.returns (by simp) (hb hby at_213) hr
    · show Q0 Z px sx n0 [] _ T58.heap _
      have R83 : Rep Z n0 T58.heap ([]) := (R58.front 0 rfl rfl : Rep Z n0 T58.heap ((bx4, Ar .byte [(.int b0), (.int b1), (.int b2)]) :: [])).tail
      exact ⟨(by subst hv63 hv67; exact ow_fin hR), N58, R83⟩
  · have R84 : Rep Z n0 T4.heap ((bx4, Ar .byte [(.int b0), (.int b1), (.int b2), (.int b3)]) :: []) := by rw [← hE]; exact R4
    have pre85 : ∀ t, Steps p.tables e below (T4.setTop (mkF m 21 #[.val (.long px), .second, .val (.int sx), .val (.long v1), .second, .val (.ref bx4), .val (.int (4 : Int32)), .unset, .unset] [(.long v1), (.int (4 : Int32))])) t → Steps p.tables e below (s₁.setTop (entryFrame m #[(.long px), (.int sx)] maxLocals)) t := fun t k => pre5 t (by
      show Steps p.tables e below (T4.setTop (mkF m 11 #[.val (.long px), .second, .val (.int sx), .val (.long v1), .second, .unset, .unset, .unset, .unset] [(.ref bx4)])) _
      refine XS.astore X4.here hx rfl (hb hby at_11) rfl rfl (l' := #[.val (.long px), .second, .val (.int sx), .val (.long v1), .second, .val (.ref bx4), .unset, .unset, .unset]) rfl ?_
      refine XS.aload X4.here hx rfl (hb hby at_13) rfl rfl ?_
      refine gLen X4 hx hZ rfl R84 0 rfl (g := (mkF m 15 #[.val (.long px), .second, .val (.int sx), .val (.long v1), .second, .val (.ref bx4), .unset, .unset, .unset] [(.ref bx4)])) rfl rfl (hb hby at_15) (z := (4 : Int32)) (rfl) _ ?_
      refine XS.istore X4.here hx rfl (hb hby at_16) rfl (l' := #[.val (.long px), .second, .val (.int sx), .val (.long v1), .second, .val (.ref bx4), .val (.int (4 : Int32)), .unset, .unset]) rfl ?_
      refine XS.iload X4.here hx rfl (hb hby at_18) rfl ?_
      refine XS.lloadN X4.here hx rfl (hb hby at_20) rfl ?_
      exact k)
    obtain ⟨_, _, ⟨T86, L86, k86, n86⟩, -, X86, ⟨Lc86, hQ86, l86, y86, z86⟩, st86⟩ := Jvm.LawKit.callS X4 hx (y := (⟨"com/example/sidetrack/sidetrack/codec/BerIntegerEncodePinLaw", "expectedLength", "(J)I"⟩ : MethodName)) hown (mvT hZ (hw _ (List.mem_of_getElem? (i := 5) rfl))) (mvT hZ (hw _ (List.mem_of_getElem? (i := 6) rfl))) (mvT hZ (hw _ (List.mem_of_getElem? (i := 7) rfl))) (mvT hZ (hw _ (List.mem_of_getElem? (i := 8) rfl))) (by decide) (backOf (W := 1) (rm2 l Z a0 hw [] v1  T4.heap n0 _ R84 ) hZ (hw _ (List.mem_of_getElem? (i := 8) rfl)) (hw _ (List.mem_of_getElem? (i := 7) rfl)) (by decide) (by decide)) (g := (mkF m 21 #[.val (.long px), .second, .val (.int sx), .val (.long v1), .second, .val (.ref bx4), .val (.int (4 : Int32)), .unset, .unset] [(.long v1), (.int (4 : Int32))])) rfl (by rw [hml]; rfl) (argsL := [(.long v1)]) (rest := [(.int (4 : Int32))]) (lenOf pd__28J_29I rfl) rfl (by show 2 * 0 + _ ≤ _; exact Nat.le_of_eq rfl) (hb hby at_21) (fun _ _ => ⟨rfl, rfl, (by decide : 1 + 0 ≤ _), (by decide : 8 + 0 ≤ _)⟩)
    dsimp only [Pt.U, Pt.locs, Pt.cells, Pt.slots] at X86 l86 y86 z86 st86 hQ86
    subst l86 y86 z86
    obtain ⟨rfl, N86q, R86⟩ := hQ86
    have N86 := Fr.app N4 N86q
    replace R86 : Rep Z n0 T86.heap ((bx4, Ar .byte [(.int b0), (.int b1), (.int b2), (.int b3)]) :: []) := R86
    have pre87 : ∀ t, Steps p.tables e below (T86.setTop (mkF m 24 #[.val (.long px), .second, .val (.int sx), .val (.long v1), .second, .val (.ref bx4), .val (.int (4 : Int32)), .unset, .unset] [(.int (F2 v1)), (.int (4 : Int32))])) t → Steps p.tables e below (s₁.setTop (entryFrame m #[(.long px), (.int sx)] maxLocals)) t := fun t k => pre85 t (st86 t k)
    have hb88 : (4 : Int32) = (F2 v1) := hF.symm
    have pre90 : ∀ t, Steps p.tables e below (T86.setTop (mkF m 39 #[.val (.long px), .second, .val (.int sx), .val (.long v1), .second, .val (.ref bx4), .val (.int (4 : Int32)), .val (.long (b0.toInt64)), .second] [(.int (1 : Int32)), (.int (4 : Int32))])) t → Steps p.tables e below (s₁.setTop (entryFrame m #[(.long px), (.int sx)] maxLocals)) t := fun t k => pre87 t (by
      show Steps p.tables e below (T86.setTop (mkF m 24 #[.val (.long px), .second, .val (.int sx), .val (.long v1), .second, .val (.ref bx4), .val (.int (4 : Int32)), .unset, .unset] [(.int (F2 v1)), (.int (4 : Int32))])) _
      refine XS.icmpYes X86.here hx rfl (pc0 := 24) (pc' := 29) rfl (hb hby at_24) rfl (teq hb88).1 (by decide) (by decide) ?_
      refine XS.aload X86.here hx rfl (hb hby at_29) rfl rfl ?_
      refine XS.iconst X86.here hx rfl (hb hby at_31) ?_
      refine gBald X86 hx hZ rfl R86 0 rfl (j := (0 : Int32)) (v := (.int b0)) (by decide) rfl (g := (mkF m 32 #[.val (.long px), .second, .val (.int sx), .val (.long v1), .second, .val (.ref bx4), .val (.int (4 : Int32)), .unset, .unset] [(.int (0 : Int32)), (.ref bx4)])) rfl rfl (hb hby at_32) _ ?_
      refine XS.i2l X86.here hx rfl (hb hby at_33) rfl ?_
      refine XS.lstore X86.here hx rfl (hb hby at_34) rfl (l' := #[.val (.long px), .second, .val (.int sx), .val (.long v1), .second, .val (.ref bx4), .val (.int (4 : Int32)), .val (.long (b0.toInt64)), .second]) rfl ?_
      refine XS.iload X86.here hx rfl (hb hby at_36) rfl ?_
      show Steps p.tables e below (T86.setTop (mkF m 38 #[.val (.long px), .second, .val (.int sx), .val (.long v1), .second, .val (.ref bx4), .val (.int (4 : Int32)), .val (.long (b0.toInt64)), .second] [(.int (4 : Int32))])) _
      refine XS.iconst X86.here hx rfl (hb hby at_38) ?_
      exact k)
    have hb89 : (1 : Int32) < (4 : Int32) := (by decide)
    have pre92 : ∀ t, Steps p.tables e below (T86.setTop (mkF m 59 #[.val (.long px), .second, .val (.int sx), .val (.long v1), .second, .val (.ref bx4), .val (.int (4 : Int32)), .val (.long ((lshl (b0.toInt64) (8 : Int32)) ||| ((b1 &&& (255 : Int32)).toInt64))), .second] [])) t → Steps p.tables e below (s₁.setTop (entryFrame m #[(.long px), (.int sx)] maxLocals)) t := fun t k => pre90 t (by
      show Steps p.tables e below (T86.setTop (mkF m 39 #[.val (.long px), .second, .val (.int sx), .val (.long v1), .second, .val (.ref bx4), .val (.int (4 : Int32)), .val (.long (b0.toInt64)), .second] [(.int (1 : Int32)), (.int (4 : Int32))])) _
      refine XS.icmpNo X86.here hx rfl (hb hby at_39) rfl (tlt hb89).2.2.2 ?_
      refine XS.lload X86.here hx rfl (hb hby at_42) rfl ?_
      refine XS.bipush X86.here hx rfl (hb hby at_44) ?_
      refine XS.lshl X86.here hx rfl (hb hby at_46) rfl ?_
      refine XS.aload X86.here hx rfl (hb hby at_47) rfl rfl ?_
      refine XS.iconst X86.here hx rfl (hb hby at_49) ?_
      refine gBald X86 hx hZ rfl R86 0 rfl (j := (1 : Int32)) (v := (.int b1)) (by decide) rfl (g := (mkF m 50 #[.val (.long px), .second, .val (.int sx), .val (.long v1), .second, .val (.ref bx4), .val (.int (4 : Int32)), .val (.long (b0.toInt64)), .second] [(.int (1 : Int32)), (.ref bx4), (.long (lshl (b0.toInt64) (8 : Int32)))])) rfl rfl (hb hby at_50) _ ?_
      show Steps p.tables e below (T86.setTop (mkF m 51 #[.val (.long px), .second, .val (.int sx), .val (.long v1), .second, .val (.ref bx4), .val (.int (4 : Int32)), .val (.long (b0.toInt64)), .second] [(.int b1), (.long (lshl (b0.toInt64) (8 : Int32)))])) _
      refine XS.sipush X86.here hx rfl (hb hby at_51) ?_
      refine XS.iand X86.here hx rfl (hb hby at_54) rfl ?_
      refine XS.i2l X86.here hx rfl (hb hby at_55) rfl ?_
      refine XS.lor X86.here hx rfl (hb hby at_56) rfl ?_
      refine XS.lstore X86.here hx rfl (hb hby at_57) rfl (l' := #[.val (.long px), .second, .val (.int sx), .val (.long v1), .second, .val (.ref bx4), .val (.int (4 : Int32)), .val (.long ((lshl (b0.toInt64) (8 : Int32)) ||| ((b1 &&& (255 : Int32)).toInt64))), .second]) rfl ?_
      exact k)
    obtain ⟨v91, hv91⟩ : ∃ z : Int64, z = ((lshl (b0.toInt64) (8 : Int32)) ||| ((b1 &&& (255 : Int32)).toInt64)) := ⟨_, rfl⟩
    rw [← hv91] at pre92
    have pre94 : ∀ t, Steps p.tables e below (T86.setTop (mkF m 62 #[.val (.long px), .second, .val (.int sx), .val (.long v1), .second, .val (.ref bx4), .val (.int (4 : Int32)), .val (.long v91), .second] [(.int (2 : Int32)), (.int (4 : Int32))])) t → Steps p.tables e below (s₁.setTop (entryFrame m #[(.long px), (.int sx)] maxLocals)) t := fun t k => pre92 t (by
      show Steps p.tables e below (T86.setTop (mkF m 59 #[.val (.long px), .second, .val (.int sx), .val (.long v1), .second, .val (.ref bx4), .val (.int (4 : Int32)), .val (.long v91), .second] [])) _
      refine XS.iload X86.here hx rfl (hb hby at_59) rfl ?_
      refine XS.iconst X86.here hx rfl (hb hby at_61) ?_
      exact k)
    have hb93 : (2 : Int32) < (4 : Int32) := (by decide)
    have pre96 : ∀ t, Steps p.tables e below (T86.setTop (mkF m 82 #[.val (.long px), .second, .val (.int sx), .val (.long v1), .second, .val (.ref bx4), .val (.int (4 : Int32)), .val (.long ((lshl v91 (8 : Int32)) ||| ((b2 &&& (255 : Int32)).toInt64))), .second] [])) t → Steps p.tables e below (s₁.setTop (entryFrame m #[(.long px), (.int sx)] maxLocals)) t := fun t k => pre94 t (by
      show Steps p.tables e below (T86.setTop (mkF m 62 #[.val (.long px), .second, .val (.int sx), .val (.long v1), .second, .val (.ref bx4), .val (.int (4 : Int32)), .val (.long v91), .second] [(.int (2 : Int32)), (.int (4 : Int32))])) _
      refine XS.icmpNo X86.here hx rfl (hb hby at_62) rfl (tlt hb93).2.2.2 ?_
      refine XS.lload X86.here hx rfl (hb hby at_65) rfl ?_
      refine XS.bipush X86.here hx rfl (hb hby at_67) ?_
      refine XS.lshl X86.here hx rfl (hb hby at_69) rfl ?_
      refine XS.aload X86.here hx rfl (hb hby at_70) rfl rfl ?_
      refine XS.iconst X86.here hx rfl (hb hby at_72) ?_
      refine gBald X86 hx hZ rfl R86 0 rfl (j := (2 : Int32)) (v := (.int b2)) (by decide) rfl (g := (mkF m 73 #[.val (.long px), .second, .val (.int sx), .val (.long v1), .second, .val (.ref bx4), .val (.int (4 : Int32)), .val (.long v91), .second] [(.int (2 : Int32)), (.ref bx4), (.long (lshl v91 (8 : Int32)))])) rfl rfl (hb hby at_73) _ ?_
      show Steps p.tables e below (T86.setTop (mkF m 74 #[.val (.long px), .second, .val (.int sx), .val (.long v1), .second, .val (.ref bx4), .val (.int (4 : Int32)), .val (.long v91), .second] [(.int b2), (.long (lshl v91 (8 : Int32)))])) _
      refine XS.sipush X86.here hx rfl (hb hby at_74) ?_
      refine XS.iand X86.here hx rfl (hb hby at_77) rfl ?_
      refine XS.i2l X86.here hx rfl (hb hby at_78) rfl ?_
      refine XS.lor X86.here hx rfl (hb hby at_79) rfl ?_
      refine XS.lstore X86.here hx rfl (hb hby at_80) rfl (l' := #[.val (.long px), .second, .val (.int sx), .val (.long v1), .second, .val (.ref bx4), .val (.int (4 : Int32)), .val (.long ((lshl v91 (8 : Int32)) ||| ((b2 &&& (255 : Int32)).toInt64))), .second]) rfl ?_
      exact k)
    obtain ⟨v95, hv95⟩ : ∃ z : Int64, z = ((lshl v91 (8 : Int32)) ||| ((b2 &&& (255 : Int32)).toInt64)) := ⟨_, rfl⟩
    rw [← hv95] at pre96
    have pre98 : ∀ t, Steps p.tables e below (T86.setTop (mkF m 85 #[.val (.long px), .second, .val (.int sx), .val (.long v1), .second, .val (.ref bx4), .val (.int (4 : Int32)), .val (.long v95), .second] [(.int (3 : Int32)), (.int (4 : Int32))])) t → Steps p.tables e below (s₁.setTop (entryFrame m #[(.long px), (.int sx)] maxLocals)) t := fun t k => pre96 t (by
      show Steps p.tables e below (T86.setTop (mkF m 82 #[.val (.long px), .second, .val (.int sx), .val (.long v1), .second, .val (.ref bx4), .val (.int (4 : Int32)), .val (.long v95), .second] [])) _
      refine XS.iload X86.here hx rfl (hb hby at_82) rfl ?_
      refine XS.iconst X86.here hx rfl (hb hby at_84) ?_
      exact k)
    have hb97 : (3 : Int32) < (4 : Int32) := (by decide)
    have pre100 : ∀ t, Steps p.tables e below (T86.setTop (mkF m 105 #[.val (.long px), .second, .val (.int sx), .val (.long v1), .second, .val (.ref bx4), .val (.int (4 : Int32)), .val (.long ((lshl v95 (8 : Int32)) ||| ((b3 &&& (255 : Int32)).toInt64))), .second] [])) t → Steps p.tables e below (s₁.setTop (entryFrame m #[(.long px), (.int sx)] maxLocals)) t := fun t k => pre98 t (by
      show Steps p.tables e below (T86.setTop (mkF m 85 #[.val (.long px), .second, .val (.int sx), .val (.long v1), .second, .val (.ref bx4), .val (.int (4 : Int32)), .val (.long v95), .second] [(.int (3 : Int32)), (.int (4 : Int32))])) _
      refine XS.icmpNo X86.here hx rfl (hb hby at_85) rfl (tlt hb97).2.2.2 ?_
      refine XS.lload X86.here hx rfl (hb hby at_88) rfl ?_
      refine XS.bipush X86.here hx rfl (hb hby at_90) ?_
      refine XS.lshl X86.here hx rfl (hb hby at_92) rfl ?_
      refine XS.aload X86.here hx rfl (hb hby at_93) rfl rfl ?_
      refine XS.iconst X86.here hx rfl (hb hby at_95) ?_
      refine gBald X86 hx hZ rfl R86 0 rfl (j := (3 : Int32)) (v := (.int b3)) (by decide) rfl (g := (mkF m 96 #[.val (.long px), .second, .val (.int sx), .val (.long v1), .second, .val (.ref bx4), .val (.int (4 : Int32)), .val (.long v95), .second] [(.int (3 : Int32)), (.ref bx4), (.long (lshl v95 (8 : Int32)))])) rfl rfl (hb hby at_96) _ ?_
      show Steps p.tables e below (T86.setTop (mkF m 97 #[.val (.long px), .second, .val (.int sx), .val (.long v1), .second, .val (.ref bx4), .val (.int (4 : Int32)), .val (.long v95), .second] [(.int b3), (.long (lshl v95 (8 : Int32)))])) _
      refine XS.sipush X86.here hx rfl (hb hby at_97) ?_
      refine XS.iand X86.here hx rfl (hb hby at_100) rfl ?_
      refine XS.i2l X86.here hx rfl (hb hby at_101) rfl ?_
      refine XS.lor X86.here hx rfl (hb hby at_102) rfl ?_
      refine XS.lstore X86.here hx rfl (hb hby at_103) rfl (l' := #[.val (.long px), .second, .val (.int sx), .val (.long v1), .second, .val (.ref bx4), .val (.int (4 : Int32)), .val (.long ((lshl v95 (8 : Int32)) ||| ((b3 &&& (255 : Int32)).toInt64))), .second]) rfl ?_
      exact k)
    obtain ⟨v99, hv99⟩ : ∃ z : Int64, z = ((lshl v95 (8 : Int32)) ||| ((b3 &&& (255 : Int32)).toInt64)) := ⟨_, rfl⟩
    rw [← hv99] at pre100
    have pre102 : ∀ t, Steps p.tables e below (T86.setTop (mkF m 108 #[.val (.long px), .second, .val (.int sx), .val (.long v1), .second, .val (.ref bx4), .val (.int (4 : Int32)), .val (.long v99), .second] [(.int (4 : Int32)), (.int (4 : Int32))])) t → Steps p.tables e below (s₁.setTop (entryFrame m #[(.long px), (.int sx)] maxLocals)) t := fun t k => pre100 t (by
      show Steps p.tables e below (T86.setTop (mkF m 105 #[.val (.long px), .second, .val (.int sx), .val (.long v1), .second, .val (.ref bx4), .val (.int (4 : Int32)), .val (.long v99), .second] [])) _
      refine XS.iload X86.here hx rfl (hb hby at_105) rfl ?_
      refine XS.iconst X86.here hx rfl (hb hby at_107) ?_
      exact k)
    have hb101 : ¬ ((4 : Int32) < (4 : Int32)) := (by decide)
    have pre104 : ∀ t, Steps p.tables e below (T86.setTop (mkF m 131 #[.val (.long px), .second, .val (.int sx), .val (.long v1), .second, .val (.ref bx4), .val (.int (4 : Int32)), .val (.long v99), .second] [(.int (5 : Int32)), (.int (4 : Int32))])) t → Steps p.tables e below (s₁.setTop (entryFrame m #[(.long px), (.int sx)] maxLocals)) t := fun t k => pre102 t (by
      show Steps p.tables e below (T86.setTop (mkF m 108 #[.val (.long px), .second, .val (.int sx), .val (.long v1), .second, .val (.ref bx4), .val (.int (4 : Int32)), .val (.long v99), .second] [(.int (4 : Int32)), (.int (4 : Int32))])) _
      refine XS.icmpYes X86.here hx rfl (pc0 := 108) (pc' := 128) rfl (hb hby at_108) rfl (flt hb101).2.2.2 (by decide) (by decide) ?_
      refine XS.iload X86.here hx rfl (hb hby at_128) rfl ?_
      refine XS.iconst X86.here hx rfl (hb hby at_130) ?_
      exact k)
    have hb103 : ¬ ((5 : Int32) < (4 : Int32)) := (by decide)
    have pre106 : ∀ t, Steps p.tables e below (T86.setTop (mkF m 155 #[.val (.long px), .second, .val (.int sx), .val (.long v1), .second, .val (.ref bx4), .val (.int (4 : Int32)), .val (.long v99), .second] [(.int (6 : Int32)), (.int (4 : Int32))])) t → Steps p.tables e below (s₁.setTop (entryFrame m #[(.long px), (.int sx)] maxLocals)) t := fun t k => pre104 t (by
      show Steps p.tables e below (T86.setTop (mkF m 131 #[.val (.long px), .second, .val (.int sx), .val (.long v1), .second, .val (.ref bx4), .val (.int (4 : Int32)), .val (.long v99), .second] [(.int (5 : Int32)), (.int (4 : Int32))])) _
      refine XS.icmpYes X86.here hx rfl (pc0 := 131) (pc' := 151) rfl (hb hby at_131) rfl (flt hb103).2.2.2 (by decide) (by decide) ?_
      refine XS.iload X86.here hx rfl (hb hby at_151) rfl ?_
      refine XS.bipush X86.here hx rfl (hb hby at_153) ?_
      exact k)
    have hb105 : ¬ ((6 : Int32) < (4 : Int32)) := (by decide)
    have pre108 : ∀ t, Steps p.tables e below (T86.setTop (mkF m 180 #[.val (.long px), .second, .val (.int sx), .val (.long v1), .second, .val (.ref bx4), .val (.int (4 : Int32)), .val (.long v99), .second] [(.int (7 : Int32)), (.int (4 : Int32))])) t → Steps p.tables e below (s₁.setTop (entryFrame m #[(.long px), (.int sx)] maxLocals)) t := fun t k => pre106 t (by
      show Steps p.tables e below (T86.setTop (mkF m 155 #[.val (.long px), .second, .val (.int sx), .val (.long v1), .second, .val (.ref bx4), .val (.int (4 : Int32)), .val (.long v99), .second] [(.int (6 : Int32)), (.int (4 : Int32))])) _
      refine XS.icmpYes X86.here hx rfl (pc0 := 155) (pc' := 176) rfl (hb hby at_155) rfl (flt hb105).2.2.2 (by decide) (by decide) ?_
      refine XS.iload X86.here hx rfl (hb hby at_176) rfl ?_
      refine XS.bipush X86.here hx rfl (hb hby at_178) ?_
      exact k)
    have hb107 : ¬ ((7 : Int32) < (4 : Int32)) := (by decide)
    have pre111 : ∀ t, Steps p.tables e below (T86.setTop (mkF m 205 #[.val (.long px), .second, .val (.int sx), .val (.long v1), .second, .val (.ref bx4), .val (.int (4 : Int32)), .val (.long v99), .second] [(.int (XT.cmpL v99 v1))])) t → Steps p.tables e below (s₁.setTop (entryFrame m #[(.long px), (.int sx)] maxLocals)) t := fun t k => pre108 t (by
      show Steps p.tables e below (T86.setTop (mkF m 180 #[.val (.long px), .second, .val (.int sx), .val (.long v1), .second, .val (.ref bx4), .val (.int (4 : Int32)), .val (.long v99), .second] [(.int (7 : Int32)), (.int (4 : Int32))])) _
      refine XS.icmpYes X86.here hx rfl (pc0 := 180) (pc' := 201) rfl (hb hby at_180) rfl (flt hb107).2.2.2 (by decide) (by decide) ?_
      refine XS.lload X86.here hx rfl (hb hby at_201) rfl ?_
      refine XS.lloadN X86.here hx rfl (hb hby at_203) rfl ?_
      refine XS.lcmp X86.here hx rfl (hb hby at_204) rfl ?_
      exact k)
    have tl110 : ∀ t, Steps p.tables e below (T86.setTop (mkF m 213 #[.val (.long px), .second, .val (.int sx), .val (.long v1), .second, .val (.ref bx4), .val (.int (4 : Int32)), .val (.long v99), .second] [(.int (bz (v99 = v1)))])) t → Steps p.tables e below (T86.setTop (mkF m 205 #[.val (.long px), .second, .val (.int sx), .val (.long v1), .second, .val (.ref bx4), .val (.int (4 : Int32)), .val (.long v99), .second] [(.int (XT.cmpL v99 v1))])) t := fun t k => by
      by_cases hb109 : v99 = v1
      · refine XS.ifNo X86.here hx rfl (hb hby at_205) rfl (XT.ll_ne_f hb109) ?_
        rw [bz_one (P := (v99 = v1)) (iff_true_intro hb109)] at k
        show Steps p.tables e below (T86.setTop (mkF m 208 #[.val (.long px), .second, .val (.int sx), .val (.long v1), .second, .val (.ref bx4), .val (.int (4 : Int32)), .val (.long v99), .second] [])) _
        refine XS.iconst X86.here hx rfl (hb hby at_208) ?_
        refine XS.goto X86.here hx rfl (pc0 := 209) (pc' := 213) rfl (hb hby at_209) (by decide) (by decide) ?_
        exact k
      · refine XS.ifYes X86.here hx rfl (pc0 := 205) (pc' := 212) rfl (hb hby at_205) rfl (XT.ll_ne_t hb109) (by decide) (by decide) ?_
        rw [bz_zero (P := (v99 = v1)) (iff_false_intro hb109)] at k
        show Steps p.tables e below (T86.setTop (mkF m 212 #[.val (.long px), .second, .val (.int sx), .val (.long v1), .second, .val (.ref bx4), .val (.int (4 : Int32)), .val (.long v99), .second] [])) _
        refine XS.iconst X86.here hx rfl (hb hby at_212) ?_
        exact k
    have pre112 : ∀ t, Steps p.tables e below (T86.setTop (mkF m 213 #[.val (.long px), .second, .val (.int sx), .val (.long v1), .second, .val (.ref bx4), .val (.int (4 : Int32)), .val (.long v99), .second] [(.int (bz (v99 = v1)))])) t → Steps p.tables e below (s₁.setTop (entryFrame m #[(.long px), (.int sx)] maxLocals)) t := fun t k => pre111 t (by
      exact tl110 t k)
    obtain ⟨fs, hr, hrun, hended, hW, hsame⟩ := X86.leave (v := some (.int (nar .boolean (bz (v99 = v1))))) (fun h => by rw [Bd.returns] at h; cases h)
    refine ⟨_, _, pre112 _ ?_, hrun, hended, _, _, rfl, ?_, ⟨_, rfl⟩, hW, hsame.mono (by decide) (by decide)⟩
    · show Steps p.tables e below (T86.setTop (mkF m 213 #[.val (.long px), .second, .val (.int sx), .val (.long v1), .second, .val (.ref bx4), .val (.int (4 : Int32)), .val (.long v99), .second] [(.int (bz (v99 = v1)))])) _
      exact retN X86 hx (t := .boolean) Bd.returns (by simp) (hb hby at_213) hr
    · show Q0 Z px sx n0 [] _ T86.heap _
      have R113 : Rep Z n0 T86.heap ([]) := (R86.front 0 rfl rfl : Rep Z n0 T86.heap ((bx4, Ar .byte [(.int b0), (.int b1), (.int b2), (.int b3)]) :: [])).tail
      exact ⟨(by subst hv91 hv95 hv99; exact ow_fin hR), N86, R113⟩
  · have R114 : Rep Z n0 T4.heap ((bx4, Ar .byte [(.int b0), (.int b1), (.int b2), (.int b3), (.int b4)]) :: []) := by rw [← hE]; exact R4
    have pre115 : ∀ t, Steps p.tables e below (T4.setTop (mkF m 21 #[.val (.long px), .second, .val (.int sx), .val (.long v1), .second, .val (.ref bx4), .val (.int (5 : Int32)), .unset, .unset] [(.long v1), (.int (5 : Int32))])) t → Steps p.tables e below (s₁.setTop (entryFrame m #[(.long px), (.int sx)] maxLocals)) t := fun t k => pre5 t (by
      show Steps p.tables e below (T4.setTop (mkF m 11 #[.val (.long px), .second, .val (.int sx), .val (.long v1), .second, .unset, .unset, .unset, .unset] [(.ref bx4)])) _
      refine XS.astore X4.here hx rfl (hb hby at_11) rfl rfl (l' := #[.val (.long px), .second, .val (.int sx), .val (.long v1), .second, .val (.ref bx4), .unset, .unset, .unset]) rfl ?_
      refine XS.aload X4.here hx rfl (hb hby at_13) rfl rfl ?_
      refine gLen X4 hx hZ rfl R114 0 rfl (g := (mkF m 15 #[.val (.long px), .second, .val (.int sx), .val (.long v1), .second, .val (.ref bx4), .unset, .unset, .unset] [(.ref bx4)])) rfl rfl (hb hby at_15) (z := (5 : Int32)) (rfl) _ ?_
      refine XS.istore X4.here hx rfl (hb hby at_16) rfl (l' := #[.val (.long px), .second, .val (.int sx), .val (.long v1), .second, .val (.ref bx4), .val (.int (5 : Int32)), .unset, .unset]) rfl ?_
      refine XS.iload X4.here hx rfl (hb hby at_18) rfl ?_
      refine XS.lloadN X4.here hx rfl (hb hby at_20) rfl ?_
      exact k)
    obtain ⟨_, _, ⟨T116, L116, k116, n116⟩, -, X116, ⟨Lc116, hQ116, l116, y116, z116⟩, st116⟩ := Jvm.LawKit.callS X4 hx (y := (⟨"com/example/sidetrack/sidetrack/codec/BerIntegerEncodePinLaw", "expectedLength", "(J)I"⟩ : MethodName)) hown (mvT hZ (hw _ (List.mem_of_getElem? (i := 5) rfl))) (mvT hZ (hw _ (List.mem_of_getElem? (i := 6) rfl))) (mvT hZ (hw _ (List.mem_of_getElem? (i := 7) rfl))) (mvT hZ (hw _ (List.mem_of_getElem? (i := 8) rfl))) (by decide) (backOf (W := 1) (rm2 l Z a0 hw [] v1  T4.heap n0 _ R114 ) hZ (hw _ (List.mem_of_getElem? (i := 8) rfl)) (hw _ (List.mem_of_getElem? (i := 7) rfl)) (by decide) (by decide)) (g := (mkF m 21 #[.val (.long px), .second, .val (.int sx), .val (.long v1), .second, .val (.ref bx4), .val (.int (5 : Int32)), .unset, .unset] [(.long v1), (.int (5 : Int32))])) rfl (by rw [hml]; rfl) (argsL := [(.long v1)]) (rest := [(.int (5 : Int32))]) (lenOf pd__28J_29I rfl) rfl (by show 2 * 0 + _ ≤ _; exact Nat.le_of_eq rfl) (hb hby at_21) (fun _ _ => ⟨rfl, rfl, (by decide : 1 + 0 ≤ _), (by decide : 8 + 0 ≤ _)⟩)
    dsimp only [Pt.U, Pt.locs, Pt.cells, Pt.slots] at X116 l116 y116 z116 st116 hQ116
    subst l116 y116 z116
    obtain ⟨rfl, N116q, R116⟩ := hQ116
    have N116 := Fr.app N4 N116q
    replace R116 : Rep Z n0 T116.heap ((bx4, Ar .byte [(.int b0), (.int b1), (.int b2), (.int b3), (.int b4)]) :: []) := R116
    have pre117 : ∀ t, Steps p.tables e below (T116.setTop (mkF m 24 #[.val (.long px), .second, .val (.int sx), .val (.long v1), .second, .val (.ref bx4), .val (.int (5 : Int32)), .unset, .unset] [(.int (F2 v1)), (.int (5 : Int32))])) t → Steps p.tables e below (s₁.setTop (entryFrame m #[(.long px), (.int sx)] maxLocals)) t := fun t k => pre115 t (st116 t k)
    have hb118 : (5 : Int32) = (F2 v1) := hF.symm
    have pre120 : ∀ t, Steps p.tables e below (T116.setTop (mkF m 39 #[.val (.long px), .second, .val (.int sx), .val (.long v1), .second, .val (.ref bx4), .val (.int (5 : Int32)), .val (.long (b0.toInt64)), .second] [(.int (1 : Int32)), (.int (5 : Int32))])) t → Steps p.tables e below (s₁.setTop (entryFrame m #[(.long px), (.int sx)] maxLocals)) t := fun t k => pre117 t (by
      show Steps p.tables e below (T116.setTop (mkF m 24 #[.val (.long px), .second, .val (.int sx), .val (.long v1), .second, .val (.ref bx4), .val (.int (5 : Int32)), .unset, .unset] [(.int (F2 v1)), (.int (5 : Int32))])) _
      refine XS.icmpYes X116.here hx rfl (pc0 := 24) (pc' := 29) rfl (hb hby at_24) rfl (teq hb118).1 (by decide) (by decide) ?_
      refine XS.aload X116.here hx rfl (hb hby at_29) rfl rfl ?_
      refine XS.iconst X116.here hx rfl (hb hby at_31) ?_
      refine gBald X116 hx hZ rfl R116 0 rfl (j := (0 : Int32)) (v := (.int b0)) (by decide) rfl (g := (mkF m 32 #[.val (.long px), .second, .val (.int sx), .val (.long v1), .second, .val (.ref bx4), .val (.int (5 : Int32)), .unset, .unset] [(.int (0 : Int32)), (.ref bx4)])) rfl rfl (hb hby at_32) _ ?_
      refine XS.i2l X116.here hx rfl (hb hby at_33) rfl ?_
      refine XS.lstore X116.here hx rfl (hb hby at_34) rfl (l' := #[.val (.long px), .second, .val (.int sx), .val (.long v1), .second, .val (.ref bx4), .val (.int (5 : Int32)), .val (.long (b0.toInt64)), .second]) rfl ?_
      refine XS.iload X116.here hx rfl (hb hby at_36) rfl ?_
      show Steps p.tables e below (T116.setTop (mkF m 38 #[.val (.long px), .second, .val (.int sx), .val (.long v1), .second, .val (.ref bx4), .val (.int (5 : Int32)), .val (.long (b0.toInt64)), .second] [(.int (5 : Int32))])) _
      refine XS.iconst X116.here hx rfl (hb hby at_38) ?_
      exact k)
    have hb119 : (1 : Int32) < (5 : Int32) := (by decide)
    have pre122 : ∀ t, Steps p.tables e below (T116.setTop (mkF m 59 #[.val (.long px), .second, .val (.int sx), .val (.long v1), .second, .val (.ref bx4), .val (.int (5 : Int32)), .val (.long ((lshl (b0.toInt64) (8 : Int32)) ||| ((b1 &&& (255 : Int32)).toInt64))), .second] [])) t → Steps p.tables e below (s₁.setTop (entryFrame m #[(.long px), (.int sx)] maxLocals)) t := fun t k => pre120 t (by
      show Steps p.tables e below (T116.setTop (mkF m 39 #[.val (.long px), .second, .val (.int sx), .val (.long v1), .second, .val (.ref bx4), .val (.int (5 : Int32)), .val (.long (b0.toInt64)), .second] [(.int (1 : Int32)), (.int (5 : Int32))])) _
      refine XS.icmpNo X116.here hx rfl (hb hby at_39) rfl (tlt hb119).2.2.2 ?_
      refine XS.lload X116.here hx rfl (hb hby at_42) rfl ?_
      refine XS.bipush X116.here hx rfl (hb hby at_44) ?_
      refine XS.lshl X116.here hx rfl (hb hby at_46) rfl ?_
      refine XS.aload X116.here hx rfl (hb hby at_47) rfl rfl ?_
      refine XS.iconst X116.here hx rfl (hb hby at_49) ?_
      refine gBald X116 hx hZ rfl R116 0 rfl (j := (1 : Int32)) (v := (.int b1)) (by decide) rfl (g := (mkF m 50 #[.val (.long px), .second, .val (.int sx), .val (.long v1), .second, .val (.ref bx4), .val (.int (5 : Int32)), .val (.long (b0.toInt64)), .second] [(.int (1 : Int32)), (.ref bx4), (.long (lshl (b0.toInt64) (8 : Int32)))])) rfl rfl (hb hby at_50) _ ?_
      show Steps p.tables e below (T116.setTop (mkF m 51 #[.val (.long px), .second, .val (.int sx), .val (.long v1), .second, .val (.ref bx4), .val (.int (5 : Int32)), .val (.long (b0.toInt64)), .second] [(.int b1), (.long (lshl (b0.toInt64) (8 : Int32)))])) _
      refine XS.sipush X116.here hx rfl (hb hby at_51) ?_
      refine XS.iand X116.here hx rfl (hb hby at_54) rfl ?_
      refine XS.i2l X116.here hx rfl (hb hby at_55) rfl ?_
      refine XS.lor X116.here hx rfl (hb hby at_56) rfl ?_
      refine XS.lstore X116.here hx rfl (hb hby at_57) rfl (l' := #[.val (.long px), .second, .val (.int sx), .val (.long v1), .second, .val (.ref bx4), .val (.int (5 : Int32)), .val (.long ((lshl (b0.toInt64) (8 : Int32)) ||| ((b1 &&& (255 : Int32)).toInt64))), .second]) rfl ?_
      exact k)
    obtain ⟨v121, hv121⟩ : ∃ z : Int64, z = ((lshl (b0.toInt64) (8 : Int32)) ||| ((b1 &&& (255 : Int32)).toInt64)) := ⟨_, rfl⟩
    rw [← hv121] at pre122
    have pre124 : ∀ t, Steps p.tables e below (T116.setTop (mkF m 62 #[.val (.long px), .second, .val (.int sx), .val (.long v1), .second, .val (.ref bx4), .val (.int (5 : Int32)), .val (.long v121), .second] [(.int (2 : Int32)), (.int (5 : Int32))])) t → Steps p.tables e below (s₁.setTop (entryFrame m #[(.long px), (.int sx)] maxLocals)) t := fun t k => pre122 t (by
      show Steps p.tables e below (T116.setTop (mkF m 59 #[.val (.long px), .second, .val (.int sx), .val (.long v1), .second, .val (.ref bx4), .val (.int (5 : Int32)), .val (.long v121), .second] [])) _
      refine XS.iload X116.here hx rfl (hb hby at_59) rfl ?_
      refine XS.iconst X116.here hx rfl (hb hby at_61) ?_
      exact k)
    have hb123 : (2 : Int32) < (5 : Int32) := (by decide)
    have pre126 : ∀ t, Steps p.tables e below (T116.setTop (mkF m 82 #[.val (.long px), .second, .val (.int sx), .val (.long v1), .second, .val (.ref bx4), .val (.int (5 : Int32)), .val (.long ((lshl v121 (8 : Int32)) ||| ((b2 &&& (255 : Int32)).toInt64))), .second] [])) t → Steps p.tables e below (s₁.setTop (entryFrame m #[(.long px), (.int sx)] maxLocals)) t := fun t k => pre124 t (by
      show Steps p.tables e below (T116.setTop (mkF m 62 #[.val (.long px), .second, .val (.int sx), .val (.long v1), .second, .val (.ref bx4), .val (.int (5 : Int32)), .val (.long v121), .second] [(.int (2 : Int32)), (.int (5 : Int32))])) _
      refine XS.icmpNo X116.here hx rfl (hb hby at_62) rfl (tlt hb123).2.2.2 ?_
      refine XS.lload X116.here hx rfl (hb hby at_65) rfl ?_
      refine XS.bipush X116.here hx rfl (hb hby at_67) ?_
      refine XS.lshl X116.here hx rfl (hb hby at_69) rfl ?_
      refine XS.aload X116.here hx rfl (hb hby at_70) rfl rfl ?_
      refine XS.iconst X116.here hx rfl (hb hby at_72) ?_
      refine gBald X116 hx hZ rfl R116 0 rfl (j := (2 : Int32)) (v := (.int b2)) (by decide) rfl (g := (mkF m 73 #[.val (.long px), .second, .val (.int sx), .val (.long v1), .second, .val (.ref bx4), .val (.int (5 : Int32)), .val (.long v121), .second] [(.int (2 : Int32)), (.ref bx4), (.long (lshl v121 (8 : Int32)))])) rfl rfl (hb hby at_73) _ ?_
      show Steps p.tables e below (T116.setTop (mkF m 74 #[.val (.long px), .second, .val (.int sx), .val (.long v1), .second, .val (.ref bx4), .val (.int (5 : Int32)), .val (.long v121), .second] [(.int b2), (.long (lshl v121 (8 : Int32)))])) _
      refine XS.sipush X116.here hx rfl (hb hby at_74) ?_
      refine XS.iand X116.here hx rfl (hb hby at_77) rfl ?_
      refine XS.i2l X116.here hx rfl (hb hby at_78) rfl ?_
      refine XS.lor X116.here hx rfl (hb hby at_79) rfl ?_
      refine XS.lstore X116.here hx rfl (hb hby at_80) rfl (l' := #[.val (.long px), .second, .val (.int sx), .val (.long v1), .second, .val (.ref bx4), .val (.int (5 : Int32)), .val (.long ((lshl v121 (8 : Int32)) ||| ((b2 &&& (255 : Int32)).toInt64))), .second]) rfl ?_
      exact k)
    obtain ⟨v125, hv125⟩ : ∃ z : Int64, z = ((lshl v121 (8 : Int32)) ||| ((b2 &&& (255 : Int32)).toInt64)) := ⟨_, rfl⟩
    rw [← hv125] at pre126
    have pre128 : ∀ t, Steps p.tables e below (T116.setTop (mkF m 85 #[.val (.long px), .second, .val (.int sx), .val (.long v1), .second, .val (.ref bx4), .val (.int (5 : Int32)), .val (.long v125), .second] [(.int (3 : Int32)), (.int (5 : Int32))])) t → Steps p.tables e below (s₁.setTop (entryFrame m #[(.long px), (.int sx)] maxLocals)) t := fun t k => pre126 t (by
      show Steps p.tables e below (T116.setTop (mkF m 82 #[.val (.long px), .second, .val (.int sx), .val (.long v1), .second, .val (.ref bx4), .val (.int (5 : Int32)), .val (.long v125), .second] [])) _
      refine XS.iload X116.here hx rfl (hb hby at_82) rfl ?_
      refine XS.iconst X116.here hx rfl (hb hby at_84) ?_
      exact k)
    have hb127 : (3 : Int32) < (5 : Int32) := (by decide)
    have pre130 : ∀ t, Steps p.tables e below (T116.setTop (mkF m 105 #[.val (.long px), .second, .val (.int sx), .val (.long v1), .second, .val (.ref bx4), .val (.int (5 : Int32)), .val (.long ((lshl v125 (8 : Int32)) ||| ((b3 &&& (255 : Int32)).toInt64))), .second] [])) t → Steps p.tables e below (s₁.setTop (entryFrame m #[(.long px), (.int sx)] maxLocals)) t := fun t k => pre128 t (by
      show Steps p.tables e below (T116.setTop (mkF m 85 #[.val (.long px), .second, .val (.int sx), .val (.long v1), .second, .val (.ref bx4), .val (.int (5 : Int32)), .val (.long v125), .second] [(.int (3 : Int32)), (.int (5 : Int32))])) _
      refine XS.icmpNo X116.here hx rfl (hb hby at_85) rfl (tlt hb127).2.2.2 ?_
      refine XS.lload X116.here hx rfl (hb hby at_88) rfl ?_
      refine XS.bipush X116.here hx rfl (hb hby at_90) ?_
      refine XS.lshl X116.here hx rfl (hb hby at_92) rfl ?_
      refine XS.aload X116.here hx rfl (hb hby at_93) rfl rfl ?_
      refine XS.iconst X116.here hx rfl (hb hby at_95) ?_
      refine gBald X116 hx hZ rfl R116 0 rfl (j := (3 : Int32)) (v := (.int b3)) (by decide) rfl (g := (mkF m 96 #[.val (.long px), .second, .val (.int sx), .val (.long v1), .second, .val (.ref bx4), .val (.int (5 : Int32)), .val (.long v125), .second] [(.int (3 : Int32)), (.ref bx4), (.long (lshl v125 (8 : Int32)))])) rfl rfl (hb hby at_96) _ ?_
      show Steps p.tables e below (T116.setTop (mkF m 97 #[.val (.long px), .second, .val (.int sx), .val (.long v1), .second, .val (.ref bx4), .val (.int (5 : Int32)), .val (.long v125), .second] [(.int b3), (.long (lshl v125 (8 : Int32)))])) _
      refine XS.sipush X116.here hx rfl (hb hby at_97) ?_
      refine XS.iand X116.here hx rfl (hb hby at_100) rfl ?_
      refine XS.i2l X116.here hx rfl (hb hby at_101) rfl ?_
      refine XS.lor X116.here hx rfl (hb hby at_102) rfl ?_
      refine XS.lstore X116.here hx rfl (hb hby at_103) rfl (l' := #[.val (.long px), .second, .val (.int sx), .val (.long v1), .second, .val (.ref bx4), .val (.int (5 : Int32)), .val (.long ((lshl v125 (8 : Int32)) ||| ((b3 &&& (255 : Int32)).toInt64))), .second]) rfl ?_
      exact k)
    obtain ⟨v129, hv129⟩ : ∃ z : Int64, z = ((lshl v125 (8 : Int32)) ||| ((b3 &&& (255 : Int32)).toInt64)) := ⟨_, rfl⟩
    rw [← hv129] at pre130
    have pre132 : ∀ t, Steps p.tables e below (T116.setTop (mkF m 108 #[.val (.long px), .second, .val (.int sx), .val (.long v1), .second, .val (.ref bx4), .val (.int (5 : Int32)), .val (.long v129), .second] [(.int (4 : Int32)), (.int (5 : Int32))])) t → Steps p.tables e below (s₁.setTop (entryFrame m #[(.long px), (.int sx)] maxLocals)) t := fun t k => pre130 t (by
      show Steps p.tables e below (T116.setTop (mkF m 105 #[.val (.long px), .second, .val (.int sx), .val (.long v1), .second, .val (.ref bx4), .val (.int (5 : Int32)), .val (.long v129), .second] [])) _
      refine XS.iload X116.here hx rfl (hb hby at_105) rfl ?_
      refine XS.iconst X116.here hx rfl (hb hby at_107) ?_
      exact k)
    have hb131 : (4 : Int32) < (5 : Int32) := (by decide)
    have pre134 : ∀ t, Steps p.tables e below (T116.setTop (mkF m 128 #[.val (.long px), .second, .val (.int sx), .val (.long v1), .second, .val (.ref bx4), .val (.int (5 : Int32)), .val (.long ((lshl v129 (8 : Int32)) ||| ((b4 &&& (255 : Int32)).toInt64))), .second] [])) t → Steps p.tables e below (s₁.setTop (entryFrame m #[(.long px), (.int sx)] maxLocals)) t := fun t k => pre132 t (by
      show Steps p.tables e below (T116.setTop (mkF m 108 #[.val (.long px), .second, .val (.int sx), .val (.long v1), .second, .val (.ref bx4), .val (.int (5 : Int32)), .val (.long v129), .second] [(.int (4 : Int32)), (.int (5 : Int32))])) _
      refine XS.icmpNo X116.here hx rfl (hb hby at_108) rfl (tlt hb131).2.2.2 ?_
      refine XS.lload X116.here hx rfl (hb hby at_111) rfl ?_
      refine XS.bipush X116.here hx rfl (hb hby at_113) ?_
      refine XS.lshl X116.here hx rfl (hb hby at_115) rfl ?_
      refine XS.aload X116.here hx rfl (hb hby at_116) rfl rfl ?_
      refine XS.iconst X116.here hx rfl (hb hby at_118) ?_
      refine gBald X116 hx hZ rfl R116 0 rfl (j := (4 : Int32)) (v := (.int b4)) (by decide) rfl (g := (mkF m 119 #[.val (.long px), .second, .val (.int sx), .val (.long v1), .second, .val (.ref bx4), .val (.int (5 : Int32)), .val (.long v129), .second] [(.int (4 : Int32)), (.ref bx4), (.long (lshl v129 (8 : Int32)))])) rfl rfl (hb hby at_119) _ ?_
      show Steps p.tables e below (T116.setTop (mkF m 120 #[.val (.long px), .second, .val (.int sx), .val (.long v1), .second, .val (.ref bx4), .val (.int (5 : Int32)), .val (.long v129), .second] [(.int b4), (.long (lshl v129 (8 : Int32)))])) _
      refine XS.sipush X116.here hx rfl (hb hby at_120) ?_
      refine XS.iand X116.here hx rfl (hb hby at_123) rfl ?_
      refine XS.i2l X116.here hx rfl (hb hby at_124) rfl ?_
      refine XS.lor X116.here hx rfl (hb hby at_125) rfl ?_
      refine XS.lstore X116.here hx rfl (hb hby at_126) rfl (l' := #[.val (.long px), .second, .val (.int sx), .val (.long v1), .second, .val (.ref bx4), .val (.int (5 : Int32)), .val (.long ((lshl v129 (8 : Int32)) ||| ((b4 &&& (255 : Int32)).toInt64))), .second]) rfl ?_
      exact k)
    obtain ⟨v133, hv133⟩ : ∃ z : Int64, z = ((lshl v129 (8 : Int32)) ||| ((b4 &&& (255 : Int32)).toInt64)) := ⟨_, rfl⟩
    rw [← hv133] at pre134
    have pre136 : ∀ t, Steps p.tables e below (T116.setTop (mkF m 131 #[.val (.long px), .second, .val (.int sx), .val (.long v1), .second, .val (.ref bx4), .val (.int (5 : Int32)), .val (.long v133), .second] [(.int (5 : Int32)), (.int (5 : Int32))])) t → Steps p.tables e below (s₁.setTop (entryFrame m #[(.long px), (.int sx)] maxLocals)) t := fun t k => pre134 t (by
      show Steps p.tables e below (T116.setTop (mkF m 128 #[.val (.long px), .second, .val (.int sx), .val (.long v1), .second, .val (.ref bx4), .val (.int (5 : Int32)), .val (.long v133), .second] [])) _
      refine XS.iload X116.here hx rfl (hb hby at_128) rfl ?_
      refine XS.iconst X116.here hx rfl (hb hby at_130) ?_
      exact k)
    have hb135 : ¬ ((5 : Int32) < (5 : Int32)) := (by decide)
    have pre138 : ∀ t, Steps p.tables e below (T116.setTop (mkF m 155 #[.val (.long px), .second, .val (.int sx), .val (.long v1), .second, .val (.ref bx4), .val (.int (5 : Int32)), .val (.long v133), .second] [(.int (6 : Int32)), (.int (5 : Int32))])) t → Steps p.tables e below (s₁.setTop (entryFrame m #[(.long px), (.int sx)] maxLocals)) t := fun t k => pre136 t (by
      show Steps p.tables e below (T116.setTop (mkF m 131 #[.val (.long px), .second, .val (.int sx), .val (.long v1), .second, .val (.ref bx4), .val (.int (5 : Int32)), .val (.long v133), .second] [(.int (5 : Int32)), (.int (5 : Int32))])) _
      refine XS.icmpYes X116.here hx rfl (pc0 := 131) (pc' := 151) rfl (hb hby at_131) rfl (flt hb135).2.2.2 (by decide) (by decide) ?_
      refine XS.iload X116.here hx rfl (hb hby at_151) rfl ?_
      refine XS.bipush X116.here hx rfl (hb hby at_153) ?_
      exact k)
    have hb137 : ¬ ((6 : Int32) < (5 : Int32)) := (by decide)
    have pre140 : ∀ t, Steps p.tables e below (T116.setTop (mkF m 180 #[.val (.long px), .second, .val (.int sx), .val (.long v1), .second, .val (.ref bx4), .val (.int (5 : Int32)), .val (.long v133), .second] [(.int (7 : Int32)), (.int (5 : Int32))])) t → Steps p.tables e below (s₁.setTop (entryFrame m #[(.long px), (.int sx)] maxLocals)) t := fun t k => pre138 t (by
      show Steps p.tables e below (T116.setTop (mkF m 155 #[.val (.long px), .second, .val (.int sx), .val (.long v1), .second, .val (.ref bx4), .val (.int (5 : Int32)), .val (.long v133), .second] [(.int (6 : Int32)), (.int (5 : Int32))])) _
      refine XS.icmpYes X116.here hx rfl (pc0 := 155) (pc' := 176) rfl (hb hby at_155) rfl (flt hb137).2.2.2 (by decide) (by decide) ?_
      refine XS.iload X116.here hx rfl (hb hby at_176) rfl ?_
      refine XS.bipush X116.here hx rfl (hb hby at_178) ?_
      exact k)
    have hb139 : ¬ ((7 : Int32) < (5 : Int32)) := (by decide)
    have pre143 : ∀ t, Steps p.tables e below (T116.setTop (mkF m 205 #[.val (.long px), .second, .val (.int sx), .val (.long v1), .second, .val (.ref bx4), .val (.int (5 : Int32)), .val (.long v133), .second] [(.int (XT.cmpL v133 v1))])) t → Steps p.tables e below (s₁.setTop (entryFrame m #[(.long px), (.int sx)] maxLocals)) t := fun t k => pre140 t (by
      show Steps p.tables e below (T116.setTop (mkF m 180 #[.val (.long px), .second, .val (.int sx), .val (.long v1), .second, .val (.ref bx4), .val (.int (5 : Int32)), .val (.long v133), .second] [(.int (7 : Int32)), (.int (5 : Int32))])) _
      refine XS.icmpYes X116.here hx rfl (pc0 := 180) (pc' := 201) rfl (hb hby at_180) rfl (flt hb139).2.2.2 (by decide) (by decide) ?_
      refine XS.lload X116.here hx rfl (hb hby at_201) rfl ?_
      refine XS.lloadN X116.here hx rfl (hb hby at_203) rfl ?_
      refine XS.lcmp X116.here hx rfl (hb hby at_204) rfl ?_
      exact k)
    have tl142 : ∀ t, Steps p.tables e below (T116.setTop (mkF m 213 #[.val (.long px), .second, .val (.int sx), .val (.long v1), .second, .val (.ref bx4), .val (.int (5 : Int32)), .val (.long v133), .second] [(.int (bz (v133 = v1)))])) t → Steps p.tables e below (T116.setTop (mkF m 205 #[.val (.long px), .second, .val (.int sx), .val (.long v1), .second, .val (.ref bx4), .val (.int (5 : Int32)), .val (.long v133), .second] [(.int (XT.cmpL v133 v1))])) t := fun t k => by
      by_cases hb141 : v133 = v1
      · refine XS.ifNo X116.here hx rfl (hb hby at_205) rfl (XT.ll_ne_f hb141) ?_
        rw [bz_one (P := (v133 = v1)) (iff_true_intro hb141)] at k
        show Steps p.tables e below (T116.setTop (mkF m 208 #[.val (.long px), .second, .val (.int sx), .val (.long v1), .second, .val (.ref bx4), .val (.int (5 : Int32)), .val (.long v133), .second] [])) _
        refine XS.iconst X116.here hx rfl (hb hby at_208) ?_
        refine XS.goto X116.here hx rfl (pc0 := 209) (pc' := 213) rfl (hb hby at_209) (by decide) (by decide) ?_
        exact k
      · refine XS.ifYes X116.here hx rfl (pc0 := 205) (pc' := 212) rfl (hb hby at_205) rfl (XT.ll_ne_t hb141) (by decide) (by decide) ?_
        rw [bz_zero (P := (v133 = v1)) (iff_false_intro hb141)] at k
        show Steps p.tables e below (T116.setTop (mkF m 212 #[.val (.long px), .second, .val (.int sx), .val (.long v1), .second, .val (.ref bx4), .val (.int (5 : Int32)), .val (.long v133), .second] [])) _
        refine XS.iconst X116.here hx rfl (hb hby at_212) ?_
        exact k
    have pre144 : ∀ t, Steps p.tables e below (T116.setTop (mkF m 213 #[.val (.long px), .second, .val (.int sx), .val (.long v1), .second, .val (.ref bx4), .val (.int (5 : Int32)), .val (.long v133), .second] [(.int (bz (v133 = v1)))])) t → Steps p.tables e below (s₁.setTop (entryFrame m #[(.long px), (.int sx)] maxLocals)) t := fun t k => pre143 t (by
      exact tl142 t k)
    obtain ⟨fs, hr, hrun, hended, hW, hsame⟩ := X116.leave (v := some (.int (nar .boolean (bz (v133 = v1))))) (fun h => by rw [Bd.returns] at h; cases h)
    refine ⟨_, _, pre144 _ ?_, hrun, hended, _, _, rfl, ?_, ⟨_, rfl⟩, hW, hsame.mono (by decide) (by decide)⟩
    · show Steps p.tables e below (T116.setTop (mkF m 213 #[.val (.long px), .second, .val (.int sx), .val (.long v1), .second, .val (.ref bx4), .val (.int (5 : Int32)), .val (.long v133), .second] [(.int (bz (v133 = v1)))])) _
      exact retN X116 hx (t := .boolean) Bd.returns (by simp) (hb hby at_213) hr
    · show Q0 Z px sx n0 [] _ T116.heap _
      have R145 : Rep Z n0 T116.heap ([]) := (R116.front 0 rfl rfl : Rep Z n0 T116.heap ((bx4, Ar .byte [(.int b0), (.int b1), (.int b2), (.int b3), (.int b4)]) :: [])).tail
      exact ⟨(by subst hv121 hv125 hv129 hv133; exact ow_fin hR), N116, R145⟩
  · have R146 : Rep Z n0 T4.heap ((bx4, Ar .byte [(.int b0), (.int b1), (.int b2), (.int b3), (.int b4), (.int b5)]) :: []) := by rw [← hE]; exact R4
    have pre147 : ∀ t, Steps p.tables e below (T4.setTop (mkF m 21 #[.val (.long px), .second, .val (.int sx), .val (.long v1), .second, .val (.ref bx4), .val (.int (6 : Int32)), .unset, .unset] [(.long v1), (.int (6 : Int32))])) t → Steps p.tables e below (s₁.setTop (entryFrame m #[(.long px), (.int sx)] maxLocals)) t := fun t k => pre5 t (by
      show Steps p.tables e below (T4.setTop (mkF m 11 #[.val (.long px), .second, .val (.int sx), .val (.long v1), .second, .unset, .unset, .unset, .unset] [(.ref bx4)])) _
      refine XS.astore X4.here hx rfl (hb hby at_11) rfl rfl (l' := #[.val (.long px), .second, .val (.int sx), .val (.long v1), .second, .val (.ref bx4), .unset, .unset, .unset]) rfl ?_
      refine XS.aload X4.here hx rfl (hb hby at_13) rfl rfl ?_
      refine gLen X4 hx hZ rfl R146 0 rfl (g := (mkF m 15 #[.val (.long px), .second, .val (.int sx), .val (.long v1), .second, .val (.ref bx4), .unset, .unset, .unset] [(.ref bx4)])) rfl rfl (hb hby at_15) (z := (6 : Int32)) (rfl) _ ?_
      refine XS.istore X4.here hx rfl (hb hby at_16) rfl (l' := #[.val (.long px), .second, .val (.int sx), .val (.long v1), .second, .val (.ref bx4), .val (.int (6 : Int32)), .unset, .unset]) rfl ?_
      refine XS.iload X4.here hx rfl (hb hby at_18) rfl ?_
      refine XS.lloadN X4.here hx rfl (hb hby at_20) rfl ?_
      exact k)
    obtain ⟨_, _, ⟨T148, L148, k148, n148⟩, -, X148, ⟨Lc148, hQ148, l148, y148, z148⟩, st148⟩ := Jvm.LawKit.callS X4 hx (y := (⟨"com/example/sidetrack/sidetrack/codec/BerIntegerEncodePinLaw", "expectedLength", "(J)I"⟩ : MethodName)) hown (mvT hZ (hw _ (List.mem_of_getElem? (i := 5) rfl))) (mvT hZ (hw _ (List.mem_of_getElem? (i := 6) rfl))) (mvT hZ (hw _ (List.mem_of_getElem? (i := 7) rfl))) (mvT hZ (hw _ (List.mem_of_getElem? (i := 8) rfl))) (by decide) (backOf (W := 1) (rm2 l Z a0 hw [] v1  T4.heap n0 _ R146 ) hZ (hw _ (List.mem_of_getElem? (i := 8) rfl)) (hw _ (List.mem_of_getElem? (i := 7) rfl)) (by decide) (by decide)) (g := (mkF m 21 #[.val (.long px), .second, .val (.int sx), .val (.long v1), .second, .val (.ref bx4), .val (.int (6 : Int32)), .unset, .unset] [(.long v1), (.int (6 : Int32))])) rfl (by rw [hml]; rfl) (argsL := [(.long v1)]) (rest := [(.int (6 : Int32))]) (lenOf pd__28J_29I rfl) rfl (by show 2 * 0 + _ ≤ _; exact Nat.le_of_eq rfl) (hb hby at_21) (fun _ _ => ⟨rfl, rfl, (by decide : 1 + 0 ≤ _), (by decide : 8 + 0 ≤ _)⟩)
    dsimp only [Pt.U, Pt.locs, Pt.cells, Pt.slots] at X148 l148 y148 z148 st148 hQ148
    subst l148 y148 z148
    obtain ⟨rfl, N148q, R148⟩ := hQ148
    have N148 := Fr.app N4 N148q
    replace R148 : Rep Z n0 T148.heap ((bx4, Ar .byte [(.int b0), (.int b1), (.int b2), (.int b3), (.int b4), (.int b5)]) :: []) := R148
    have pre149 : ∀ t, Steps p.tables e below (T148.setTop (mkF m 24 #[.val (.long px), .second, .val (.int sx), .val (.long v1), .second, .val (.ref bx4), .val (.int (6 : Int32)), .unset, .unset] [(.int (F2 v1)), (.int (6 : Int32))])) t → Steps p.tables e below (s₁.setTop (entryFrame m #[(.long px), (.int sx)] maxLocals)) t := fun t k => pre147 t (st148 t k)
    have hb150 : (6 : Int32) = (F2 v1) := hF.symm
    have pre152 : ∀ t, Steps p.tables e below (T148.setTop (mkF m 39 #[.val (.long px), .second, .val (.int sx), .val (.long v1), .second, .val (.ref bx4), .val (.int (6 : Int32)), .val (.long (b0.toInt64)), .second] [(.int (1 : Int32)), (.int (6 : Int32))])) t → Steps p.tables e below (s₁.setTop (entryFrame m #[(.long px), (.int sx)] maxLocals)) t := fun t k => pre149 t (by
      show Steps p.tables e below (T148.setTop (mkF m 24 #[.val (.long px), .second, .val (.int sx), .val (.long v1), .second, .val (.ref bx4), .val (.int (6 : Int32)), .unset, .unset] [(.int (F2 v1)), (.int (6 : Int32))])) _
      refine XS.icmpYes X148.here hx rfl (pc0 := 24) (pc' := 29) rfl (hb hby at_24) rfl (teq hb150).1 (by decide) (by decide) ?_
      refine XS.aload X148.here hx rfl (hb hby at_29) rfl rfl ?_
      refine XS.iconst X148.here hx rfl (hb hby at_31) ?_
      refine gBald X148 hx hZ rfl R148 0 rfl (j := (0 : Int32)) (v := (.int b0)) (by decide) rfl (g := (mkF m 32 #[.val (.long px), .second, .val (.int sx), .val (.long v1), .second, .val (.ref bx4), .val (.int (6 : Int32)), .unset, .unset] [(.int (0 : Int32)), (.ref bx4)])) rfl rfl (hb hby at_32) _ ?_
      refine XS.i2l X148.here hx rfl (hb hby at_33) rfl ?_
      refine XS.lstore X148.here hx rfl (hb hby at_34) rfl (l' := #[.val (.long px), .second, .val (.int sx), .val (.long v1), .second, .val (.ref bx4), .val (.int (6 : Int32)), .val (.long (b0.toInt64)), .second]) rfl ?_
      refine XS.iload X148.here hx rfl (hb hby at_36) rfl ?_
      show Steps p.tables e below (T148.setTop (mkF m 38 #[.val (.long px), .second, .val (.int sx), .val (.long v1), .second, .val (.ref bx4), .val (.int (6 : Int32)), .val (.long (b0.toInt64)), .second] [(.int (6 : Int32))])) _
      refine XS.iconst X148.here hx rfl (hb hby at_38) ?_
      exact k)
    have hb151 : (1 : Int32) < (6 : Int32) := (by decide)
    have pre154 : ∀ t, Steps p.tables e below (T148.setTop (mkF m 59 #[.val (.long px), .second, .val (.int sx), .val (.long v1), .second, .val (.ref bx4), .val (.int (6 : Int32)), .val (.long ((lshl (b0.toInt64) (8 : Int32)) ||| ((b1 &&& (255 : Int32)).toInt64))), .second] [])) t → Steps p.tables e below (s₁.setTop (entryFrame m #[(.long px), (.int sx)] maxLocals)) t := fun t k => pre152 t (by
      show Steps p.tables e below (T148.setTop (mkF m 39 #[.val (.long px), .second, .val (.int sx), .val (.long v1), .second, .val (.ref bx4), .val (.int (6 : Int32)), .val (.long (b0.toInt64)), .second] [(.int (1 : Int32)), (.int (6 : Int32))])) _
      refine XS.icmpNo X148.here hx rfl (hb hby at_39) rfl (tlt hb151).2.2.2 ?_
      refine XS.lload X148.here hx rfl (hb hby at_42) rfl ?_
      refine XS.bipush X148.here hx rfl (hb hby at_44) ?_
      refine XS.lshl X148.here hx rfl (hb hby at_46) rfl ?_
      refine XS.aload X148.here hx rfl (hb hby at_47) rfl rfl ?_
      refine XS.iconst X148.here hx rfl (hb hby at_49) ?_
      refine gBald X148 hx hZ rfl R148 0 rfl (j := (1 : Int32)) (v := (.int b1)) (by decide) rfl (g := (mkF m 50 #[.val (.long px), .second, .val (.int sx), .val (.long v1), .second, .val (.ref bx4), .val (.int (6 : Int32)), .val (.long (b0.toInt64)), .second] [(.int (1 : Int32)), (.ref bx4), (.long (lshl (b0.toInt64) (8 : Int32)))])) rfl rfl (hb hby at_50) _ ?_
      show Steps p.tables e below (T148.setTop (mkF m 51 #[.val (.long px), .second, .val (.int sx), .val (.long v1), .second, .val (.ref bx4), .val (.int (6 : Int32)), .val (.long (b0.toInt64)), .second] [(.int b1), (.long (lshl (b0.toInt64) (8 : Int32)))])) _
      refine XS.sipush X148.here hx rfl (hb hby at_51) ?_
      refine XS.iand X148.here hx rfl (hb hby at_54) rfl ?_
      refine XS.i2l X148.here hx rfl (hb hby at_55) rfl ?_
      refine XS.lor X148.here hx rfl (hb hby at_56) rfl ?_
      refine XS.lstore X148.here hx rfl (hb hby at_57) rfl (l' := #[.val (.long px), .second, .val (.int sx), .val (.long v1), .second, .val (.ref bx4), .val (.int (6 : Int32)), .val (.long ((lshl (b0.toInt64) (8 : Int32)) ||| ((b1 &&& (255 : Int32)).toInt64))), .second]) rfl ?_
      exact k)
    obtain ⟨v153, hv153⟩ : ∃ z : Int64, z = ((lshl (b0.toInt64) (8 : Int32)) ||| ((b1 &&& (255 : Int32)).toInt64)) := ⟨_, rfl⟩
    rw [← hv153] at pre154
    have pre156 : ∀ t, Steps p.tables e below (T148.setTop (mkF m 62 #[.val (.long px), .second, .val (.int sx), .val (.long v1), .second, .val (.ref bx4), .val (.int (6 : Int32)), .val (.long v153), .second] [(.int (2 : Int32)), (.int (6 : Int32))])) t → Steps p.tables e below (s₁.setTop (entryFrame m #[(.long px), (.int sx)] maxLocals)) t := fun t k => pre154 t (by
      show Steps p.tables e below (T148.setTop (mkF m 59 #[.val (.long px), .second, .val (.int sx), .val (.long v1), .second, .val (.ref bx4), .val (.int (6 : Int32)), .val (.long v153), .second] [])) _
      refine XS.iload X148.here hx rfl (hb hby at_59) rfl ?_
      refine XS.iconst X148.here hx rfl (hb hby at_61) ?_
      exact k)
    have hb155 : (2 : Int32) < (6 : Int32) := (by decide)
    have pre158 : ∀ t, Steps p.tables e below (T148.setTop (mkF m 82 #[.val (.long px), .second, .val (.int sx), .val (.long v1), .second, .val (.ref bx4), .val (.int (6 : Int32)), .val (.long ((lshl v153 (8 : Int32)) ||| ((b2 &&& (255 : Int32)).toInt64))), .second] [])) t → Steps p.tables e below (s₁.setTop (entryFrame m #[(.long px), (.int sx)] maxLocals)) t := fun t k => pre156 t (by
      show Steps p.tables e below (T148.setTop (mkF m 62 #[.val (.long px), .second, .val (.int sx), .val (.long v1), .second, .val (.ref bx4), .val (.int (6 : Int32)), .val (.long v153), .second] [(.int (2 : Int32)), (.int (6 : Int32))])) _
      refine XS.icmpNo X148.here hx rfl (hb hby at_62) rfl (tlt hb155).2.2.2 ?_
      refine XS.lload X148.here hx rfl (hb hby at_65) rfl ?_
      refine XS.bipush X148.here hx rfl (hb hby at_67) ?_
      refine XS.lshl X148.here hx rfl (hb hby at_69) rfl ?_
      refine XS.aload X148.here hx rfl (hb hby at_70) rfl rfl ?_
      refine XS.iconst X148.here hx rfl (hb hby at_72) ?_
      refine gBald X148 hx hZ rfl R148 0 rfl (j := (2 : Int32)) (v := (.int b2)) (by decide) rfl (g := (mkF m 73 #[.val (.long px), .second, .val (.int sx), .val (.long v1), .second, .val (.ref bx4), .val (.int (6 : Int32)), .val (.long v153), .second] [(.int (2 : Int32)), (.ref bx4), (.long (lshl v153 (8 : Int32)))])) rfl rfl (hb hby at_73) _ ?_
      show Steps p.tables e below (T148.setTop (mkF m 74 #[.val (.long px), .second, .val (.int sx), .val (.long v1), .second, .val (.ref bx4), .val (.int (6 : Int32)), .val (.long v153), .second] [(.int b2), (.long (lshl v153 (8 : Int32)))])) _
      refine XS.sipush X148.here hx rfl (hb hby at_74) ?_
      refine XS.iand X148.here hx rfl (hb hby at_77) rfl ?_
      refine XS.i2l X148.here hx rfl (hb hby at_78) rfl ?_
      refine XS.lor X148.here hx rfl (hb hby at_79) rfl ?_
      refine XS.lstore X148.here hx rfl (hb hby at_80) rfl (l' := #[.val (.long px), .second, .val (.int sx), .val (.long v1), .second, .val (.ref bx4), .val (.int (6 : Int32)), .val (.long ((lshl v153 (8 : Int32)) ||| ((b2 &&& (255 : Int32)).toInt64))), .second]) rfl ?_
      exact k)
    obtain ⟨v157, hv157⟩ : ∃ z : Int64, z = ((lshl v153 (8 : Int32)) ||| ((b2 &&& (255 : Int32)).toInt64)) := ⟨_, rfl⟩
    rw [← hv157] at pre158
    have pre160 : ∀ t, Steps p.tables e below (T148.setTop (mkF m 85 #[.val (.long px), .second, .val (.int sx), .val (.long v1), .second, .val (.ref bx4), .val (.int (6 : Int32)), .val (.long v157), .second] [(.int (3 : Int32)), (.int (6 : Int32))])) t → Steps p.tables e below (s₁.setTop (entryFrame m #[(.long px), (.int sx)] maxLocals)) t := fun t k => pre158 t (by
      show Steps p.tables e below (T148.setTop (mkF m 82 #[.val (.long px), .second, .val (.int sx), .val (.long v1), .second, .val (.ref bx4), .val (.int (6 : Int32)), .val (.long v157), .second] [])) _
      refine XS.iload X148.here hx rfl (hb hby at_82) rfl ?_
      refine XS.iconst X148.here hx rfl (hb hby at_84) ?_
      exact k)
    have hb159 : (3 : Int32) < (6 : Int32) := (by decide)
    have pre162 : ∀ t, Steps p.tables e below (T148.setTop (mkF m 105 #[.val (.long px), .second, .val (.int sx), .val (.long v1), .second, .val (.ref bx4), .val (.int (6 : Int32)), .val (.long ((lshl v157 (8 : Int32)) ||| ((b3 &&& (255 : Int32)).toInt64))), .second] [])) t → Steps p.tables e below (s₁.setTop (entryFrame m #[(.long px), (.int sx)] maxLocals)) t := fun t k => pre160 t (by
      show Steps p.tables e below (T148.setTop (mkF m 85 #[.val (.long px), .second, .val (.int sx), .val (.long v1), .second, .val (.ref bx4), .val (.int (6 : Int32)), .val (.long v157), .second] [(.int (3 : Int32)), (.int (6 : Int32))])) _
      refine XS.icmpNo X148.here hx rfl (hb hby at_85) rfl (tlt hb159).2.2.2 ?_
      refine XS.lload X148.here hx rfl (hb hby at_88) rfl ?_
      refine XS.bipush X148.here hx rfl (hb hby at_90) ?_
      refine XS.lshl X148.here hx rfl (hb hby at_92) rfl ?_
      refine XS.aload X148.here hx rfl (hb hby at_93) rfl rfl ?_
      refine XS.iconst X148.here hx rfl (hb hby at_95) ?_
      refine gBald X148 hx hZ rfl R148 0 rfl (j := (3 : Int32)) (v := (.int b3)) (by decide) rfl (g := (mkF m 96 #[.val (.long px), .second, .val (.int sx), .val (.long v1), .second, .val (.ref bx4), .val (.int (6 : Int32)), .val (.long v157), .second] [(.int (3 : Int32)), (.ref bx4), (.long (lshl v157 (8 : Int32)))])) rfl rfl (hb hby at_96) _ ?_
      show Steps p.tables e below (T148.setTop (mkF m 97 #[.val (.long px), .second, .val (.int sx), .val (.long v1), .second, .val (.ref bx4), .val (.int (6 : Int32)), .val (.long v157), .second] [(.int b3), (.long (lshl v157 (8 : Int32)))])) _
      refine XS.sipush X148.here hx rfl (hb hby at_97) ?_
      refine XS.iand X148.here hx rfl (hb hby at_100) rfl ?_
      refine XS.i2l X148.here hx rfl (hb hby at_101) rfl ?_
      refine XS.lor X148.here hx rfl (hb hby at_102) rfl ?_
      refine XS.lstore X148.here hx rfl (hb hby at_103) rfl (l' := #[.val (.long px), .second, .val (.int sx), .val (.long v1), .second, .val (.ref bx4), .val (.int (6 : Int32)), .val (.long ((lshl v157 (8 : Int32)) ||| ((b3 &&& (255 : Int32)).toInt64))), .second]) rfl ?_
      exact k)
    obtain ⟨v161, hv161⟩ : ∃ z : Int64, z = ((lshl v157 (8 : Int32)) ||| ((b3 &&& (255 : Int32)).toInt64)) := ⟨_, rfl⟩
    rw [← hv161] at pre162
    have pre164 : ∀ t, Steps p.tables e below (T148.setTop (mkF m 108 #[.val (.long px), .second, .val (.int sx), .val (.long v1), .second, .val (.ref bx4), .val (.int (6 : Int32)), .val (.long v161), .second] [(.int (4 : Int32)), (.int (6 : Int32))])) t → Steps p.tables e below (s₁.setTop (entryFrame m #[(.long px), (.int sx)] maxLocals)) t := fun t k => pre162 t (by
      show Steps p.tables e below (T148.setTop (mkF m 105 #[.val (.long px), .second, .val (.int sx), .val (.long v1), .second, .val (.ref bx4), .val (.int (6 : Int32)), .val (.long v161), .second] [])) _
      refine XS.iload X148.here hx rfl (hb hby at_105) rfl ?_
      refine XS.iconst X148.here hx rfl (hb hby at_107) ?_
      exact k)
    have hb163 : (4 : Int32) < (6 : Int32) := (by decide)
    have pre166 : ∀ t, Steps p.tables e below (T148.setTop (mkF m 128 #[.val (.long px), .second, .val (.int sx), .val (.long v1), .second, .val (.ref bx4), .val (.int (6 : Int32)), .val (.long ((lshl v161 (8 : Int32)) ||| ((b4 &&& (255 : Int32)).toInt64))), .second] [])) t → Steps p.tables e below (s₁.setTop (entryFrame m #[(.long px), (.int sx)] maxLocals)) t := fun t k => pre164 t (by
      show Steps p.tables e below (T148.setTop (mkF m 108 #[.val (.long px), .second, .val (.int sx), .val (.long v1), .second, .val (.ref bx4), .val (.int (6 : Int32)), .val (.long v161), .second] [(.int (4 : Int32)), (.int (6 : Int32))])) _
      refine XS.icmpNo X148.here hx rfl (hb hby at_108) rfl (tlt hb163).2.2.2 ?_
      refine XS.lload X148.here hx rfl (hb hby at_111) rfl ?_
      refine XS.bipush X148.here hx rfl (hb hby at_113) ?_
      refine XS.lshl X148.here hx rfl (hb hby at_115) rfl ?_
      refine XS.aload X148.here hx rfl (hb hby at_116) rfl rfl ?_
      refine XS.iconst X148.here hx rfl (hb hby at_118) ?_
      refine gBald X148 hx hZ rfl R148 0 rfl (j := (4 : Int32)) (v := (.int b4)) (by decide) rfl (g := (mkF m 119 #[.val (.long px), .second, .val (.int sx), .val (.long v1), .second, .val (.ref bx4), .val (.int (6 : Int32)), .val (.long v161), .second] [(.int (4 : Int32)), (.ref bx4), (.long (lshl v161 (8 : Int32)))])) rfl rfl (hb hby at_119) _ ?_
      show Steps p.tables e below (T148.setTop (mkF m 120 #[.val (.long px), .second, .val (.int sx), .val (.long v1), .second, .val (.ref bx4), .val (.int (6 : Int32)), .val (.long v161), .second] [(.int b4), (.long (lshl v161 (8 : Int32)))])) _
      refine XS.sipush X148.here hx rfl (hb hby at_120) ?_
      refine XS.iand X148.here hx rfl (hb hby at_123) rfl ?_
      refine XS.i2l X148.here hx rfl (hb hby at_124) rfl ?_
      refine XS.lor X148.here hx rfl (hb hby at_125) rfl ?_
      refine XS.lstore X148.here hx rfl (hb hby at_126) rfl (l' := #[.val (.long px), .second, .val (.int sx), .val (.long v1), .second, .val (.ref bx4), .val (.int (6 : Int32)), .val (.long ((lshl v161 (8 : Int32)) ||| ((b4 &&& (255 : Int32)).toInt64))), .second]) rfl ?_
      exact k)
    obtain ⟨v165, hv165⟩ : ∃ z : Int64, z = ((lshl v161 (8 : Int32)) ||| ((b4 &&& (255 : Int32)).toInt64)) := ⟨_, rfl⟩
    rw [← hv165] at pre166
    have pre168 : ∀ t, Steps p.tables e below (T148.setTop (mkF m 131 #[.val (.long px), .second, .val (.int sx), .val (.long v1), .second, .val (.ref bx4), .val (.int (6 : Int32)), .val (.long v165), .second] [(.int (5 : Int32)), (.int (6 : Int32))])) t → Steps p.tables e below (s₁.setTop (entryFrame m #[(.long px), (.int sx)] maxLocals)) t := fun t k => pre166 t (by
      show Steps p.tables e below (T148.setTop (mkF m 128 #[.val (.long px), .second, .val (.int sx), .val (.long v1), .second, .val (.ref bx4), .val (.int (6 : Int32)), .val (.long v165), .second] [])) _
      refine XS.iload X148.here hx rfl (hb hby at_128) rfl ?_
      refine XS.iconst X148.here hx rfl (hb hby at_130) ?_
      exact k)
    have hb167 : (5 : Int32) < (6 : Int32) := (by decide)
    have pre170 : ∀ t, Steps p.tables e below (T148.setTop (mkF m 151 #[.val (.long px), .second, .val (.int sx), .val (.long v1), .second, .val (.ref bx4), .val (.int (6 : Int32)), .val (.long ((lshl v165 (8 : Int32)) ||| ((b5 &&& (255 : Int32)).toInt64))), .second] [])) t → Steps p.tables e below (s₁.setTop (entryFrame m #[(.long px), (.int sx)] maxLocals)) t := fun t k => pre168 t (by
      show Steps p.tables e below (T148.setTop (mkF m 131 #[.val (.long px), .second, .val (.int sx), .val (.long v1), .second, .val (.ref bx4), .val (.int (6 : Int32)), .val (.long v165), .second] [(.int (5 : Int32)), (.int (6 : Int32))])) _
      refine XS.icmpNo X148.here hx rfl (hb hby at_131) rfl (tlt hb167).2.2.2 ?_
      refine XS.lload X148.here hx rfl (hb hby at_134) rfl ?_
      refine XS.bipush X148.here hx rfl (hb hby at_136) ?_
      refine XS.lshl X148.here hx rfl (hb hby at_138) rfl ?_
      refine XS.aload X148.here hx rfl (hb hby at_139) rfl rfl ?_
      refine XS.iconst X148.here hx rfl (hb hby at_141) ?_
      refine gBald X148 hx hZ rfl R148 0 rfl (j := (5 : Int32)) (v := (.int b5)) (by decide) rfl (g := (mkF m 142 #[.val (.long px), .second, .val (.int sx), .val (.long v1), .second, .val (.ref bx4), .val (.int (6 : Int32)), .val (.long v165), .second] [(.int (5 : Int32)), (.ref bx4), (.long (lshl v165 (8 : Int32)))])) rfl rfl (hb hby at_142) _ ?_
      show Steps p.tables e below (T148.setTop (mkF m 143 #[.val (.long px), .second, .val (.int sx), .val (.long v1), .second, .val (.ref bx4), .val (.int (6 : Int32)), .val (.long v165), .second] [(.int b5), (.long (lshl v165 (8 : Int32)))])) _
      refine XS.sipush X148.here hx rfl (hb hby at_143) ?_
      refine XS.iand X148.here hx rfl (hb hby at_146) rfl ?_
      refine XS.i2l X148.here hx rfl (hb hby at_147) rfl ?_
      refine XS.lor X148.here hx rfl (hb hby at_148) rfl ?_
      refine XS.lstore X148.here hx rfl (hb hby at_149) rfl (l' := #[.val (.long px), .second, .val (.int sx), .val (.long v1), .second, .val (.ref bx4), .val (.int (6 : Int32)), .val (.long ((lshl v165 (8 : Int32)) ||| ((b5 &&& (255 : Int32)).toInt64))), .second]) rfl ?_
      exact k)
    obtain ⟨v169, hv169⟩ : ∃ z : Int64, z = ((lshl v165 (8 : Int32)) ||| ((b5 &&& (255 : Int32)).toInt64)) := ⟨_, rfl⟩
    rw [← hv169] at pre170
    have pre172 : ∀ t, Steps p.tables e below (T148.setTop (mkF m 155 #[.val (.long px), .second, .val (.int sx), .val (.long v1), .second, .val (.ref bx4), .val (.int (6 : Int32)), .val (.long v169), .second] [(.int (6 : Int32)), (.int (6 : Int32))])) t → Steps p.tables e below (s₁.setTop (entryFrame m #[(.long px), (.int sx)] maxLocals)) t := fun t k => pre170 t (by
      show Steps p.tables e below (T148.setTop (mkF m 151 #[.val (.long px), .second, .val (.int sx), .val (.long v1), .second, .val (.ref bx4), .val (.int (6 : Int32)), .val (.long v169), .second] [])) _
      refine XS.iload X148.here hx rfl (hb hby at_151) rfl ?_
      refine XS.bipush X148.here hx rfl (hb hby at_153) ?_
      exact k)
    have hb171 : ¬ ((6 : Int32) < (6 : Int32)) := (by decide)
    have pre174 : ∀ t, Steps p.tables e below (T148.setTop (mkF m 180 #[.val (.long px), .second, .val (.int sx), .val (.long v1), .second, .val (.ref bx4), .val (.int (6 : Int32)), .val (.long v169), .second] [(.int (7 : Int32)), (.int (6 : Int32))])) t → Steps p.tables e below (s₁.setTop (entryFrame m #[(.long px), (.int sx)] maxLocals)) t := fun t k => pre172 t (by
      show Steps p.tables e below (T148.setTop (mkF m 155 #[.val (.long px), .second, .val (.int sx), .val (.long v1), .second, .val (.ref bx4), .val (.int (6 : Int32)), .val (.long v169), .second] [(.int (6 : Int32)), (.int (6 : Int32))])) _
      refine XS.icmpYes X148.here hx rfl (pc0 := 155) (pc' := 176) rfl (hb hby at_155) rfl (flt hb171).2.2.2 (by decide) (by decide) ?_
      refine XS.iload X148.here hx rfl (hb hby at_176) rfl ?_
      refine XS.bipush X148.here hx rfl (hb hby at_178) ?_
      exact k)
    have hb173 : ¬ ((7 : Int32) < (6 : Int32)) := (by decide)
    have pre177 : ∀ t, Steps p.tables e below (T148.setTop (mkF m 205 #[.val (.long px), .second, .val (.int sx), .val (.long v1), .second, .val (.ref bx4), .val (.int (6 : Int32)), .val (.long v169), .second] [(.int (XT.cmpL v169 v1))])) t → Steps p.tables e below (s₁.setTop (entryFrame m #[(.long px), (.int sx)] maxLocals)) t := fun t k => pre174 t (by
      show Steps p.tables e below (T148.setTop (mkF m 180 #[.val (.long px), .second, .val (.int sx), .val (.long v1), .second, .val (.ref bx4), .val (.int (6 : Int32)), .val (.long v169), .second] [(.int (7 : Int32)), (.int (6 : Int32))])) _
      refine XS.icmpYes X148.here hx rfl (pc0 := 180) (pc' := 201) rfl (hb hby at_180) rfl (flt hb173).2.2.2 (by decide) (by decide) ?_
      refine XS.lload X148.here hx rfl (hb hby at_201) rfl ?_
      refine XS.lloadN X148.here hx rfl (hb hby at_203) rfl ?_
      refine XS.lcmp X148.here hx rfl (hb hby at_204) rfl ?_
      exact k)
    have tl176 : ∀ t, Steps p.tables e below (T148.setTop (mkF m 213 #[.val (.long px), .second, .val (.int sx), .val (.long v1), .second, .val (.ref bx4), .val (.int (6 : Int32)), .val (.long v169), .second] [(.int (bz (v169 = v1)))])) t → Steps p.tables e below (T148.setTop (mkF m 205 #[.val (.long px), .second, .val (.int sx), .val (.long v1), .second, .val (.ref bx4), .val (.int (6 : Int32)), .val (.long v169), .second] [(.int (XT.cmpL v169 v1))])) t := fun t k => by
      by_cases hb175 : v169 = v1
      · refine XS.ifNo X148.here hx rfl (hb hby at_205) rfl (XT.ll_ne_f hb175) ?_
        rw [bz_one (P := (v169 = v1)) (iff_true_intro hb175)] at k
        show Steps p.tables e below (T148.setTop (mkF m 208 #[.val (.long px), .second, .val (.int sx), .val (.long v1), .second, .val (.ref bx4), .val (.int (6 : Int32)), .val (.long v169), .second] [])) _
        refine XS.iconst X148.here hx rfl (hb hby at_208) ?_
        refine XS.goto X148.here hx rfl (pc0 := 209) (pc' := 213) rfl (hb hby at_209) (by decide) (by decide) ?_
        exact k
      · refine XS.ifYes X148.here hx rfl (pc0 := 205) (pc' := 212) rfl (hb hby at_205) rfl (XT.ll_ne_t hb175) (by decide) (by decide) ?_
        rw [bz_zero (P := (v169 = v1)) (iff_false_intro hb175)] at k
        show Steps p.tables e below (T148.setTop (mkF m 212 #[.val (.long px), .second, .val (.int sx), .val (.long v1), .second, .val (.ref bx4), .val (.int (6 : Int32)), .val (.long v169), .second] [])) _
        refine XS.iconst X148.here hx rfl (hb hby at_212) ?_
        exact k
    have pre178 : ∀ t, Steps p.tables e below (T148.setTop (mkF m 213 #[.val (.long px), .second, .val (.int sx), .val (.long v1), .second, .val (.ref bx4), .val (.int (6 : Int32)), .val (.long v169), .second] [(.int (bz (v169 = v1)))])) t → Steps p.tables e below (s₁.setTop (entryFrame m #[(.long px), (.int sx)] maxLocals)) t := fun t k => pre177 t (by
      exact tl176 t k)
    obtain ⟨fs, hr, hrun, hended, hW, hsame⟩ := X148.leave (v := some (.int (nar .boolean (bz (v169 = v1))))) (fun h => by rw [Bd.returns] at h; cases h)
    refine ⟨_, _, pre178 _ ?_, hrun, hended, _, _, rfl, ?_, ⟨_, rfl⟩, hW, hsame.mono (by decide) (by decide)⟩
    · show Steps p.tables e below (T148.setTop (mkF m 213 #[.val (.long px), .second, .val (.int sx), .val (.long v1), .second, .val (.ref bx4), .val (.int (6 : Int32)), .val (.long v169), .second] [(.int (bz (v169 = v1)))])) _
      exact retN X148 hx (t := .boolean) Bd.returns (by simp) (hb hby at_213) hr
    · show Q0 Z px sx n0 [] _ T148.heap _
      have R179 : Rep Z n0 T148.heap ([]) := (R148.front 0 rfl rfl : Rep Z n0 T148.heap ((bx4, Ar .byte [(.int b0), (.int b1), (.int b2), (.int b3), (.int b4), (.int b5)]) :: [])).tail
      exact ⟨(by subst hv153 hv157 hv161 hv165 hv169; exact ow_fin hR), N148, R179⟩
  · have R180 : Rep Z n0 T4.heap ((bx4, Ar .byte [(.int b0), (.int b1), (.int b2), (.int b3), (.int b4), (.int b5), (.int b6)]) :: []) := by rw [← hE]; exact R4
    have pre181 : ∀ t, Steps p.tables e below (T4.setTop (mkF m 21 #[.val (.long px), .second, .val (.int sx), .val (.long v1), .second, .val (.ref bx4), .val (.int (7 : Int32)), .unset, .unset] [(.long v1), (.int (7 : Int32))])) t → Steps p.tables e below (s₁.setTop (entryFrame m #[(.long px), (.int sx)] maxLocals)) t := fun t k => pre5 t (by
      show Steps p.tables e below (T4.setTop (mkF m 11 #[.val (.long px), .second, .val (.int sx), .val (.long v1), .second, .unset, .unset, .unset, .unset] [(.ref bx4)])) _
      refine XS.astore X4.here hx rfl (hb hby at_11) rfl rfl (l' := #[.val (.long px), .second, .val (.int sx), .val (.long v1), .second, .val (.ref bx4), .unset, .unset, .unset]) rfl ?_
      refine XS.aload X4.here hx rfl (hb hby at_13) rfl rfl ?_
      refine gLen X4 hx hZ rfl R180 0 rfl (g := (mkF m 15 #[.val (.long px), .second, .val (.int sx), .val (.long v1), .second, .val (.ref bx4), .unset, .unset, .unset] [(.ref bx4)])) rfl rfl (hb hby at_15) (z := (7 : Int32)) (rfl) _ ?_
      refine XS.istore X4.here hx rfl (hb hby at_16) rfl (l' := #[.val (.long px), .second, .val (.int sx), .val (.long v1), .second, .val (.ref bx4), .val (.int (7 : Int32)), .unset, .unset]) rfl ?_
      refine XS.iload X4.here hx rfl (hb hby at_18) rfl ?_
      refine XS.lloadN X4.here hx rfl (hb hby at_20) rfl ?_
      exact k)
    obtain ⟨_, _, ⟨T182, L182, k182, n182⟩, -, X182, ⟨Lc182, hQ182, l182, y182, z182⟩, st182⟩ := Jvm.LawKit.callS X4 hx (y := (⟨"com/example/sidetrack/sidetrack/codec/BerIntegerEncodePinLaw", "expectedLength", "(J)I"⟩ : MethodName)) hown (mvT hZ (hw _ (List.mem_of_getElem? (i := 5) rfl))) (mvT hZ (hw _ (List.mem_of_getElem? (i := 6) rfl))) (mvT hZ (hw _ (List.mem_of_getElem? (i := 7) rfl))) (mvT hZ (hw _ (List.mem_of_getElem? (i := 8) rfl))) (by decide) (backOf (W := 1) (rm2 l Z a0 hw [] v1  T4.heap n0 _ R180 ) hZ (hw _ (List.mem_of_getElem? (i := 8) rfl)) (hw _ (List.mem_of_getElem? (i := 7) rfl)) (by decide) (by decide)) (g := (mkF m 21 #[.val (.long px), .second, .val (.int sx), .val (.long v1), .second, .val (.ref bx4), .val (.int (7 : Int32)), .unset, .unset] [(.long v1), (.int (7 : Int32))])) rfl (by rw [hml]; rfl) (argsL := [(.long v1)]) (rest := [(.int (7 : Int32))]) (lenOf pd__28J_29I rfl) rfl (by show 2 * 0 + _ ≤ _; exact Nat.le_of_eq rfl) (hb hby at_21) (fun _ _ => ⟨rfl, rfl, (by decide : 1 + 0 ≤ _), (by decide : 8 + 0 ≤ _)⟩)
    dsimp only [Pt.U, Pt.locs, Pt.cells, Pt.slots] at X182 l182 y182 z182 st182 hQ182
    subst l182 y182 z182
    obtain ⟨rfl, N182q, R182⟩ := hQ182
    have N182 := Fr.app N4 N182q
    replace R182 : Rep Z n0 T182.heap ((bx4, Ar .byte [(.int b0), (.int b1), (.int b2), (.int b3), (.int b4), (.int b5), (.int b6)]) :: []) := R182
    have pre183 : ∀ t, Steps p.tables e below (T182.setTop (mkF m 24 #[.val (.long px), .second, .val (.int sx), .val (.long v1), .second, .val (.ref bx4), .val (.int (7 : Int32)), .unset, .unset] [(.int (F2 v1)), (.int (7 : Int32))])) t → Steps p.tables e below (s₁.setTop (entryFrame m #[(.long px), (.int sx)] maxLocals)) t := fun t k => pre181 t (st182 t k)
    have hb184 : (7 : Int32) = (F2 v1) := hF.symm
    have pre186 : ∀ t, Steps p.tables e below (T182.setTop (mkF m 39 #[.val (.long px), .second, .val (.int sx), .val (.long v1), .second, .val (.ref bx4), .val (.int (7 : Int32)), .val (.long (b0.toInt64)), .second] [(.int (1 : Int32)), (.int (7 : Int32))])) t → Steps p.tables e below (s₁.setTop (entryFrame m #[(.long px), (.int sx)] maxLocals)) t := fun t k => pre183 t (by
      show Steps p.tables e below (T182.setTop (mkF m 24 #[.val (.long px), .second, .val (.int sx), .val (.long v1), .second, .val (.ref bx4), .val (.int (7 : Int32)), .unset, .unset] [(.int (F2 v1)), (.int (7 : Int32))])) _
      refine XS.icmpYes X182.here hx rfl (pc0 := 24) (pc' := 29) rfl (hb hby at_24) rfl (teq hb184).1 (by decide) (by decide) ?_
      refine XS.aload X182.here hx rfl (hb hby at_29) rfl rfl ?_
      refine XS.iconst X182.here hx rfl (hb hby at_31) ?_
      refine gBald X182 hx hZ rfl R182 0 rfl (j := (0 : Int32)) (v := (.int b0)) (by decide) rfl (g := (mkF m 32 #[.val (.long px), .second, .val (.int sx), .val (.long v1), .second, .val (.ref bx4), .val (.int (7 : Int32)), .unset, .unset] [(.int (0 : Int32)), (.ref bx4)])) rfl rfl (hb hby at_32) _ ?_
      refine XS.i2l X182.here hx rfl (hb hby at_33) rfl ?_
      refine XS.lstore X182.here hx rfl (hb hby at_34) rfl (l' := #[.val (.long px), .second, .val (.int sx), .val (.long v1), .second, .val (.ref bx4), .val (.int (7 : Int32)), .val (.long (b0.toInt64)), .second]) rfl ?_
      refine XS.iload X182.here hx rfl (hb hby at_36) rfl ?_
      show Steps p.tables e below (T182.setTop (mkF m 38 #[.val (.long px), .second, .val (.int sx), .val (.long v1), .second, .val (.ref bx4), .val (.int (7 : Int32)), .val (.long (b0.toInt64)), .second] [(.int (7 : Int32))])) _
      refine XS.iconst X182.here hx rfl (hb hby at_38) ?_
      exact k)
    have hb185 : (1 : Int32) < (7 : Int32) := (by decide)
    have pre188 : ∀ t, Steps p.tables e below (T182.setTop (mkF m 59 #[.val (.long px), .second, .val (.int sx), .val (.long v1), .second, .val (.ref bx4), .val (.int (7 : Int32)), .val (.long ((lshl (b0.toInt64) (8 : Int32)) ||| ((b1 &&& (255 : Int32)).toInt64))), .second] [])) t → Steps p.tables e below (s₁.setTop (entryFrame m #[(.long px), (.int sx)] maxLocals)) t := fun t k => pre186 t (by
      show Steps p.tables e below (T182.setTop (mkF m 39 #[.val (.long px), .second, .val (.int sx), .val (.long v1), .second, .val (.ref bx4), .val (.int (7 : Int32)), .val (.long (b0.toInt64)), .second] [(.int (1 : Int32)), (.int (7 : Int32))])) _
      refine XS.icmpNo X182.here hx rfl (hb hby at_39) rfl (tlt hb185).2.2.2 ?_
      refine XS.lload X182.here hx rfl (hb hby at_42) rfl ?_
      refine XS.bipush X182.here hx rfl (hb hby at_44) ?_
      refine XS.lshl X182.here hx rfl (hb hby at_46) rfl ?_
      refine XS.aload X182.here hx rfl (hb hby at_47) rfl rfl ?_
      refine XS.iconst X182.here hx rfl (hb hby at_49) ?_
      refine gBald X182 hx hZ rfl R182 0 rfl (j := (1 : Int32)) (v := (.int b1)) (by decide) rfl (g := (mkF m 50 #[.val (.long px), .second, .val (.int sx), .val (.long v1), .second, .val (.ref bx4), .val (.int (7 : Int32)), .val (.long (b0.toInt64)), .second] [(.int (1 : Int32)), (.ref bx4), (.long (lshl (b0.toInt64) (8 : Int32)))])) rfl rfl (hb hby at_50) _ ?_
      show Steps p.tables e below (T182.setTop (mkF m 51 #[.val (.long px), .second, .val (.int sx), .val (.long v1), .second, .val (.ref bx4), .val (.int (7 : Int32)), .val (.long (b0.toInt64)), .second] [(.int b1), (.long (lshl (b0.toInt64) (8 : Int32)))])) _
      refine XS.sipush X182.here hx rfl (hb hby at_51) ?_
      refine XS.iand X182.here hx rfl (hb hby at_54) rfl ?_
      refine XS.i2l X182.here hx rfl (hb hby at_55) rfl ?_
      refine XS.lor X182.here hx rfl (hb hby at_56) rfl ?_
      refine XS.lstore X182.here hx rfl (hb hby at_57) rfl (l' := #[.val (.long px), .second, .val (.int sx), .val (.long v1), .second, .val (.ref bx4), .val (.int (7 : Int32)), .val (.long ((lshl (b0.toInt64) (8 : Int32)) ||| ((b1 &&& (255 : Int32)).toInt64))), .second]) rfl ?_
      exact k)
    obtain ⟨v187, hv187⟩ : ∃ z : Int64, z = ((lshl (b0.toInt64) (8 : Int32)) ||| ((b1 &&& (255 : Int32)).toInt64)) := ⟨_, rfl⟩
    rw [← hv187] at pre188
    have pre190 : ∀ t, Steps p.tables e below (T182.setTop (mkF m 62 #[.val (.long px), .second, .val (.int sx), .val (.long v1), .second, .val (.ref bx4), .val (.int (7 : Int32)), .val (.long v187), .second] [(.int (2 : Int32)), (.int (7 : Int32))])) t → Steps p.tables e below (s₁.setTop (entryFrame m #[(.long px), (.int sx)] maxLocals)) t := fun t k => pre188 t (by
      show Steps p.tables e below (T182.setTop (mkF m 59 #[.val (.long px), .second, .val (.int sx), .val (.long v1), .second, .val (.ref bx4), .val (.int (7 : Int32)), .val (.long v187), .second] [])) _
      refine XS.iload X182.here hx rfl (hb hby at_59) rfl ?_
      refine XS.iconst X182.here hx rfl (hb hby at_61) ?_
      exact k)
    have hb189 : (2 : Int32) < (7 : Int32) := (by decide)
    have pre192 : ∀ t, Steps p.tables e below (T182.setTop (mkF m 82 #[.val (.long px), .second, .val (.int sx), .val (.long v1), .second, .val (.ref bx4), .val (.int (7 : Int32)), .val (.long ((lshl v187 (8 : Int32)) ||| ((b2 &&& (255 : Int32)).toInt64))), .second] [])) t → Steps p.tables e below (s₁.setTop (entryFrame m #[(.long px), (.int sx)] maxLocals)) t := fun t k => pre190 t (by
      show Steps p.tables e below (T182.setTop (mkF m 62 #[.val (.long px), .second, .val (.int sx), .val (.long v1), .second, .val (.ref bx4), .val (.int (7 : Int32)), .val (.long v187), .second] [(.int (2 : Int32)), (.int (7 : Int32))])) _
      refine XS.icmpNo X182.here hx rfl (hb hby at_62) rfl (tlt hb189).2.2.2 ?_
      refine XS.lload X182.here hx rfl (hb hby at_65) rfl ?_
      refine XS.bipush X182.here hx rfl (hb hby at_67) ?_
      refine XS.lshl X182.here hx rfl (hb hby at_69) rfl ?_
      refine XS.aload X182.here hx rfl (hb hby at_70) rfl rfl ?_
      refine XS.iconst X182.here hx rfl (hb hby at_72) ?_
      refine gBald X182 hx hZ rfl R182 0 rfl (j := (2 : Int32)) (v := (.int b2)) (by decide) rfl (g := (mkF m 73 #[.val (.long px), .second, .val (.int sx), .val (.long v1), .second, .val (.ref bx4), .val (.int (7 : Int32)), .val (.long v187), .second] [(.int (2 : Int32)), (.ref bx4), (.long (lshl v187 (8 : Int32)))])) rfl rfl (hb hby at_73) _ ?_
      show Steps p.tables e below (T182.setTop (mkF m 74 #[.val (.long px), .second, .val (.int sx), .val (.long v1), .second, .val (.ref bx4), .val (.int (7 : Int32)), .val (.long v187), .second] [(.int b2), (.long (lshl v187 (8 : Int32)))])) _
      refine XS.sipush X182.here hx rfl (hb hby at_74) ?_
      refine XS.iand X182.here hx rfl (hb hby at_77) rfl ?_
      refine XS.i2l X182.here hx rfl (hb hby at_78) rfl ?_
      refine XS.lor X182.here hx rfl (hb hby at_79) rfl ?_
      refine XS.lstore X182.here hx rfl (hb hby at_80) rfl (l' := #[.val (.long px), .second, .val (.int sx), .val (.long v1), .second, .val (.ref bx4), .val (.int (7 : Int32)), .val (.long ((lshl v187 (8 : Int32)) ||| ((b2 &&& (255 : Int32)).toInt64))), .second]) rfl ?_
      exact k)
    obtain ⟨v191, hv191⟩ : ∃ z : Int64, z = ((lshl v187 (8 : Int32)) ||| ((b2 &&& (255 : Int32)).toInt64)) := ⟨_, rfl⟩
    rw [← hv191] at pre192
    have pre194 : ∀ t, Steps p.tables e below (T182.setTop (mkF m 85 #[.val (.long px), .second, .val (.int sx), .val (.long v1), .second, .val (.ref bx4), .val (.int (7 : Int32)), .val (.long v191), .second] [(.int (3 : Int32)), (.int (7 : Int32))])) t → Steps p.tables e below (s₁.setTop (entryFrame m #[(.long px), (.int sx)] maxLocals)) t := fun t k => pre192 t (by
      show Steps p.tables e below (T182.setTop (mkF m 82 #[.val (.long px), .second, .val (.int sx), .val (.long v1), .second, .val (.ref bx4), .val (.int (7 : Int32)), .val (.long v191), .second] [])) _
      refine XS.iload X182.here hx rfl (hb hby at_82) rfl ?_
      refine XS.iconst X182.here hx rfl (hb hby at_84) ?_
      exact k)
    have hb193 : (3 : Int32) < (7 : Int32) := (by decide)
    have pre196 : ∀ t, Steps p.tables e below (T182.setTop (mkF m 105 #[.val (.long px), .second, .val (.int sx), .val (.long v1), .second, .val (.ref bx4), .val (.int (7 : Int32)), .val (.long ((lshl v191 (8 : Int32)) ||| ((b3 &&& (255 : Int32)).toInt64))), .second] [])) t → Steps p.tables e below (s₁.setTop (entryFrame m #[(.long px), (.int sx)] maxLocals)) t := fun t k => pre194 t (by
      show Steps p.tables e below (T182.setTop (mkF m 85 #[.val (.long px), .second, .val (.int sx), .val (.long v1), .second, .val (.ref bx4), .val (.int (7 : Int32)), .val (.long v191), .second] [(.int (3 : Int32)), (.int (7 : Int32))])) _
      refine XS.icmpNo X182.here hx rfl (hb hby at_85) rfl (tlt hb193).2.2.2 ?_
      refine XS.lload X182.here hx rfl (hb hby at_88) rfl ?_
      refine XS.bipush X182.here hx rfl (hb hby at_90) ?_
      refine XS.lshl X182.here hx rfl (hb hby at_92) rfl ?_
      refine XS.aload X182.here hx rfl (hb hby at_93) rfl rfl ?_
      refine XS.iconst X182.here hx rfl (hb hby at_95) ?_
      refine gBald X182 hx hZ rfl R182 0 rfl (j := (3 : Int32)) (v := (.int b3)) (by decide) rfl (g := (mkF m 96 #[.val (.long px), .second, .val (.int sx), .val (.long v1), .second, .val (.ref bx4), .val (.int (7 : Int32)), .val (.long v191), .second] [(.int (3 : Int32)), (.ref bx4), (.long (lshl v191 (8 : Int32)))])) rfl rfl (hb hby at_96) _ ?_
      show Steps p.tables e below (T182.setTop (mkF m 97 #[.val (.long px), .second, .val (.int sx), .val (.long v1), .second, .val (.ref bx4), .val (.int (7 : Int32)), .val (.long v191), .second] [(.int b3), (.long (lshl v191 (8 : Int32)))])) _
      refine XS.sipush X182.here hx rfl (hb hby at_97) ?_
      refine XS.iand X182.here hx rfl (hb hby at_100) rfl ?_
      refine XS.i2l X182.here hx rfl (hb hby at_101) rfl ?_
      refine XS.lor X182.here hx rfl (hb hby at_102) rfl ?_
      refine XS.lstore X182.here hx rfl (hb hby at_103) rfl (l' := #[.val (.long px), .second, .val (.int sx), .val (.long v1), .second, .val (.ref bx4), .val (.int (7 : Int32)), .val (.long ((lshl v191 (8 : Int32)) ||| ((b3 &&& (255 : Int32)).toInt64))), .second]) rfl ?_
      exact k)
    obtain ⟨v195, hv195⟩ : ∃ z : Int64, z = ((lshl v191 (8 : Int32)) ||| ((b3 &&& (255 : Int32)).toInt64)) := ⟨_, rfl⟩
    rw [← hv195] at pre196
    have pre198 : ∀ t, Steps p.tables e below (T182.setTop (mkF m 108 #[.val (.long px), .second, .val (.int sx), .val (.long v1), .second, .val (.ref bx4), .val (.int (7 : Int32)), .val (.long v195), .second] [(.int (4 : Int32)), (.int (7 : Int32))])) t → Steps p.tables e below (s₁.setTop (entryFrame m #[(.long px), (.int sx)] maxLocals)) t := fun t k => pre196 t (by
      show Steps p.tables e below (T182.setTop (mkF m 105 #[.val (.long px), .second, .val (.int sx), .val (.long v1), .second, .val (.ref bx4), .val (.int (7 : Int32)), .val (.long v195), .second] [])) _
      refine XS.iload X182.here hx rfl (hb hby at_105) rfl ?_
      refine XS.iconst X182.here hx rfl (hb hby at_107) ?_
      exact k)
    have hb197 : (4 : Int32) < (7 : Int32) := (by decide)
    have pre200 : ∀ t, Steps p.tables e below (T182.setTop (mkF m 128 #[.val (.long px), .second, .val (.int sx), .val (.long v1), .second, .val (.ref bx4), .val (.int (7 : Int32)), .val (.long ((lshl v195 (8 : Int32)) ||| ((b4 &&& (255 : Int32)).toInt64))), .second] [])) t → Steps p.tables e below (s₁.setTop (entryFrame m #[(.long px), (.int sx)] maxLocals)) t := fun t k => pre198 t (by
      show Steps p.tables e below (T182.setTop (mkF m 108 #[.val (.long px), .second, .val (.int sx), .val (.long v1), .second, .val (.ref bx4), .val (.int (7 : Int32)), .val (.long v195), .second] [(.int (4 : Int32)), (.int (7 : Int32))])) _
      refine XS.icmpNo X182.here hx rfl (hb hby at_108) rfl (tlt hb197).2.2.2 ?_
      refine XS.lload X182.here hx rfl (hb hby at_111) rfl ?_
      refine XS.bipush X182.here hx rfl (hb hby at_113) ?_
      refine XS.lshl X182.here hx rfl (hb hby at_115) rfl ?_
      refine XS.aload X182.here hx rfl (hb hby at_116) rfl rfl ?_
      refine XS.iconst X182.here hx rfl (hb hby at_118) ?_
      refine gBald X182 hx hZ rfl R182 0 rfl (j := (4 : Int32)) (v := (.int b4)) (by decide) rfl (g := (mkF m 119 #[.val (.long px), .second, .val (.int sx), .val (.long v1), .second, .val (.ref bx4), .val (.int (7 : Int32)), .val (.long v195), .second] [(.int (4 : Int32)), (.ref bx4), (.long (lshl v195 (8 : Int32)))])) rfl rfl (hb hby at_119) _ ?_
      show Steps p.tables e below (T182.setTop (mkF m 120 #[.val (.long px), .second, .val (.int sx), .val (.long v1), .second, .val (.ref bx4), .val (.int (7 : Int32)), .val (.long v195), .second] [(.int b4), (.long (lshl v195 (8 : Int32)))])) _
      refine XS.sipush X182.here hx rfl (hb hby at_120) ?_
      refine XS.iand X182.here hx rfl (hb hby at_123) rfl ?_
      refine XS.i2l X182.here hx rfl (hb hby at_124) rfl ?_
      refine XS.lor X182.here hx rfl (hb hby at_125) rfl ?_
      refine XS.lstore X182.here hx rfl (hb hby at_126) rfl (l' := #[.val (.long px), .second, .val (.int sx), .val (.long v1), .second, .val (.ref bx4), .val (.int (7 : Int32)), .val (.long ((lshl v195 (8 : Int32)) ||| ((b4 &&& (255 : Int32)).toInt64))), .second]) rfl ?_
      exact k)
    obtain ⟨v199, hv199⟩ : ∃ z : Int64, z = ((lshl v195 (8 : Int32)) ||| ((b4 &&& (255 : Int32)).toInt64)) := ⟨_, rfl⟩
    rw [← hv199] at pre200
    have pre202 : ∀ t, Steps p.tables e below (T182.setTop (mkF m 131 #[.val (.long px), .second, .val (.int sx), .val (.long v1), .second, .val (.ref bx4), .val (.int (7 : Int32)), .val (.long v199), .second] [(.int (5 : Int32)), (.int (7 : Int32))])) t → Steps p.tables e below (s₁.setTop (entryFrame m #[(.long px), (.int sx)] maxLocals)) t := fun t k => pre200 t (by
      show Steps p.tables e below (T182.setTop (mkF m 128 #[.val (.long px), .second, .val (.int sx), .val (.long v1), .second, .val (.ref bx4), .val (.int (7 : Int32)), .val (.long v199), .second] [])) _
      refine XS.iload X182.here hx rfl (hb hby at_128) rfl ?_
      refine XS.iconst X182.here hx rfl (hb hby at_130) ?_
      exact k)
    have hb201 : (5 : Int32) < (7 : Int32) := (by decide)
    have pre204 : ∀ t, Steps p.tables e below (T182.setTop (mkF m 151 #[.val (.long px), .second, .val (.int sx), .val (.long v1), .second, .val (.ref bx4), .val (.int (7 : Int32)), .val (.long ((lshl v199 (8 : Int32)) ||| ((b5 &&& (255 : Int32)).toInt64))), .second] [])) t → Steps p.tables e below (s₁.setTop (entryFrame m #[(.long px), (.int sx)] maxLocals)) t := fun t k => pre202 t (by
      show Steps p.tables e below (T182.setTop (mkF m 131 #[.val (.long px), .second, .val (.int sx), .val (.long v1), .second, .val (.ref bx4), .val (.int (7 : Int32)), .val (.long v199), .second] [(.int (5 : Int32)), (.int (7 : Int32))])) _
      refine XS.icmpNo X182.here hx rfl (hb hby at_131) rfl (tlt hb201).2.2.2 ?_
      refine XS.lload X182.here hx rfl (hb hby at_134) rfl ?_
      refine XS.bipush X182.here hx rfl (hb hby at_136) ?_
      refine XS.lshl X182.here hx rfl (hb hby at_138) rfl ?_
      refine XS.aload X182.here hx rfl (hb hby at_139) rfl rfl ?_
      refine XS.iconst X182.here hx rfl (hb hby at_141) ?_
      refine gBald X182 hx hZ rfl R182 0 rfl (j := (5 : Int32)) (v := (.int b5)) (by decide) rfl (g := (mkF m 142 #[.val (.long px), .second, .val (.int sx), .val (.long v1), .second, .val (.ref bx4), .val (.int (7 : Int32)), .val (.long v199), .second] [(.int (5 : Int32)), (.ref bx4), (.long (lshl v199 (8 : Int32)))])) rfl rfl (hb hby at_142) _ ?_
      show Steps p.tables e below (T182.setTop (mkF m 143 #[.val (.long px), .second, .val (.int sx), .val (.long v1), .second, .val (.ref bx4), .val (.int (7 : Int32)), .val (.long v199), .second] [(.int b5), (.long (lshl v199 (8 : Int32)))])) _
      refine XS.sipush X182.here hx rfl (hb hby at_143) ?_
      refine XS.iand X182.here hx rfl (hb hby at_146) rfl ?_
      refine XS.i2l X182.here hx rfl (hb hby at_147) rfl ?_
      refine XS.lor X182.here hx rfl (hb hby at_148) rfl ?_
      refine XS.lstore X182.here hx rfl (hb hby at_149) rfl (l' := #[.val (.long px), .second, .val (.int sx), .val (.long v1), .second, .val (.ref bx4), .val (.int (7 : Int32)), .val (.long ((lshl v199 (8 : Int32)) ||| ((b5 &&& (255 : Int32)).toInt64))), .second]) rfl ?_
      exact k)
    obtain ⟨v203, hv203⟩ : ∃ z : Int64, z = ((lshl v199 (8 : Int32)) ||| ((b5 &&& (255 : Int32)).toInt64)) := ⟨_, rfl⟩
    rw [← hv203] at pre204
    have pre206 : ∀ t, Steps p.tables e below (T182.setTop (mkF m 155 #[.val (.long px), .second, .val (.int sx), .val (.long v1), .second, .val (.ref bx4), .val (.int (7 : Int32)), .val (.long v203), .second] [(.int (6 : Int32)), (.int (7 : Int32))])) t → Steps p.tables e below (s₁.setTop (entryFrame m #[(.long px), (.int sx)] maxLocals)) t := fun t k => pre204 t (by
      show Steps p.tables e below (T182.setTop (mkF m 151 #[.val (.long px), .second, .val (.int sx), .val (.long v1), .second, .val (.ref bx4), .val (.int (7 : Int32)), .val (.long v203), .second] [])) _
      refine XS.iload X182.here hx rfl (hb hby at_151) rfl ?_
      refine XS.bipush X182.here hx rfl (hb hby at_153) ?_
      exact k)
    have hb205 : (6 : Int32) < (7 : Int32) := (by decide)
    have pre208 : ∀ t, Steps p.tables e below (T182.setTop (mkF m 176 #[.val (.long px), .second, .val (.int sx), .val (.long v1), .second, .val (.ref bx4), .val (.int (7 : Int32)), .val (.long ((lshl v203 (8 : Int32)) ||| ((b6 &&& (255 : Int32)).toInt64))), .second] [])) t → Steps p.tables e below (s₁.setTop (entryFrame m #[(.long px), (.int sx)] maxLocals)) t := fun t k => pre206 t (by
      show Steps p.tables e below (T182.setTop (mkF m 155 #[.val (.long px), .second, .val (.int sx), .val (.long v1), .second, .val (.ref bx4), .val (.int (7 : Int32)), .val (.long v203), .second] [(.int (6 : Int32)), (.int (7 : Int32))])) _
      refine XS.icmpNo X182.here hx rfl (hb hby at_155) rfl (tlt hb205).2.2.2 ?_
      refine XS.lload X182.here hx rfl (hb hby at_158) rfl ?_
      refine XS.bipush X182.here hx rfl (hb hby at_160) ?_
      refine XS.lshl X182.here hx rfl (hb hby at_162) rfl ?_
      refine XS.aload X182.here hx rfl (hb hby at_163) rfl rfl ?_
      refine XS.bipush X182.here hx rfl (hb hby at_165) ?_
      refine gBald X182 hx hZ rfl R182 0 rfl (j := (6 : Int32)) (v := (.int b6)) (by decide) rfl (g := (mkF m 167 #[.val (.long px), .second, .val (.int sx), .val (.long v1), .second, .val (.ref bx4), .val (.int (7 : Int32)), .val (.long v203), .second] [(.int (6 : Int32)), (.ref bx4), (.long (lshl v203 (8 : Int32)))])) rfl rfl (hb hby at_167) _ ?_
      show Steps p.tables e below (T182.setTop (mkF m 168 #[.val (.long px), .second, .val (.int sx), .val (.long v1), .second, .val (.ref bx4), .val (.int (7 : Int32)), .val (.long v203), .second] [(.int b6), (.long (lshl v203 (8 : Int32)))])) _
      refine XS.sipush X182.here hx rfl (hb hby at_168) ?_
      refine XS.iand X182.here hx rfl (hb hby at_171) rfl ?_
      refine XS.i2l X182.here hx rfl (hb hby at_172) rfl ?_
      refine XS.lor X182.here hx rfl (hb hby at_173) rfl ?_
      refine XS.lstore X182.here hx rfl (hb hby at_174) rfl (l' := #[.val (.long px), .second, .val (.int sx), .val (.long v1), .second, .val (.ref bx4), .val (.int (7 : Int32)), .val (.long ((lshl v203 (8 : Int32)) ||| ((b6 &&& (255 : Int32)).toInt64))), .second]) rfl ?_
      exact k)
    obtain ⟨v207, hv207⟩ : ∃ z : Int64, z = ((lshl v203 (8 : Int32)) ||| ((b6 &&& (255 : Int32)).toInt64)) := ⟨_, rfl⟩
    rw [← hv207] at pre208
    have pre210 : ∀ t, Steps p.tables e below (T182.setTop (mkF m 180 #[.val (.long px), .second, .val (.int sx), .val (.long v1), .second, .val (.ref bx4), .val (.int (7 : Int32)), .val (.long v207), .second] [(.int (7 : Int32)), (.int (7 : Int32))])) t → Steps p.tables e below (s₁.setTop (entryFrame m #[(.long px), (.int sx)] maxLocals)) t := fun t k => pre208 t (by
      show Steps p.tables e below (T182.setTop (mkF m 176 #[.val (.long px), .second, .val (.int sx), .val (.long v1), .second, .val (.ref bx4), .val (.int (7 : Int32)), .val (.long v207), .second] [])) _
      refine XS.iload X182.here hx rfl (hb hby at_176) rfl ?_
      refine XS.bipush X182.here hx rfl (hb hby at_178) ?_
      exact k)
    have hb209 : ¬ ((7 : Int32) < (7 : Int32)) := (by decide)
    have pre213 : ∀ t, Steps p.tables e below (T182.setTop (mkF m 205 #[.val (.long px), .second, .val (.int sx), .val (.long v1), .second, .val (.ref bx4), .val (.int (7 : Int32)), .val (.long v207), .second] [(.int (XT.cmpL v207 v1))])) t → Steps p.tables e below (s₁.setTop (entryFrame m #[(.long px), (.int sx)] maxLocals)) t := fun t k => pre210 t (by
      show Steps p.tables e below (T182.setTop (mkF m 180 #[.val (.long px), .second, .val (.int sx), .val (.long v1), .second, .val (.ref bx4), .val (.int (7 : Int32)), .val (.long v207), .second] [(.int (7 : Int32)), (.int (7 : Int32))])) _
      refine XS.icmpYes X182.here hx rfl (pc0 := 180) (pc' := 201) rfl (hb hby at_180) rfl (flt hb209).2.2.2 (by decide) (by decide) ?_
      refine XS.lload X182.here hx rfl (hb hby at_201) rfl ?_
      refine XS.lloadN X182.here hx rfl (hb hby at_203) rfl ?_
      refine XS.lcmp X182.here hx rfl (hb hby at_204) rfl ?_
      exact k)
    have tl212 : ∀ t, Steps p.tables e below (T182.setTop (mkF m 213 #[.val (.long px), .second, .val (.int sx), .val (.long v1), .second, .val (.ref bx4), .val (.int (7 : Int32)), .val (.long v207), .second] [(.int (bz (v207 = v1)))])) t → Steps p.tables e below (T182.setTop (mkF m 205 #[.val (.long px), .second, .val (.int sx), .val (.long v1), .second, .val (.ref bx4), .val (.int (7 : Int32)), .val (.long v207), .second] [(.int (XT.cmpL v207 v1))])) t := fun t k => by
      by_cases hb211 : v207 = v1
      · refine XS.ifNo X182.here hx rfl (hb hby at_205) rfl (XT.ll_ne_f hb211) ?_
        rw [bz_one (P := (v207 = v1)) (iff_true_intro hb211)] at k
        show Steps p.tables e below (T182.setTop (mkF m 208 #[.val (.long px), .second, .val (.int sx), .val (.long v1), .second, .val (.ref bx4), .val (.int (7 : Int32)), .val (.long v207), .second] [])) _
        refine XS.iconst X182.here hx rfl (hb hby at_208) ?_
        refine XS.goto X182.here hx rfl (pc0 := 209) (pc' := 213) rfl (hb hby at_209) (by decide) (by decide) ?_
        exact k
      · refine XS.ifYes X182.here hx rfl (pc0 := 205) (pc' := 212) rfl (hb hby at_205) rfl (XT.ll_ne_t hb211) (by decide) (by decide) ?_
        rw [bz_zero (P := (v207 = v1)) (iff_false_intro hb211)] at k
        show Steps p.tables e below (T182.setTop (mkF m 212 #[.val (.long px), .second, .val (.int sx), .val (.long v1), .second, .val (.ref bx4), .val (.int (7 : Int32)), .val (.long v207), .second] [])) _
        refine XS.iconst X182.here hx rfl (hb hby at_212) ?_
        exact k
    have pre214 : ∀ t, Steps p.tables e below (T182.setTop (mkF m 213 #[.val (.long px), .second, .val (.int sx), .val (.long v1), .second, .val (.ref bx4), .val (.int (7 : Int32)), .val (.long v207), .second] [(.int (bz (v207 = v1)))])) t → Steps p.tables e below (s₁.setTop (entryFrame m #[(.long px), (.int sx)] maxLocals)) t := fun t k => pre213 t (by
      exact tl212 t k)
    obtain ⟨fs, hr, hrun, hended, hW, hsame⟩ := X182.leave (v := some (.int (nar .boolean (bz (v207 = v1))))) (fun h => by rw [Bd.returns] at h; cases h)
    refine ⟨_, _, pre214 _ ?_, hrun, hended, _, _, rfl, ?_, ⟨_, rfl⟩, hW, hsame.mono (by decide) (by decide)⟩
    · show Steps p.tables e below (T182.setTop (mkF m 213 #[.val (.long px), .second, .val (.int sx), .val (.long v1), .second, .val (.ref bx4), .val (.int (7 : Int32)), .val (.long v207), .second] [(.int (bz (v207 = v1)))])) _
      exact retN X182 hx (t := .boolean) Bd.returns (by simp) (hb hby at_213) hr
    · show Q0 Z px sx n0 [] _ T182.heap _
      have R215 : Rep Z n0 T182.heap ([]) := (R182.front 0 rfl rfl : Rep Z n0 T182.heap ((bx4, Ar .byte [(.int b0), (.int b1), (.int b2), (.int b3), (.int b4), (.int b5), (.int b6)]) :: [])).tail
      exact ⟨(by subst hv187 hv191 hv195 hv199 hv203 hv207; exact ow_fin hR), N182, R215⟩
  · have R216 : Rep Z n0 T4.heap ((bx4, Ar .byte [(.int b0), (.int b1), (.int b2), (.int b3), (.int b4), (.int b5), (.int b6), (.int b7)]) :: []) := by rw [← hE]; exact R4
    have pre217 : ∀ t, Steps p.tables e below (T4.setTop (mkF m 21 #[.val (.long px), .second, .val (.int sx), .val (.long v1), .second, .val (.ref bx4), .val (.int (8 : Int32)), .unset, .unset] [(.long v1), (.int (8 : Int32))])) t → Steps p.tables e below (s₁.setTop (entryFrame m #[(.long px), (.int sx)] maxLocals)) t := fun t k => pre5 t (by
      show Steps p.tables e below (T4.setTop (mkF m 11 #[.val (.long px), .second, .val (.int sx), .val (.long v1), .second, .unset, .unset, .unset, .unset] [(.ref bx4)])) _
      refine XS.astore X4.here hx rfl (hb hby at_11) rfl rfl (l' := #[.val (.long px), .second, .val (.int sx), .val (.long v1), .second, .val (.ref bx4), .unset, .unset, .unset]) rfl ?_
      refine XS.aload X4.here hx rfl (hb hby at_13) rfl rfl ?_
      refine gLen X4 hx hZ rfl R216 0 rfl (g := (mkF m 15 #[.val (.long px), .second, .val (.int sx), .val (.long v1), .second, .val (.ref bx4), .unset, .unset, .unset] [(.ref bx4)])) rfl rfl (hb hby at_15) (z := (8 : Int32)) (rfl) _ ?_
      refine XS.istore X4.here hx rfl (hb hby at_16) rfl (l' := #[.val (.long px), .second, .val (.int sx), .val (.long v1), .second, .val (.ref bx4), .val (.int (8 : Int32)), .unset, .unset]) rfl ?_
      refine XS.iload X4.here hx rfl (hb hby at_18) rfl ?_
      refine XS.lloadN X4.here hx rfl (hb hby at_20) rfl ?_
      exact k)
    obtain ⟨_, _, ⟨T218, L218, k218, n218⟩, -, X218, ⟨Lc218, hQ218, l218, y218, z218⟩, st218⟩ := Jvm.LawKit.callS X4 hx (y := (⟨"com/example/sidetrack/sidetrack/codec/BerIntegerEncodePinLaw", "expectedLength", "(J)I"⟩ : MethodName)) hown (mvT hZ (hw _ (List.mem_of_getElem? (i := 5) rfl))) (mvT hZ (hw _ (List.mem_of_getElem? (i := 6) rfl))) (mvT hZ (hw _ (List.mem_of_getElem? (i := 7) rfl))) (mvT hZ (hw _ (List.mem_of_getElem? (i := 8) rfl))) (by decide) (backOf (W := 1) (rm2 l Z a0 hw [] v1  T4.heap n0 _ R216 ) hZ (hw _ (List.mem_of_getElem? (i := 8) rfl)) (hw _ (List.mem_of_getElem? (i := 7) rfl)) (by decide) (by decide)) (g := (mkF m 21 #[.val (.long px), .second, .val (.int sx), .val (.long v1), .second, .val (.ref bx4), .val (.int (8 : Int32)), .unset, .unset] [(.long v1), (.int (8 : Int32))])) rfl (by rw [hml]; rfl) (argsL := [(.long v1)]) (rest := [(.int (8 : Int32))]) (lenOf pd__28J_29I rfl) rfl (by show 2 * 0 + _ ≤ _; exact Nat.le_of_eq rfl) (hb hby at_21) (fun _ _ => ⟨rfl, rfl, (by decide : 1 + 0 ≤ _), (by decide : 8 + 0 ≤ _)⟩)
    dsimp only [Pt.U, Pt.locs, Pt.cells, Pt.slots] at X218 l218 y218 z218 st218 hQ218
    subst l218 y218 z218
    obtain ⟨rfl, N218q, R218⟩ := hQ218
    have N218 := Fr.app N4 N218q
    replace R218 : Rep Z n0 T218.heap ((bx4, Ar .byte [(.int b0), (.int b1), (.int b2), (.int b3), (.int b4), (.int b5), (.int b6), (.int b7)]) :: []) := R218
    have pre219 : ∀ t, Steps p.tables e below (T218.setTop (mkF m 24 #[.val (.long px), .second, .val (.int sx), .val (.long v1), .second, .val (.ref bx4), .val (.int (8 : Int32)), .unset, .unset] [(.int (F2 v1)), (.int (8 : Int32))])) t → Steps p.tables e below (s₁.setTop (entryFrame m #[(.long px), (.int sx)] maxLocals)) t := fun t k => pre217 t (st218 t k)
    have hb220 : (8 : Int32) = (F2 v1) := hF.symm
    have pre222 : ∀ t, Steps p.tables e below (T218.setTop (mkF m 39 #[.val (.long px), .second, .val (.int sx), .val (.long v1), .second, .val (.ref bx4), .val (.int (8 : Int32)), .val (.long (b0.toInt64)), .second] [(.int (1 : Int32)), (.int (8 : Int32))])) t → Steps p.tables e below (s₁.setTop (entryFrame m #[(.long px), (.int sx)] maxLocals)) t := fun t k => pre219 t (by
      show Steps p.tables e below (T218.setTop (mkF m 24 #[.val (.long px), .second, .val (.int sx), .val (.long v1), .second, .val (.ref bx4), .val (.int (8 : Int32)), .unset, .unset] [(.int (F2 v1)), (.int (8 : Int32))])) _
      refine XS.icmpYes X218.here hx rfl (pc0 := 24) (pc' := 29) rfl (hb hby at_24) rfl (teq hb220).1 (by decide) (by decide) ?_
      refine XS.aload X218.here hx rfl (hb hby at_29) rfl rfl ?_
      refine XS.iconst X218.here hx rfl (hb hby at_31) ?_
      refine gBald X218 hx hZ rfl R218 0 rfl (j := (0 : Int32)) (v := (.int b0)) (by decide) rfl (g := (mkF m 32 #[.val (.long px), .second, .val (.int sx), .val (.long v1), .second, .val (.ref bx4), .val (.int (8 : Int32)), .unset, .unset] [(.int (0 : Int32)), (.ref bx4)])) rfl rfl (hb hby at_32) _ ?_
      refine XS.i2l X218.here hx rfl (hb hby at_33) rfl ?_
      refine XS.lstore X218.here hx rfl (hb hby at_34) rfl (l' := #[.val (.long px), .second, .val (.int sx), .val (.long v1), .second, .val (.ref bx4), .val (.int (8 : Int32)), .val (.long (b0.toInt64)), .second]) rfl ?_
      refine XS.iload X218.here hx rfl (hb hby at_36) rfl ?_
      show Steps p.tables e below (T218.setTop (mkF m 38 #[.val (.long px), .second, .val (.int sx), .val (.long v1), .second, .val (.ref bx4), .val (.int (8 : Int32)), .val (.long (b0.toInt64)), .second] [(.int (8 : Int32))])) _
      refine XS.iconst X218.here hx rfl (hb hby at_38) ?_
      exact k)
    have hb221 : (1 : Int32) < (8 : Int32) := (by decide)
    have pre224 : ∀ t, Steps p.tables e below (T218.setTop (mkF m 59 #[.val (.long px), .second, .val (.int sx), .val (.long v1), .second, .val (.ref bx4), .val (.int (8 : Int32)), .val (.long ((lshl (b0.toInt64) (8 : Int32)) ||| ((b1 &&& (255 : Int32)).toInt64))), .second] [])) t → Steps p.tables e below (s₁.setTop (entryFrame m #[(.long px), (.int sx)] maxLocals)) t := fun t k => pre222 t (by
      show Steps p.tables e below (T218.setTop (mkF m 39 #[.val (.long px), .second, .val (.int sx), .val (.long v1), .second, .val (.ref bx4), .val (.int (8 : Int32)), .val (.long (b0.toInt64)), .second] [(.int (1 : Int32)), (.int (8 : Int32))])) _
      refine XS.icmpNo X218.here hx rfl (hb hby at_39) rfl (tlt hb221).2.2.2 ?_
      refine XS.lload X218.here hx rfl (hb hby at_42) rfl ?_
      refine XS.bipush X218.here hx rfl (hb hby at_44) ?_
      refine XS.lshl X218.here hx rfl (hb hby at_46) rfl ?_
      refine XS.aload X218.here hx rfl (hb hby at_47) rfl rfl ?_
      refine XS.iconst X218.here hx rfl (hb hby at_49) ?_
      refine gBald X218 hx hZ rfl R218 0 rfl (j := (1 : Int32)) (v := (.int b1)) (by decide) rfl (g := (mkF m 50 #[.val (.long px), .second, .val (.int sx), .val (.long v1), .second, .val (.ref bx4), .val (.int (8 : Int32)), .val (.long (b0.toInt64)), .second] [(.int (1 : Int32)), (.ref bx4), (.long (lshl (b0.toInt64) (8 : Int32)))])) rfl rfl (hb hby at_50) _ ?_
      show Steps p.tables e below (T218.setTop (mkF m 51 #[.val (.long px), .second, .val (.int sx), .val (.long v1), .second, .val (.ref bx4), .val (.int (8 : Int32)), .val (.long (b0.toInt64)), .second] [(.int b1), (.long (lshl (b0.toInt64) (8 : Int32)))])) _
      refine XS.sipush X218.here hx rfl (hb hby at_51) ?_
      refine XS.iand X218.here hx rfl (hb hby at_54) rfl ?_
      refine XS.i2l X218.here hx rfl (hb hby at_55) rfl ?_
      refine XS.lor X218.here hx rfl (hb hby at_56) rfl ?_
      refine XS.lstore X218.here hx rfl (hb hby at_57) rfl (l' := #[.val (.long px), .second, .val (.int sx), .val (.long v1), .second, .val (.ref bx4), .val (.int (8 : Int32)), .val (.long ((lshl (b0.toInt64) (8 : Int32)) ||| ((b1 &&& (255 : Int32)).toInt64))), .second]) rfl ?_
      exact k)
    obtain ⟨v223, hv223⟩ : ∃ z : Int64, z = ((lshl (b0.toInt64) (8 : Int32)) ||| ((b1 &&& (255 : Int32)).toInt64)) := ⟨_, rfl⟩
    rw [← hv223] at pre224
    have pre226 : ∀ t, Steps p.tables e below (T218.setTop (mkF m 62 #[.val (.long px), .second, .val (.int sx), .val (.long v1), .second, .val (.ref bx4), .val (.int (8 : Int32)), .val (.long v223), .second] [(.int (2 : Int32)), (.int (8 : Int32))])) t → Steps p.tables e below (s₁.setTop (entryFrame m #[(.long px), (.int sx)] maxLocals)) t := fun t k => pre224 t (by
      show Steps p.tables e below (T218.setTop (mkF m 59 #[.val (.long px), .second, .val (.int sx), .val (.long v1), .second, .val (.ref bx4), .val (.int (8 : Int32)), .val (.long v223), .second] [])) _
      refine XS.iload X218.here hx rfl (hb hby at_59) rfl ?_
      refine XS.iconst X218.here hx rfl (hb hby at_61) ?_
      exact k)
    have hb225 : (2 : Int32) < (8 : Int32) := (by decide)
    have pre228 : ∀ t, Steps p.tables e below (T218.setTop (mkF m 82 #[.val (.long px), .second, .val (.int sx), .val (.long v1), .second, .val (.ref bx4), .val (.int (8 : Int32)), .val (.long ((lshl v223 (8 : Int32)) ||| ((b2 &&& (255 : Int32)).toInt64))), .second] [])) t → Steps p.tables e below (s₁.setTop (entryFrame m #[(.long px), (.int sx)] maxLocals)) t := fun t k => pre226 t (by
      show Steps p.tables e below (T218.setTop (mkF m 62 #[.val (.long px), .second, .val (.int sx), .val (.long v1), .second, .val (.ref bx4), .val (.int (8 : Int32)), .val (.long v223), .second] [(.int (2 : Int32)), (.int (8 : Int32))])) _
      refine XS.icmpNo X218.here hx rfl (hb hby at_62) rfl (tlt hb225).2.2.2 ?_
      refine XS.lload X218.here hx rfl (hb hby at_65) rfl ?_
      refine XS.bipush X218.here hx rfl (hb hby at_67) ?_
      refine XS.lshl X218.here hx rfl (hb hby at_69) rfl ?_
      refine XS.aload X218.here hx rfl (hb hby at_70) rfl rfl ?_
      refine XS.iconst X218.here hx rfl (hb hby at_72) ?_
      refine gBald X218 hx hZ rfl R218 0 rfl (j := (2 : Int32)) (v := (.int b2)) (by decide) rfl (g := (mkF m 73 #[.val (.long px), .second, .val (.int sx), .val (.long v1), .second, .val (.ref bx4), .val (.int (8 : Int32)), .val (.long v223), .second] [(.int (2 : Int32)), (.ref bx4), (.long (lshl v223 (8 : Int32)))])) rfl rfl (hb hby at_73) _ ?_
      show Steps p.tables e below (T218.setTop (mkF m 74 #[.val (.long px), .second, .val (.int sx), .val (.long v1), .second, .val (.ref bx4), .val (.int (8 : Int32)), .val (.long v223), .second] [(.int b2), (.long (lshl v223 (8 : Int32)))])) _
      refine XS.sipush X218.here hx rfl (hb hby at_74) ?_
      refine XS.iand X218.here hx rfl (hb hby at_77) rfl ?_
      refine XS.i2l X218.here hx rfl (hb hby at_78) rfl ?_
      refine XS.lor X218.here hx rfl (hb hby at_79) rfl ?_
      refine XS.lstore X218.here hx rfl (hb hby at_80) rfl (l' := #[.val (.long px), .second, .val (.int sx), .val (.long v1), .second, .val (.ref bx4), .val (.int (8 : Int32)), .val (.long ((lshl v223 (8 : Int32)) ||| ((b2 &&& (255 : Int32)).toInt64))), .second]) rfl ?_
      exact k)
    obtain ⟨v227, hv227⟩ : ∃ z : Int64, z = ((lshl v223 (8 : Int32)) ||| ((b2 &&& (255 : Int32)).toInt64)) := ⟨_, rfl⟩
    rw [← hv227] at pre228
    have pre230 : ∀ t, Steps p.tables e below (T218.setTop (mkF m 85 #[.val (.long px), .second, .val (.int sx), .val (.long v1), .second, .val (.ref bx4), .val (.int (8 : Int32)), .val (.long v227), .second] [(.int (3 : Int32)), (.int (8 : Int32))])) t → Steps p.tables e below (s₁.setTop (entryFrame m #[(.long px), (.int sx)] maxLocals)) t := fun t k => pre228 t (by
      show Steps p.tables e below (T218.setTop (mkF m 82 #[.val (.long px), .second, .val (.int sx), .val (.long v1), .second, .val (.ref bx4), .val (.int (8 : Int32)), .val (.long v227), .second] [])) _
      refine XS.iload X218.here hx rfl (hb hby at_82) rfl ?_
      refine XS.iconst X218.here hx rfl (hb hby at_84) ?_
      exact k)
    have hb229 : (3 : Int32) < (8 : Int32) := (by decide)
    have pre232 : ∀ t, Steps p.tables e below (T218.setTop (mkF m 105 #[.val (.long px), .second, .val (.int sx), .val (.long v1), .second, .val (.ref bx4), .val (.int (8 : Int32)), .val (.long ((lshl v227 (8 : Int32)) ||| ((b3 &&& (255 : Int32)).toInt64))), .second] [])) t → Steps p.tables e below (s₁.setTop (entryFrame m #[(.long px), (.int sx)] maxLocals)) t := fun t k => pre230 t (by
      show Steps p.tables e below (T218.setTop (mkF m 85 #[.val (.long px), .second, .val (.int sx), .val (.long v1), .second, .val (.ref bx4), .val (.int (8 : Int32)), .val (.long v227), .second] [(.int (3 : Int32)), (.int (8 : Int32))])) _
      refine XS.icmpNo X218.here hx rfl (hb hby at_85) rfl (tlt hb229).2.2.2 ?_
      refine XS.lload X218.here hx rfl (hb hby at_88) rfl ?_
      refine XS.bipush X218.here hx rfl (hb hby at_90) ?_
      refine XS.lshl X218.here hx rfl (hb hby at_92) rfl ?_
      refine XS.aload X218.here hx rfl (hb hby at_93) rfl rfl ?_
      refine XS.iconst X218.here hx rfl (hb hby at_95) ?_
      refine gBald X218 hx hZ rfl R218 0 rfl (j := (3 : Int32)) (v := (.int b3)) (by decide) rfl (g := (mkF m 96 #[.val (.long px), .second, .val (.int sx), .val (.long v1), .second, .val (.ref bx4), .val (.int (8 : Int32)), .val (.long v227), .second] [(.int (3 : Int32)), (.ref bx4), (.long (lshl v227 (8 : Int32)))])) rfl rfl (hb hby at_96) _ ?_
      show Steps p.tables e below (T218.setTop (mkF m 97 #[.val (.long px), .second, .val (.int sx), .val (.long v1), .second, .val (.ref bx4), .val (.int (8 : Int32)), .val (.long v227), .second] [(.int b3), (.long (lshl v227 (8 : Int32)))])) _
      refine XS.sipush X218.here hx rfl (hb hby at_97) ?_
      refine XS.iand X218.here hx rfl (hb hby at_100) rfl ?_
      refine XS.i2l X218.here hx rfl (hb hby at_101) rfl ?_
      refine XS.lor X218.here hx rfl (hb hby at_102) rfl ?_
      refine XS.lstore X218.here hx rfl (hb hby at_103) rfl (l' := #[.val (.long px), .second, .val (.int sx), .val (.long v1), .second, .val (.ref bx4), .val (.int (8 : Int32)), .val (.long ((lshl v227 (8 : Int32)) ||| ((b3 &&& (255 : Int32)).toInt64))), .second]) rfl ?_
      exact k)
    obtain ⟨v231, hv231⟩ : ∃ z : Int64, z = ((lshl v227 (8 : Int32)) ||| ((b3 &&& (255 : Int32)).toInt64)) := ⟨_, rfl⟩
    rw [← hv231] at pre232
    have pre234 : ∀ t, Steps p.tables e below (T218.setTop (mkF m 108 #[.val (.long px), .second, .val (.int sx), .val (.long v1), .second, .val (.ref bx4), .val (.int (8 : Int32)), .val (.long v231), .second] [(.int (4 : Int32)), (.int (8 : Int32))])) t → Steps p.tables e below (s₁.setTop (entryFrame m #[(.long px), (.int sx)] maxLocals)) t := fun t k => pre232 t (by
      show Steps p.tables e below (T218.setTop (mkF m 105 #[.val (.long px), .second, .val (.int sx), .val (.long v1), .second, .val (.ref bx4), .val (.int (8 : Int32)), .val (.long v231), .second] [])) _
      refine XS.iload X218.here hx rfl (hb hby at_105) rfl ?_
      refine XS.iconst X218.here hx rfl (hb hby at_107) ?_
      exact k)
    have hb233 : (4 : Int32) < (8 : Int32) := (by decide)
    have pre236 : ∀ t, Steps p.tables e below (T218.setTop (mkF m 128 #[.val (.long px), .second, .val (.int sx), .val (.long v1), .second, .val (.ref bx4), .val (.int (8 : Int32)), .val (.long ((lshl v231 (8 : Int32)) ||| ((b4 &&& (255 : Int32)).toInt64))), .second] [])) t → Steps p.tables e below (s₁.setTop (entryFrame m #[(.long px), (.int sx)] maxLocals)) t := fun t k => pre234 t (by
      show Steps p.tables e below (T218.setTop (mkF m 108 #[.val (.long px), .second, .val (.int sx), .val (.long v1), .second, .val (.ref bx4), .val (.int (8 : Int32)), .val (.long v231), .second] [(.int (4 : Int32)), (.int (8 : Int32))])) _
      refine XS.icmpNo X218.here hx rfl (hb hby at_108) rfl (tlt hb233).2.2.2 ?_
      refine XS.lload X218.here hx rfl (hb hby at_111) rfl ?_
      refine XS.bipush X218.here hx rfl (hb hby at_113) ?_
      refine XS.lshl X218.here hx rfl (hb hby at_115) rfl ?_
      refine XS.aload X218.here hx rfl (hb hby at_116) rfl rfl ?_
      refine XS.iconst X218.here hx rfl (hb hby at_118) ?_
      refine gBald X218 hx hZ rfl R218 0 rfl (j := (4 : Int32)) (v := (.int b4)) (by decide) rfl (g := (mkF m 119 #[.val (.long px), .second, .val (.int sx), .val (.long v1), .second, .val (.ref bx4), .val (.int (8 : Int32)), .val (.long v231), .second] [(.int (4 : Int32)), (.ref bx4), (.long (lshl v231 (8 : Int32)))])) rfl rfl (hb hby at_119) _ ?_
      show Steps p.tables e below (T218.setTop (mkF m 120 #[.val (.long px), .second, .val (.int sx), .val (.long v1), .second, .val (.ref bx4), .val (.int (8 : Int32)), .val (.long v231), .second] [(.int b4), (.long (lshl v231 (8 : Int32)))])) _
      refine XS.sipush X218.here hx rfl (hb hby at_120) ?_
      refine XS.iand X218.here hx rfl (hb hby at_123) rfl ?_
      refine XS.i2l X218.here hx rfl (hb hby at_124) rfl ?_
      refine XS.lor X218.here hx rfl (hb hby at_125) rfl ?_
      refine XS.lstore X218.here hx rfl (hb hby at_126) rfl (l' := #[.val (.long px), .second, .val (.int sx), .val (.long v1), .second, .val (.ref bx4), .val (.int (8 : Int32)), .val (.long ((lshl v231 (8 : Int32)) ||| ((b4 &&& (255 : Int32)).toInt64))), .second]) rfl ?_
      exact k)
    obtain ⟨v235, hv235⟩ : ∃ z : Int64, z = ((lshl v231 (8 : Int32)) ||| ((b4 &&& (255 : Int32)).toInt64)) := ⟨_, rfl⟩
    rw [← hv235] at pre236
    have pre238 : ∀ t, Steps p.tables e below (T218.setTop (mkF m 131 #[.val (.long px), .second, .val (.int sx), .val (.long v1), .second, .val (.ref bx4), .val (.int (8 : Int32)), .val (.long v235), .second] [(.int (5 : Int32)), (.int (8 : Int32))])) t → Steps p.tables e below (s₁.setTop (entryFrame m #[(.long px), (.int sx)] maxLocals)) t := fun t k => pre236 t (by
      show Steps p.tables e below (T218.setTop (mkF m 128 #[.val (.long px), .second, .val (.int sx), .val (.long v1), .second, .val (.ref bx4), .val (.int (8 : Int32)), .val (.long v235), .second] [])) _
      refine XS.iload X218.here hx rfl (hb hby at_128) rfl ?_
      refine XS.iconst X218.here hx rfl (hb hby at_130) ?_
      exact k)
    have hb237 : (5 : Int32) < (8 : Int32) := (by decide)
    have pre240 : ∀ t, Steps p.tables e below (T218.setTop (mkF m 151 #[.val (.long px), .second, .val (.int sx), .val (.long v1), .second, .val (.ref bx4), .val (.int (8 : Int32)), .val (.long ((lshl v235 (8 : Int32)) ||| ((b5 &&& (255 : Int32)).toInt64))), .second] [])) t → Steps p.tables e below (s₁.setTop (entryFrame m #[(.long px), (.int sx)] maxLocals)) t := fun t k => pre238 t (by
      show Steps p.tables e below (T218.setTop (mkF m 131 #[.val (.long px), .second, .val (.int sx), .val (.long v1), .second, .val (.ref bx4), .val (.int (8 : Int32)), .val (.long v235), .second] [(.int (5 : Int32)), (.int (8 : Int32))])) _
      refine XS.icmpNo X218.here hx rfl (hb hby at_131) rfl (tlt hb237).2.2.2 ?_
      refine XS.lload X218.here hx rfl (hb hby at_134) rfl ?_
      refine XS.bipush X218.here hx rfl (hb hby at_136) ?_
      refine XS.lshl X218.here hx rfl (hb hby at_138) rfl ?_
      refine XS.aload X218.here hx rfl (hb hby at_139) rfl rfl ?_
      refine XS.iconst X218.here hx rfl (hb hby at_141) ?_
      refine gBald X218 hx hZ rfl R218 0 rfl (j := (5 : Int32)) (v := (.int b5)) (by decide) rfl (g := (mkF m 142 #[.val (.long px), .second, .val (.int sx), .val (.long v1), .second, .val (.ref bx4), .val (.int (8 : Int32)), .val (.long v235), .second] [(.int (5 : Int32)), (.ref bx4), (.long (lshl v235 (8 : Int32)))])) rfl rfl (hb hby at_142) _ ?_
      show Steps p.tables e below (T218.setTop (mkF m 143 #[.val (.long px), .second, .val (.int sx), .val (.long v1), .second, .val (.ref bx4), .val (.int (8 : Int32)), .val (.long v235), .second] [(.int b5), (.long (lshl v235 (8 : Int32)))])) _
      refine XS.sipush X218.here hx rfl (hb hby at_143) ?_
      refine XS.iand X218.here hx rfl (hb hby at_146) rfl ?_
      refine XS.i2l X218.here hx rfl (hb hby at_147) rfl ?_
      refine XS.lor X218.here hx rfl (hb hby at_148) rfl ?_
      refine XS.lstore X218.here hx rfl (hb hby at_149) rfl (l' := #[.val (.long px), .second, .val (.int sx), .val (.long v1), .second, .val (.ref bx4), .val (.int (8 : Int32)), .val (.long ((lshl v235 (8 : Int32)) ||| ((b5 &&& (255 : Int32)).toInt64))), .second]) rfl ?_
      exact k)
    obtain ⟨v239, hv239⟩ : ∃ z : Int64, z = ((lshl v235 (8 : Int32)) ||| ((b5 &&& (255 : Int32)).toInt64)) := ⟨_, rfl⟩
    rw [← hv239] at pre240
    have pre242 : ∀ t, Steps p.tables e below (T218.setTop (mkF m 155 #[.val (.long px), .second, .val (.int sx), .val (.long v1), .second, .val (.ref bx4), .val (.int (8 : Int32)), .val (.long v239), .second] [(.int (6 : Int32)), (.int (8 : Int32))])) t → Steps p.tables e below (s₁.setTop (entryFrame m #[(.long px), (.int sx)] maxLocals)) t := fun t k => pre240 t (by
      show Steps p.tables e below (T218.setTop (mkF m 151 #[.val (.long px), .second, .val (.int sx), .val (.long v1), .second, .val (.ref bx4), .val (.int (8 : Int32)), .val (.long v239), .second] [])) _
      refine XS.iload X218.here hx rfl (hb hby at_151) rfl ?_
      refine XS.bipush X218.here hx rfl (hb hby at_153) ?_
      exact k)
    have hb241 : (6 : Int32) < (8 : Int32) := (by decide)
    have pre244 : ∀ t, Steps p.tables e below (T218.setTop (mkF m 176 #[.val (.long px), .second, .val (.int sx), .val (.long v1), .second, .val (.ref bx4), .val (.int (8 : Int32)), .val (.long ((lshl v239 (8 : Int32)) ||| ((b6 &&& (255 : Int32)).toInt64))), .second] [])) t → Steps p.tables e below (s₁.setTop (entryFrame m #[(.long px), (.int sx)] maxLocals)) t := fun t k => pre242 t (by
      show Steps p.tables e below (T218.setTop (mkF m 155 #[.val (.long px), .second, .val (.int sx), .val (.long v1), .second, .val (.ref bx4), .val (.int (8 : Int32)), .val (.long v239), .second] [(.int (6 : Int32)), (.int (8 : Int32))])) _
      refine XS.icmpNo X218.here hx rfl (hb hby at_155) rfl (tlt hb241).2.2.2 ?_
      refine XS.lload X218.here hx rfl (hb hby at_158) rfl ?_
      refine XS.bipush X218.here hx rfl (hb hby at_160) ?_
      refine XS.lshl X218.here hx rfl (hb hby at_162) rfl ?_
      refine XS.aload X218.here hx rfl (hb hby at_163) rfl rfl ?_
      refine XS.bipush X218.here hx rfl (hb hby at_165) ?_
      refine gBald X218 hx hZ rfl R218 0 rfl (j := (6 : Int32)) (v := (.int b6)) (by decide) rfl (g := (mkF m 167 #[.val (.long px), .second, .val (.int sx), .val (.long v1), .second, .val (.ref bx4), .val (.int (8 : Int32)), .val (.long v239), .second] [(.int (6 : Int32)), (.ref bx4), (.long (lshl v239 (8 : Int32)))])) rfl rfl (hb hby at_167) _ ?_
      show Steps p.tables e below (T218.setTop (mkF m 168 #[.val (.long px), .second, .val (.int sx), .val (.long v1), .second, .val (.ref bx4), .val (.int (8 : Int32)), .val (.long v239), .second] [(.int b6), (.long (lshl v239 (8 : Int32)))])) _
      refine XS.sipush X218.here hx rfl (hb hby at_168) ?_
      refine XS.iand X218.here hx rfl (hb hby at_171) rfl ?_
      refine XS.i2l X218.here hx rfl (hb hby at_172) rfl ?_
      refine XS.lor X218.here hx rfl (hb hby at_173) rfl ?_
      refine XS.lstore X218.here hx rfl (hb hby at_174) rfl (l' := #[.val (.long px), .second, .val (.int sx), .val (.long v1), .second, .val (.ref bx4), .val (.int (8 : Int32)), .val (.long ((lshl v239 (8 : Int32)) ||| ((b6 &&& (255 : Int32)).toInt64))), .second]) rfl ?_
      exact k)
    obtain ⟨v243, hv243⟩ : ∃ z : Int64, z = ((lshl v239 (8 : Int32)) ||| ((b6 &&& (255 : Int32)).toInt64)) := ⟨_, rfl⟩
    rw [← hv243] at pre244
    have pre246 : ∀ t, Steps p.tables e below (T218.setTop (mkF m 180 #[.val (.long px), .second, .val (.int sx), .val (.long v1), .second, .val (.ref bx4), .val (.int (8 : Int32)), .val (.long v243), .second] [(.int (7 : Int32)), (.int (8 : Int32))])) t → Steps p.tables e below (s₁.setTop (entryFrame m #[(.long px), (.int sx)] maxLocals)) t := fun t k => pre244 t (by
      show Steps p.tables e below (T218.setTop (mkF m 176 #[.val (.long px), .second, .val (.int sx), .val (.long v1), .second, .val (.ref bx4), .val (.int (8 : Int32)), .val (.long v243), .second] [])) _
      refine XS.iload X218.here hx rfl (hb hby at_176) rfl ?_
      refine XS.bipush X218.here hx rfl (hb hby at_178) ?_
      exact k)
    have hb245 : (7 : Int32) < (8 : Int32) := (by decide)
    have pre248 : ∀ t, Steps p.tables e below (T218.setTop (mkF m 201 #[.val (.long px), .second, .val (.int sx), .val (.long v1), .second, .val (.ref bx4), .val (.int (8 : Int32)), .val (.long ((lshl v243 (8 : Int32)) ||| ((b7 &&& (255 : Int32)).toInt64))), .second] [])) t → Steps p.tables e below (s₁.setTop (entryFrame m #[(.long px), (.int sx)] maxLocals)) t := fun t k => pre246 t (by
      show Steps p.tables e below (T218.setTop (mkF m 180 #[.val (.long px), .second, .val (.int sx), .val (.long v1), .second, .val (.ref bx4), .val (.int (8 : Int32)), .val (.long v243), .second] [(.int (7 : Int32)), (.int (8 : Int32))])) _
      refine XS.icmpNo X218.here hx rfl (hb hby at_180) rfl (tlt hb245).2.2.2 ?_
      refine XS.lload X218.here hx rfl (hb hby at_183) rfl ?_
      refine XS.bipush X218.here hx rfl (hb hby at_185) ?_
      refine XS.lshl X218.here hx rfl (hb hby at_187) rfl ?_
      refine XS.aload X218.here hx rfl (hb hby at_188) rfl rfl ?_
      refine XS.bipush X218.here hx rfl (hb hby at_190) ?_
      refine gBald X218 hx hZ rfl R218 0 rfl (j := (7 : Int32)) (v := (.int b7)) (by decide) rfl (g := (mkF m 192 #[.val (.long px), .second, .val (.int sx), .val (.long v1), .second, .val (.ref bx4), .val (.int (8 : Int32)), .val (.long v243), .second] [(.int (7 : Int32)), (.ref bx4), (.long (lshl v243 (8 : Int32)))])) rfl rfl (hb hby at_192) _ ?_
      show Steps p.tables e below (T218.setTop (mkF m 193 #[.val (.long px), .second, .val (.int sx), .val (.long v1), .second, .val (.ref bx4), .val (.int (8 : Int32)), .val (.long v243), .second] [(.int b7), (.long (lshl v243 (8 : Int32)))])) _
      refine XS.sipush X218.here hx rfl (hb hby at_193) ?_
      refine XS.iand X218.here hx rfl (hb hby at_196) rfl ?_
      refine XS.i2l X218.here hx rfl (hb hby at_197) rfl ?_
      refine XS.lor X218.here hx rfl (hb hby at_198) rfl ?_
      refine XS.lstore X218.here hx rfl (hb hby at_199) rfl (l' := #[.val (.long px), .second, .val (.int sx), .val (.long v1), .second, .val (.ref bx4), .val (.int (8 : Int32)), .val (.long ((lshl v243 (8 : Int32)) ||| ((b7 &&& (255 : Int32)).toInt64))), .second]) rfl ?_
      exact k)
    obtain ⟨v247, hv247⟩ : ∃ z : Int64, z = ((lshl v243 (8 : Int32)) ||| ((b7 &&& (255 : Int32)).toInt64)) := ⟨_, rfl⟩
    rw [← hv247] at pre248
    have pre251 : ∀ t, Steps p.tables e below (T218.setTop (mkF m 205 #[.val (.long px), .second, .val (.int sx), .val (.long v1), .second, .val (.ref bx4), .val (.int (8 : Int32)), .val (.long v247), .second] [(.int (XT.cmpL v247 v1))])) t → Steps p.tables e below (s₁.setTop (entryFrame m #[(.long px), (.int sx)] maxLocals)) t := fun t k => pre248 t (by
      show Steps p.tables e below (T218.setTop (mkF m 201 #[.val (.long px), .second, .val (.int sx), .val (.long v1), .second, .val (.ref bx4), .val (.int (8 : Int32)), .val (.long v247), .second] [])) _
      refine XS.lload X218.here hx rfl (hb hby at_201) rfl ?_
      refine XS.lloadN X218.here hx rfl (hb hby at_203) rfl ?_
      refine XS.lcmp X218.here hx rfl (hb hby at_204) rfl ?_
      exact k)
    have tl250 : ∀ t, Steps p.tables e below (T218.setTop (mkF m 213 #[.val (.long px), .second, .val (.int sx), .val (.long v1), .second, .val (.ref bx4), .val (.int (8 : Int32)), .val (.long v247), .second] [(.int (bz (v247 = v1)))])) t → Steps p.tables e below (T218.setTop (mkF m 205 #[.val (.long px), .second, .val (.int sx), .val (.long v1), .second, .val (.ref bx4), .val (.int (8 : Int32)), .val (.long v247), .second] [(.int (XT.cmpL v247 v1))])) t := fun t k => by
      by_cases hb249 : v247 = v1
      · refine XS.ifNo X218.here hx rfl (hb hby at_205) rfl (XT.ll_ne_f hb249) ?_
        rw [bz_one (P := (v247 = v1)) (iff_true_intro hb249)] at k
        show Steps p.tables e below (T218.setTop (mkF m 208 #[.val (.long px), .second, .val (.int sx), .val (.long v1), .second, .val (.ref bx4), .val (.int (8 : Int32)), .val (.long v247), .second] [])) _
        refine XS.iconst X218.here hx rfl (hb hby at_208) ?_
        refine XS.goto X218.here hx rfl (pc0 := 209) (pc' := 213) rfl (hb hby at_209) (by decide) (by decide) ?_
        exact k
      · refine XS.ifYes X218.here hx rfl (pc0 := 205) (pc' := 212) rfl (hb hby at_205) rfl (XT.ll_ne_t hb249) (by decide) (by decide) ?_
        rw [bz_zero (P := (v247 = v1)) (iff_false_intro hb249)] at k
        show Steps p.tables e below (T218.setTop (mkF m 212 #[.val (.long px), .second, .val (.int sx), .val (.long v1), .second, .val (.ref bx4), .val (.int (8 : Int32)), .val (.long v247), .second] [])) _
        refine XS.iconst X218.here hx rfl (hb hby at_212) ?_
        exact k
    have pre252 : ∀ t, Steps p.tables e below (T218.setTop (mkF m 213 #[.val (.long px), .second, .val (.int sx), .val (.long v1), .second, .val (.ref bx4), .val (.int (8 : Int32)), .val (.long v247), .second] [(.int (bz (v247 = v1)))])) t → Steps p.tables e below (s₁.setTop (entryFrame m #[(.long px), (.int sx)] maxLocals)) t := fun t k => pre251 t (by
      exact tl250 t k)
    obtain ⟨fs, hr, hrun, hended, hW, hsame⟩ := X218.leave (v := some (.int (nar .boolean (bz (v247 = v1))))) (fun h => by rw [Bd.returns] at h; cases h)
    refine ⟨_, _, pre252 _ ?_, hrun, hended, _, _, rfl, ?_, ⟨_, rfl⟩, hW, hsame.mono (by decide) (by decide)⟩
    · show Steps p.tables e below (T218.setTop (mkF m 213 #[.val (.long px), .second, .val (.int sx), .val (.long v1), .second, .val (.ref bx4), .val (.int (8 : Int32)), .val (.long v247), .second] [(.int (bz (v247 = v1)))])) _
      exact retN X218 hx (t := .boolean) Bd.returns (by simp) (hb hby at_213) hr
    · show Q0 Z px sx n0 [] _ T218.heap _
      have R253 : Rep Z n0 T218.heap ([]) := (R218.front 0 rfl rfl : Rep Z n0 T218.heap ((bx4, Ar .byte [(.int b0), (.int b1), (.int b2), (.int b3), (.int b4), (.int b5), (.int b6), (.int b7)]) :: [])).tail
      exact ⟨(by subst hv223 hv227 hv231 hv235 hv239 hv243 hv247; exact ow_fin hR), N218, R253⟩
set_option maxRecDepth 65536 in
set_option maxHeartbeats 40000000 in
theorem comes_1 {Post : Tables → Env → Array Value → State → Outcome → State → Prop} (hpost : ∀ tb e args s v u, (limb_1_1.after args s (.returned v) u = true ∧ limb_1_2.after args s (.returned v) u = true ∧ True) → FrameEnd s (.returned v) u (Jvm.fieldLocs frame_1_writes args s ++ Jvm.arrayLocs frame_1_arrays args s ++ Jvm.staticLocs frame_1_statics s) 16 128 → Post tb e args s (.returned v) u) :
    ArmFor flags0 classFile x code maxLocals ret World_1 tables_1 room_1 Calls_1 rest_1 Pre_1 Post := by
  intro l hfl _ _ p e ha hc hk s m args below hf hA hF happ hP
  obtain ⟨hcalls, hrest, hpre⟩ := hP
  obtain ⟨-, -, -, hnamed, -, -, -, hat⟩ := (Spec.applies_iff hf).mp happ
  obtain ⟨hg, hn⟩ := and_e (Cond.before_iff.mp (show (Jvm.Cond.and given_1 narrow_1).before args s = true from hpre))
  obtain ⟨hct, hg⟩ := and_e hg
  obtain ⟨hg0, hg⟩ := and_e hg
  have hg1 := hg
  obtain ⟨w0, w1, rfl⟩ : ∃ w0 w1 : Value, args = #[w0, w1] := by
    have hs : args.size = 2 := by simpa [Cond.value, given_1] using hct
    obtain ⟨L⟩ := args
    match L, hs with
    | [w0, w1], _ => exact ⟨w0, w1, rfl⟩
  have hw := fun d (hd : d ∈ tables_1) => atoms_spec (ws := Jvm.Cond.code x code maxLocals ret :: tables_1) hat d (List.mem_cons_of_mem _ hd)
  obtain ⟨i0, ei0⟩ := isL_v hg0
  obtain rfl : w0 = (.long i0) := Option.some.inj ei0
  obtain ⟨i1, ei1⟩ := is_v hg1
  obtain rfl : w1 = (.int i1) := Option.some.inj ei1
  obtain ⟨n, o, h1, h2, h3, _, L, rfl, ⟨rfl, N, -⟩, hq⟩ := rm0 l s _ hw tables_1 i0 i1 s.heap s.heap.size (Rep.nil _) p e ha hc hk s m _ below hf ((Spec.applies_iff_loose hf).mp happ).1 ⟨rfl, State.Warmed39.refl s, rfl⟩ trivial
  refine ⟨n, _, h1, h2, h3, hpost _ _ _ _ _ _ ⟨Cond.after_iff.mpr rfl, Cond.after_iff.mpr (eq_i res_at (Term.int_eval (1)) rfl), trivial⟩ ⟨hq.1, hq.2.1, (hq.2.2.sift fun y hy => Or.inr (N y hy)).mono (by decide) (by decide)⟩⟩
theorem main_1_1 : Claimed_1_1 := comes_1 fun _ _ _ _ _ _ h hF => ⟨h.1, hF⟩
theorem main_1_2 : Claimed_1_2 := comes_1 fun _ _ _ _ _ _ h hF => ⟨h.2.1, hF⟩
end Jvm.Pilot.@@N@@
namespace Jvm.Pilot.@@N@@
open Jvm Jvm.ClassFile Sem Op Lib Jvm.Free Jvm.Stand Jvm.Pilot.@@N@@.Jvm.D
/-! MADE BY PROGRAM (witnessworld.py) out of the Statement's table words and the real class files: 9 classes; the members and pool entries that the words name. The judged class is class 1, her method 2. -/
namespace start1
open Jvm.ClassFile
def u (s : String) : CpInfo := .utf8 (stringToUtf16 s)
/-- a pool by its gaps: so many unusable entries, then the entry; so many at the end -/
def gap : Nat → List CpInfo → List CpInfo
  | 0, r => r
  | n + 1, r => .unusable :: gap n r
def poolList (es : List (Nat × CpInfo)) (last : Nat) : List CpInfo := es.foldr (fun e r => gap e.1 (e.2 :: r)) (gap last [])
def pool (es : List (Nat × CpInfo)) (last : Nat) : Array CpInfo := ⟨poolList es last⟩
def fileOf (pool : Array CpInfo) (this : Nat) (attrs : Array Attribute := #[]) (ms : Array MethodInfo := #[]) (fl : Nat := 33) (sup : Nat := 0) (ifs : Array Nat := #[]) (fds : Array FieldInfo := #[]) : ClassFile where
  minorVersion := 0
  majorVersion := 65
  constantPool := pool
  accessFlags := fl
  thisClass := this
  superClass := sup
  interfaces := ifs
  fields := fds
  methods := ms
  attributes := attrs
def plain (name : String) (sup : Option ClassId) : Class where
  name := name
  kind := .ordinary
  loader := none
  accessFlags := 33
  super := sup
  interfaces := #[]
  cf := none
  fields := #[]
  methods := #[]
  instanceTypes := #[]
  staticTypes := #[]
  resolved := #[]
  callSites := []
  init := .initialized
  statics := none
  mirror := none

def pool0 : Array CpInfo := pool [(5, u "<init>"), (0, u "()V"), (1, .class_ 10), (1, u "java/lang/Object")] 113

def k0m0 : Method := { name := "<init>", desc := "()V", sig := { parameters := [], returnType := none }, accessFlags := 1, code := none }
/-- java/lang/Object -/
def k0 : Class := { plain "java/lang/Object" none with
  accessFlags := 33
  interfaces := #[]
  cf := some (fileOf pool0 8 #[] #[{ accessFlags := 1, nameIndex := 5, descriptorIndex := 6, attributes := #[] }] 33 0 #[] #[])
  fields := #[]
  methods := #[k0m0]
  instanceTypes := #[]
  staticTypes := #[]
  resolved := Array.replicate 124 none
  statics := none }

def pool1 : Array CpInfo := pool [(2, .class_ 4), (1, u "java/lang/Object"), (0, u "<init>"), (0, u "()V"), (0, .long 18446744073709551488), (1, .long 127), (1, .long 18446744073709518848), (1, .long 32767), (1, .long 18446744073701163008), (1, .long 8388607), (1, .long 18446744071562067968), (1, .long 2147483647), (1, .long 18446743523953737728), (1, .long 549755813887), (1, .long 18446603336221196288), (1, .long 140737488355327), (1, .long 18410715276690587648), (1, .long 36028797018963967), (1, .methodref 36 37), (0, .class_ 38), (0, .nameAndType 39 40), (0, u "com/example/sidetrack/sidetrack/codec/BerInteger"), (0, u "encode"), (0, u "(J)[B"), (0, .methodref 42 43), (0, .class_ 44), (0, .nameAndType 45 46), (0, u "com/example/sidetrack/sidetrack/codec/BerIntegerEncodePinLaw"), (0, u "expectedLength"), (0, u "(J)I"), (3, u "law"), (0, u "(JI)Z")] 4

def k1m0 : Method := { name := "<init>", desc := "()V", sig := { parameters := [], returnType := none }, accessFlags := 2, code := none }
def k1c1 : Code := { maxStack := 4, maxLocals := 2, code := method_2_code, exceptionTable := #[], attributes := #[] }
def k1m1 : Method := { name := "expectedLength", desc := "(J)I", sig := { parameters := [.long], returnType := some .int }, accessFlags := 10, code := some k1c1 }
def k1c2 : Code := { maxStack := 4, maxLocals := 9, code := code, exceptionTable := #[], attributes := #[] }
def k1m2 : Method := { name := "law", desc := "(JI)Z", sig := { parameters := [.long, .int], returnType := some .boolean }, accessFlags := 9, code := some k1c2 }
/-- com/example/sidetrack/sidetrack/codec/BerIntegerEncodePinLaw -/
def k1 : Class := { plain "com/example/sidetrack/sidetrack/codec/BerIntegerEncodePinLaw" (some 0) with
  accessFlags := 49
  interfaces := #[]
  cf := some (fileOf pool1 42 #[] #[{ accessFlags := 2, nameIndex := 5, descriptorIndex := 6, attributes := #[] }, { accessFlags := 10, nameIndex := 45, descriptorIndex := 46, attributes := #[] }, { accessFlags := 9, nameIndex := 50, descriptorIndex := 51, attributes := #[] }] 49 2 #[] #[])
  fields := #[]
  methods := #[k1m0, k1m1, k1m2]
  instanceTypes := #[]
  staticTypes := #[]
  resolved := Array.replicate 56 none
  statics := none }

def pool2 : Array CpInfo := pool [(2, .class_ 4), (1, u "java/lang/Object"), (0, u "<init>"), (0, u "()V"), (17, .class_ 25), (0, u "com/example/sidetrack/sidetrack/codec/BerInteger"), (6, u "encode"), (0, u "(J)[B")] 19

def k2m0 : Method := { name := "<init>", desc := "()V", sig := { parameters := [], returnType := none }, accessFlags := 2, code := none }
def k2c1 : Code := { maxStack := 6, maxLocals := 5, code := prog_12_method_3_code, exceptionTable := #[], attributes := #[] }
def k2m1 : Method := { name := "encode", desc := "(J)[B", sig := { parameters := [.long], returnType := some (.array .byte) }, accessFlags := 8, code := some k2c1 }
/-- com/example/sidetrack/sidetrack/codec/BerInteger -/
def k2 : Class := { plain "com/example/sidetrack/sidetrack/codec/BerInteger" (some 0) with
  accessFlags := 48
  interfaces := #[]
  cf := some (fileOf pool2 24 #[] #[{ accessFlags := 2, nameIndex := 5, descriptorIndex := 6, attributes := #[] }, { accessFlags := 8, nameIndex := 32, descriptorIndex := 33, attributes := #[] }] 48 2 #[] #[])
  fields := #[]
  methods := #[k2m0, k2m1]
  instanceTypes := #[]
  staticTypes := #[]
  resolved := Array.replicate 53 none
  statics := none }

def pool3 : Array CpInfo := pool [(1, u "java/lang/Cloneable"), (0, .class_ 1), (0, u "java/lang/Object"), (0, .class_ 3)] 3

/-- java/lang/Cloneable -/
def k3 : Class := { plain "java/lang/Cloneable" (some 0) with
  accessFlags := 1537
  interfaces := #[]
  cf := some (fileOf pool3 2 #[] #[] 1537 4 #[] #[])
  fields := #[]
  methods := #[]
  instanceTypes := #[]
  staticTypes := #[]
  resolved := Array.replicate 8 none
  statics := none }

def pool4 : Array CpInfo := pool [(1, u "java/io/Serializable"), (0, .class_ 1), (0, u "java/lang/Object"), (0, .class_ 3)] 3

/-- java/io/Serializable -/
def k4 : Class := { plain "java/io/Serializable" (some 0) with
  accessFlags := 1537
  interfaces := #[]
  cf := some (fileOf pool4 2 #[] #[] 1537 4 #[] #[])
  fields := #[]
  methods := #[]
  instanceTypes := #[]
  staticTypes := #[]
  resolved := Array.replicate 8 none
  statics := none }

/-- the primitive byte -/
def k5 : Class := { plain "byte" none with kind := .primitive 'B', accessFlags := 0x411 }
/-- [B -/
def k6 : Class := { plain "[B" (some 0) with kind := .array 5 .byte, interfaces := #[3, 4], accessFlags := 1041 }

/-- the primitive int -/
def k7 : Class := { plain "int" none with kind := .primitive 'I', accessFlags := 0x411 }
/-- [I -/
def k8 : Class := { plain "[I" (some 0) with kind := .array 7 .int, interfaces := #[3, 4], accessFlags := 1041 }

def heap : Heap := #[]
def classes : Array Class := #[k0, k1, k2, k3, k4, k5, k6, k7, k8]
def interned : List (Array UInt16 × Addr) := []
def slotsUsed : Nat := 0
def theMethod : MethodId := ⟨1, 2⟩
def args0 : Array Value := #[.long 5, .int 2]
def aboutOver (below : List Frame) : State where
  vm := { classes := classes, interned := interned.toArray }
  heap := heap
  slotsUsed := slotsUsed
  threads := #[{ frames := .invoking theMethod args0 :: below }]
def below0 : List Frame := [.native { method := ⟨0, 0⟩, args := #[] }]
def about1 : State := aboutOver below0
def p0 : Program := .bare "" "" ""
def e0 : Env := launch0.env 0 0 0
theorem w_frames : about1.frames = Frame.invoking theMethod args0 :: below0 := rfl
set_option maxRecDepth 65536 in
theorem w_args : argsFit about1.vm theMethod args0 = true := by decide +kernel
set_option maxRecDepth 65536 in
theorem w_heap : heapFits about1 = true := by decide +kernel
set_option maxRecDepth 65536 in
theorem w_runnable : about1.curStatus? = some .runnable := by decide +kernel
set_option maxRecDepth 65536 in
theorem w_alone : about1.alone = true := by decide +kernel
set_option maxRecDepth 65536 in
theorem w_named : about1.methodNamed? x = some theMethod := by decide +kernel
set_option maxRecDepth 65536 in
theorem w_hears : about1.hears theMethod below0 = true := by decide +kernel
set_option maxRecDepth 65536 in
theorem w_ripe : about1.ripe theMethod args0 below0 = true := by decide +kernel
theorem w_running : about1.status = .running := rfl
set_option maxRecDepth 65536 in
theorem w_room : about1.hasRoom e0.platform room_1 = true :=
  launch0.hasRoom_least _ room_1 (by decide +kernel) (by decide +kernel) (by decide +kernel) (by decide +kernel) (by decide +kernel) (by decide +kernel)
theorem allAtoms_all (ts : List Jvm.Cond) (a : Array Jvm.Value) (st : Jvm.State) : (allAtoms ts).before a st = ts.all (fun c => c.before a st) := by
  induction ts with
  | nil => rfl
  | cons c t ih =>
    show (Jvm.Cond.and c (allAtoms t)).before a st = _
    rw [Jvm.Cond.before_and, ih, List.all_cons]
def words1 : List Jvm.Cond := Jvm.Cond.code x code maxLocals ret :: tables_1
/-- a 'code' word, met by the world's own term for the bytes: nothing is compared byte by byte -/
theorem code_word {y : MethodName} {bytes : ByteArray} {mx : Nat} {rt : Option FieldType} {a : Array Value} {s : State} {m : MethodId} {meth : Method} {c : Code} (h1 : s.methodNamed? y = some m) (h2 : s.vm.method? m = some meth) (h3 : meth.code = some c) (h4 : c.code = bytes)
    (h5 : (c.maxLocals == mx && c.exceptionTable.isEmpty && decide (c.maxStack ≤ mostOperands) && decide (meth.sig.returnType = rt) && !meth.locks && decide (parseMethodDescriptor y.desc = some meth.sig)) = true) : (Jvm.Cond.code y bytes mx rt).before a s = true := by
  simp only [Bool.and_eq_true, beq_iff_eq, Bool.not_eq_true', decide_eq_true_eq] at h5
  obtain ⟨⟨⟨⟨⟨g1, g2⟩, g3⟩, g4⟩, g5⟩, g6⟩ := h5
  simp [Cond.before, Cond.holds, Cond.value, h1, h2, h3, h4, g1, g2, g3, g4, g5, g6]
def isCode : Jvm.Cond → Bool
  | .code _ _ _ _ => true
  | _ => false
theorem all_split {L : List Jvm.Cond} {P : Jvm.Cond → Bool} (h1 : L.all (fun c => isCode c || P c) = true) (h2 : ∀ c ∈ L.filter isCode, P c = true) : L.all P = true := by
  refine List.all_eq_true.mpr fun c hc => ?_
  have h := List.all_eq_true.mp h1 c hc
  rcases Bool.eq_false_or_eq_true (isCode c) with hi | hi
  · exact h2 c (List.mem_filter.mpr ⟨hc, hi⟩)
  · simpa [hi] using h
set_option maxRecDepth 65536 in
theorem w_c0 : (Jvm.Cond.code x code maxLocals ret).before args0 about1 = true := code_word (m := ⟨1, 2⟩) (meth := k1m2) (c := k1c2) (by decide +kernel) rfl rfl rfl (by decide +kernel)
set_option maxRecDepth 65536 in
theorem w_c1 : (Jvm.Cond.code ({ cls := "com/example/sidetrack/sidetrack/codec/BerInteger", name := "encode", desc := "(J)[B" } : Jvm.MethodName) prog_12_method_3_code (5 : Nat) (Option.some (Jvm.ClassFile.FieldType.array Jvm.ClassFile.FieldType.byte))).before args0 about1 = true := code_word (m := ⟨2, 1⟩) (meth := k2m1) (c := k2c1) (by decide +kernel) rfl rfl rfl (by decide +kernel)
set_option maxRecDepth 65536 in
theorem w_c2 : (Jvm.Cond.code ({ cls := "com/example/sidetrack/sidetrack/codec/BerIntegerEncodePinLaw", name := "expectedLength", desc := "(J)I" } : Jvm.MethodName) method_2_code (2 : Nat) (Option.some Jvm.ClassFile.FieldType.int)).before args0 about1 = true := code_word (m := ⟨1, 1⟩) (meth := k1m1) (c := k1c1) (by decide +kernel) rfl rfl rfl (by decide +kernel)
def codes1 : List Jvm.Cond := [Jvm.Cond.code x code maxLocals ret, Jvm.Cond.code ({ cls := "com/example/sidetrack/sidetrack/codec/BerInteger", name := "encode", desc := "(J)[B" } : Jvm.MethodName) prog_12_method_3_code (5 : Nat) (Option.some (Jvm.ClassFile.FieldType.array Jvm.ClassFile.FieldType.byte)), Jvm.Cond.code ({ cls := "com/example/sidetrack/sidetrack/codec/BerIntegerEncodePinLaw", name := "expectedLength", desc := "(J)I" } : Jvm.MethodName) method_2_code (2 : Nat) (Option.some Jvm.ClassFile.FieldType.int)]
set_option maxRecDepth 65536 in
theorem codes_eq : words1.filter isCode = codes1 := rfl
theorem w_codes : ∀ c ∈ words1.filter isCode, c.before args0 about1 = true := by
  rw [codes_eq]
  intro c hc
  simp only [codes1, List.mem_cons, List.not_mem_nil, or_false] at hc
  rcases hc with rfl | rfl | rfl
  · exact w_c0
  · exact w_c1
  · exact w_c2
set_option maxRecDepth 65536 in
theorem w_t1 : words1.all (fun c => isCode c || c.before args0 about1) = true := by decide +kernel
theorem w_tables : (allAtoms (Jvm.Cond.code x code maxLocals ret :: tables_1)).before args0 about1 = true := by
  rw [allAtoms_all]
  show words1.all (fun c => c.before args0 about1) = true
  refine all_split ?_ w_codes
  rw [w_t1]
set_option maxRecDepth 65536 in
theorem w_case : (Jvm.Cond.and given_1 narrow_1).before args0 about1 = true := by decide +kernel
theorem w_applies : (headSpec (Jvm.Cond.code x code maxLocals ret :: tables_1) room_1).applies x e0.platform about1 = true :=
  (Spec.applies_iff w_frames).mpr ⟨w_running, w_runnable, w_alone, w_named, w_hears, w_ripe, w_room, w_tables⟩
theorem atStart : AtStart classFile x code maxLocals ret World_1 tables_1 room_1 Calls_1 rest_1 Pre_1 launch0 p0 e0 about1 theMethod args0 below0 :=
  ⟨lists_1, trivial, launch0.admits_env _ _ _, launch0.least_env, fairChoices_fair.cas, fairChoices_fair.clock, w_frames, w_args, w_heap, w_applies, trivial, trivial, w_case⟩
end start1
theorem witness_1 : WitnessClaimed_1 := ⟨start1.p0, start1.e0, start1.about1, start1.theMethod, start1.args0, start1.below0, start1.atStart⟩
end Jvm.Pilot.@@N@@
