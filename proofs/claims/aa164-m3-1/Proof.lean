import JvmDerived
import JvmDerived.Pilot.@@N@@Statement
import JvmDerived.Pilot.@@N@@Code
set_option linter.unusedVariables false
set_option linter.unusedSimpArgs false
namespace Jvm.Own
open Jvm Jvm.ClassFile Sem Op Lib Jvm.Free Jvm.Stand Jvm.LawKit Jvm.RoadKit
/-! ## A heap told by a list: each new object or array by its address and what its cell is -/
abbrev Des : Type := State → Cell → Prop
abbrev RL : Type := List (Addr × Des)
/-- an object of class C, its fields (name, descriptor, value), all declared in C -/
def Obj (C : String) (fs : List (String × String × Value)) : Des := fun Z c =>
  Exa Z (#[c] : Heap) 0 C ∧ (∀ (j : Nat) (x : String × String × Value), fs[j]? = some x → Fld Z (#[c] : Heap) 0 C x.1 x.2.1 x.2.2) ∧
  ∀ (i j : Nat) (x y : String × String × Value), i ≠ j → fs[i]? = some x → fs[j]? = some y → Jvm.RoadKit.slotOf Z C x.1 x.2.1 ≠ Jvm.RoadKit.slotOf Z C y.1 y.2.1
/-- an array of ty, all its values -/
def Ar (ty : FieldType) (vs : List Value) : Des := fun Z c => Z.isArrayOf c ty ∧ c.vm ≠ .unknown ∧ c.slots.toList = vs ∧ (∀ v ∈ vs, fits ty v = true) ∧ Exa Z (#[c] : Heap) 0 ("[" ++ ty.toString)
/-- every one of L lies in h, at or behind n0, no two at one place -/
def Rep (Z : State) (n0 : Nat) (h : Heap) (L : RL) : Prop := n0 ≤ h.size ∧ (L.map (·.1)).Nodup ∧ ∀ x ∈ L, n0 ≤ x.1 ∧ ∃ c : Cell, h[x.1]? = some c ∧ x.2 Z c
section Facts
variable {Z : State} {n0 : Nat} {h h' : Heap} {L : RL} {a : Addr} {c : Cell} {C n d : String} {v w : Value} {i j : Nat} {fs : List (String × String × Value)} {P P' : Des} {ty : FieldType} {vs : List Value}
theorem one_eq {c c' : Cell} (q : (#[c] : Heap)[0]? = some c') : c' = c := by simpa using q.symm
theorem fld_of (hc : h[a]? = some c) (F : Fld Z (#[c] : Heap) 0 C n d v) : Fld Z h a C n d v := by
  obtain ⟨cell, cf, k, i, f, h1, r⟩ := F
  cases one_eq h1
  exact ⟨_, cf, k, i, f, hc, r⟩
theorem fld_to (hc : h[a]? = some c) (F : Fld Z h a C n d v) : Fld Z (#[c] : Heap) 0 C n d v := by
  obtain ⟨cell, cf, k, i, f, h1, r⟩ := F
  cases hc.symm.trans h1
  exact ⟨_, cf, k, i, f, rfl, r⟩
theorem exa_of (hc : h[a]? = some c) (F : Exa Z (#[c] : Heap) 0 C) : Exa Z h a C := by
  obtain ⟨cell, k, h1, r⟩ := F
  cases one_eq h1
  exact ⟨_, k, hc, r⟩
theorem exa_to (hc : h[a]? = some c) (F : Exa Z h a C) : Exa Z (#[c] : Heap) 0 C := by
  obtain ⟨cell, k, h1, r⟩ := F
  cases hc.symm.trans h1
  exact ⟨_, k, rfl, r⟩
theorem Rep.nil (h : Heap) : Rep Z h.size h [] := ⟨Nat.le_refl _, List.nodup_nil, fun _ q => nomatch q⟩
theorem Rep.at (R : Rep Z n0 h L) (hi : L[i]? = some (a, P)) : n0 ≤ a ∧ ∃ c : Cell, h[a]? = some c ∧ P Z c := R.2.2 _ (List.mem_of_getElem? hi)
theorem Rep.ge (R : Rep Z n0 h L) (hi : L[i]? = some (a, P)) : n0 ≤ a := (R.at hi).1
theorem Rep.fld (R : Rep Z n0 h L) (hi : L[i]? = some (a, Obj C fs)) (hj : fs[j]? = some (n, d, v)) : Fld Z h a C n d v := by
  obtain ⟨-, c, hc, -, F, -⟩ := R.at hi
  exact fld_of hc (F j _ hj)
theorem Rep.exa (R : Rep Z n0 h L) (hi : L[i]? = some (a, Obj C fs)) : Exa Z h a C := by
  obtain ⟨-, c, hc, E, -⟩ := R.at hi
  exact exa_of hc E
theorem Rep.arr (R : Rep Z n0 h L) (hi : L[i]? = some (a, Ar ty vs)) : ∃ cl : Cell, Arr Z h a cl ty ∧ cl.slots.toList = vs := by
  obtain ⟨-, c, hc, A, B, V, -⟩ := R.at hi
  exact ⟨c, ⟨hc, A, B⟩, V⟩
theorem Rep.arr' (R : Rep Z n0 h L) (hi : L[i]? = some (a, Ar ty vs)) : ∃ cl : Cell, Arr Z h a cl ty ∧ cl.slots.toList = vs ∧ (∀ v ∈ vs, fits ty v = true) ∧ Exa Z h a ("[" ++ ty.toString) := by
  obtain ⟨-, c, hc, A, B, V, F, E⟩ := R.at hi
  exact ⟨c, ⟨hc, A, B⟩, V, F, exa_of hc E⟩
theorem wr_one {sl : Nat} (hc : h[a]? = some c) (W : Wr h h' a sl v) : Wr (#[c] : Heap) (#[c.setSlot sl v] : Heap) 0 sl v := by
  obtain ⟨cell, h1, h2, h3, -⟩ := W
  cases hc.symm.trans h1
  exact ⟨_, rfl, h2, h3, rfl⟩
theorem Rep.upd {sl : Nat} (R : Rep Z n0 h L) (hi : L[i]? = some (a, P)) (W : Wr h h' a sl v) (hP : ∀ c : Cell, h[a]? = some c → P Z c → P' Z (c.setSlot sl v)) : Rep Z n0 h' (L.set i (a, P')) := by
  have em : (L.set i (a, P')).map (·.1) = L.map (·.1) := by
    rw [List.map_set]
    apply List.ext_getElem?
    intro k
    rw [List.getElem?_set]
    split
    · rename_i e; subst e
      split
      · simp [hi]
      · rename_i e; simp only [List.length_map] at e; simp [List.getElem?_eq_none (Nat.le_of_not_lt e)]
    · rfl
  have il : i < L.length := (List.getElem?_eq_some_iff.mp hi).1
  refine ⟨by rw [W.size]; exact R.1, by rw [em]; exact R.2.1, fun x hx => ?_⟩
  obtain ⟨k, hk⟩ := List.mem_iff_getElem?.mp hx
  rw [List.getElem?_set] at hk
  split at hk
  · rename_i e; subst e
    cases hk
    obtain ⟨g, c, hc, p⟩ := R.at hi
    obtain ⟨c', e1, -, -, -, -, -, e7⟩ := wr_at W hc
    exact ⟨g, c', e1, by rw [(e7 rfl).1]; exact hP c hc p⟩
  · rename_i e
    obtain ⟨g, c, hc, p⟩ := R.2.2 x (List.mem_of_getElem? hk)
    have ne : x.1 ≠ a := fun q => by
      refine e ((List.getElem?_inj (l := L.map (·.1)) (by simpa using il) R.2.1).mp ?_)
      simp [hi, hk, q]
    obtain ⟨c', e1, -, -, -, e5, -⟩ := wr_at W hc
    exact ⟨g, c', e1, by rw [e5 ne]; exact p⟩
theorem Rep.put (R : Rep Z n0 h L) (hi : L[i]? = some (a, Obj C fs)) (hj : fs[j]? = some (n, d, w)) (W : Wr h h' a (Jvm.RoadKit.slotOf Z C n d) v) : Rep Z n0 h' (L.set i (a, Obj C (fs.set j (n, d, v)))) := by
  refine R.upd hi W fun c hc ⟨E, F, S⟩ => ?_
  have W1 := wr_one hc W
  have jl : j < fs.length := (List.getElem?_eq_some_iff.mp hj).1
  have key : ∀ (k : Nat) (x : String × String × Value), (fs.set j (n, d, v))[k]? = some x → ∃ y, fs[k]? = some y ∧ y.1 = x.1 ∧ y.2.1 = x.2.1 ∧ (k ≠ j → y = x) ∧ (k = j → x = (n, d, v)) := by
    intro k x hk
    rw [List.getElem?_set] at hk
    split at hk
    · rename_i e; subst e
      have hx := (Option.some.inj hk).symm
      exact ⟨(n, d, w), hj, by rw [hx], by rw [hx], fun q => absurd rfl q, fun _ => hx⟩
    · rename_i e
      exact ⟨x, hk, rfl, rfl, fun _ => rfl, fun q => absurd q.symm e⟩
  refine ⟨E.wr W1, fun k x hk => ?_, fun k k' x y ne hk hk' => ?_⟩
  · obtain ⟨y, y1, y2, y3, y4, y5⟩ := key k x hk
    by_cases e : k = j
    · subst e
      have hx := y5 rfl
      rw [hx]
      exact (F _ _ hj).same W1
    · have hx := y4 e
      subst hx
      have s : Jvm.RoadKit.slotOf Z C y.1 y.2.1 ≠ Jvm.RoadKit.slotOf Z C n d := S k j y (n, d, w) e y1 hj
      exact Fld.other W1 (F k y y1) (Or.inr s)
  · have kx := key k x hk
    have ky := key k' y hk'
    obtain ⟨x', x1, x2, x3, _⟩ := kx
    obtain ⟨y', y1, y2, y3, _⟩ := ky
    have := S k k' x' y' ne x1 y1
    rw [x2, x3, y2, y3] at this
    exact this
theorem Rep.sto {k : Nat} (R : Rep Z n0 h L) (hi : L[i]? = some (a, Ar ty vs)) (W : Wr h h' a k v) (hf : fits ty v = true) : Rep Z n0 h' (L.set i (a, Ar ty (vs.set k v))) := by
  refine R.upd hi W fun c hc ⟨A, B, V, F, E⟩ => ⟨A, B, ?_, fun x hx => ?_, E.wr (wr_one hc W)⟩
  · show (c.slots.setIfInBounds k v).toList = _
    rw [Array.toList_setIfInBounds, V]
  · rcases List.mem_or_eq_of_mem_set hx with q | q
    · exact F x q
    · rw [q]; exact hf
theorem Rep.add (R : Rep Z n0 h L) (E : Ext h h') (g : a = h.size) (hc : h'[a]? = some c) (p : P Z c) : Rep Z n0 h' ((a, P) :: L) := by
  refine ⟨Nat.le_trans R.1 E.1, ?_, fun x hx => ?_⟩
  · rw [List.map_cons, List.nodup_cons]
    refine ⟨fun q => ?_, R.2.1⟩
    obtain ⟨x, hx, e⟩ := List.mem_map.mp q
    obtain ⟨-, c, hc, -⟩ := R.2.2 x hx
    have := (Array.getElem?_eq_some_iff.mp hc).1
    exact absurd (e.trans g) (Nat.ne_of_lt this)
  · rcases List.mem_cons.mp hx with rfl | hx
    · exact ⟨g ▸ R.1, c, hc, p⟩
    · obtain ⟨q, c, hc, p⟩ := R.2.2 x hx
      exact ⟨q, c, E.2 _ _ hc, p⟩
theorem Rep.ext (R : Rep Z n0 h L) (E : Ext h h') : Rep Z n0 h' L := ⟨Nat.le_trans R.1 E.1, R.2.1, fun x hx => by
  obtain ⟨q, c, hc, p⟩ := R.2.2 x hx
  exact ⟨q, c, E.2 _ _ hc, p⟩⟩
theorem perm_front {α : Type} : ∀ (L : List α) (i : Nat) (x : α), L[i]? = some x → (x :: L.eraseIdx i).Perm L
  | [], _, _, q => nomatch q
  | y :: t, 0, x, q => by cases q; exact List.Perm.refl _
  | y :: t, i + 1, x, q => by
    have ih := perm_front t i x (by simpa using q)
    exact (List.Perm.swap y x (t.eraseIdx i)).trans (ih.cons y)
theorem Rep.front {x : Addr × Des} {L' : RL} (R : Rep Z n0 h L) (i : Nat) (hi : L[i]? = some x) (e : L.eraseIdx i = L') : Rep Z n0 h (x :: L') := by
  subst e
  have pm : (x :: L.eraseIdx i).Perm L := perm_front L i x hi
  exact ⟨R.1, (pm.map _).nodup_iff.mpr R.2.1, fun y hy => R.2.2 y (pm.mem_iff.mp hy)⟩
theorem Rep.tail {x : Addr × Des} (R : Rep Z n0 h (x :: L)) : Rep Z n0 h L := ⟨R.1, (List.nodup_cons.mp (by simpa using R.2.1)).2, fun y hy => R.2.2 y (List.mem_cons_of_mem _ hy)⟩
/-- what the sheet says of the fields of a new object, one by one -/
def LaidAll (Z : State) (a0 : Array Value) (C : String) : List (String × String × Value) → Prop
  | [] => True
  | x :: r => (Laid Z a0 C C x.1 x.2.1 ∧ ∃ ty, parseFieldDescriptor x.2.1 = some ty ∧ x.2.2 = defaultValue ty) ∧ LaidAll Z a0 C r
theorem LaidAll.mem {a0 : Array Value} : ∀ {fs : List (String × String × Value)}, LaidAll Z a0 C fs → ∀ x ∈ fs, Laid Z a0 C C x.1 x.2.1 ∧ ∃ ty, parseFieldDescriptor x.2.1 = some ty ∧ x.2.2 = defaultValue ty
  | [], _, _, hx => nomatch hx
  | y :: r, q, x, hx => (List.mem_cons.mp hx).elim (fun e => e ▸ q.1) (LaidAll.mem q.2 x)
theorem Rep.newO {a0 : Array Value} (R : Rep Z n0 h L) (E : Ext h h') (g : a = h.size) (A : Exa Z h' a C) (D : ∀ {O nm d : String} {ty : FieldType}, Laid Z a0 C O nm d → parseFieldDescriptor d = some ty → Fld Z h' a O nm d (defaultValue ty)) (hl : LaidAll Z a0 C fs) (hn : (fs.map (·.1)).Nodup) : Rep Z n0 h' ((a, Obj C fs) :: L) := by
  obtain ⟨c, k, hc, r⟩ := id A
  refine R.add E g hc ⟨exa_to hc A, fun j x hx => ?_, fun i j x y ne hx hy e => ?_⟩
  · obtain ⟨l, ty, p, q⟩ := hl.mem x (List.mem_of_getElem? hx)
    rw [q]; exact fld_to hc (D l p)
  · obtain ⟨l, ty, p, q⟩ := hl.mem x (List.mem_of_getElem? hx)
    obtain ⟨l', ty', p', q'⟩ := hl.mem y (List.mem_of_getElem? hy)
    refine slot_ne l l' (fun en => ne ?_) p p' e
    refine (List.getElem?_inj (l := fs.map (·.1)) (by simpa using (List.getElem?_eq_some_iff.mp hx).1) hn).mp ?_
    simp [hx, hy, en]
theorem Rep.newAr {z : Int32} {k : ClassId} (R : Rep Z n0 h L) (E : Ext h h') (g : a = h.size) (A : Arr Z h' a (newA k ty z) ty) (X : Exa Z h' a ("[" ++ ty.toString)) (hf : fits ty (defaultValue ty) = true) (hv : List.replicate z.toNatClampNeg (defaultValue ty) = vs) : Rep Z n0 h' ((a, Ar ty vs) :: L) := by
  refine R.add E g A.1 ⟨A.2.1, A.2.2, ?_, fun v hq => ?_, exa_to A.1 X⟩
  · rw [← hv]; simp [newA]
  · rw [← hv] at hq; rw [List.eq_of_mem_replicate hq]; exact hf
theorem in_of {cl : Cell} {q : Int32} (V : cl.slots.toList = vs) (hq : ¬ q < 0) (hv : q.toNatClampNeg < vs.length) : ¬ (q < 0 ∨ cl.slots.size ≤ q.toNatClampNeg) := by
  rintro (q1 | q1)
  · exact hq q1
  · rw [← V, Array.length_toList] at hv; omega
theorem at_of {cl : Cell} {k : Nat} (V : cl.slots.toList = vs) (hv : vs[k]? = some v) : cl.slots[k]? = some v := by
  rw [← hv, ← V, Array.getElem?_toList]
theorem lt_of {k : Nat} (hv : vs[k]? = some v) : k < vs.length := (List.getElem?_eq_some_iff.mp hv).1
end Facts
/-! ## One law a step -/
section Steps
variable {p : Program} {l : Launch} {e : Env} {R : Room} {s : State} {m : MethodId} {args : Array Value} {below : List Frame} {meth : Method} {c : Code} {T : State} {locs : List Loc} {cells slots : Nat} {Z : State} {a0 : Array Value} {h : Heap} {n0 : Nat} {L : RL}
theorem gGet (X : Stand p l e R s m args below meth c T locs cells slots) (hx : p.tables.exec = Jvm.exec) (hZ : Z.Warmed39 s.vm) {own C n d host : String} {index : Nat} (hown : s.vm.findClass own = some m.cls) (w : (Cond.fieldLink own index C n d).before a0 Z = true ∨ (Cond.fieldLinkNest own index C n d host).before a0 Z = true)
    (eT : T.heap = h) (Q : Rep Z n0 h L) (i j : Nat) {a : Addr} {fs : List (String × String × Value)} {v : Value} (hi : L[i]? = some (a, Obj C fs)) (hj : fs[j]? = some (n, d, v)) {g : JFrame} (hg : g.method = m) {rest : List Value} (hs : g.stack = .ref a :: rest) (hd : decode c.code g.pc = .ok (.getfield index, 3)) :
    ∃ T', Stand p l e R s m args below meth c T' locs cells slots ∧ T'.heap = h ∧ ∀ target, Steps p.tables e below (T'.setTop { g with pc := g.pc + 3, stack := v :: rest }) target → Steps p.tables e below (T.setTop g) target :=
  getF X hx hZ hown w Via.refl eT (Q.fld hi hj) hg hs hd
theorem gPut (X : Stand p l e R s m args below meth c T locs cells slots) (hx : p.tables.exec = Jvm.exec) (hZ : Z.Warmed39 s.vm) {own C n d host : String} {index kk : Nat} {ty : FieldType} (hown : s.vm.findClass own = some m.cls) (w : (Cond.fieldLink own index C n d).before a0 Z = true ∨ (Cond.fieldLinkNest own index C n d host).before a0 Z = true)
    (eT : T.heap = h) (N : Fr n0 locs) (Q : Rep Z n0 h L) (i j : Nat) {a : Addr} {fs : List (String × String × Value)} {v old : Value} (hi : L[i]? = some (a, Obj C fs)) (hj : fs[j]? = some (n, d, old))
    (Lw : (Cond.lays C C n d).before a0 Z = true ∨ ((Cond.laysFinal C C n d).before a0 Z = true ∧ own = C ∧ meth.name = "<init>")) (wi : (Cond.instantiable C kk).before a0 Z = true)
    (hty : parseFieldDescriptor d = some ty) (hn : narrow ty v = v) (hf : fits ty v = true) {g : JFrame} (hg : g.method = m) {rest : List Value} (hs : g.stack = v :: .ref a :: rest) (hd : decode c.code g.pc = .ok (.putfield index, 3)) :
    ∃ T' h' locs', Stand p l e R s m args below meth c T' locs' cells slots ∧ T'.heap = h' ∧ Fr n0 locs' ∧ Rep Z n0 h' (L.set i (a, Obj C (fs.set j (n, d, v)))) ∧ ∀ target, Steps p.tables e below (T'.setTop { g with pc := g.pc + 3, stack := rest }) target → Steps p.tables e below (T.setTop g) target := by
  obtain ⟨T', h', X', e', W, st⟩ := putF X hx hZ hown w Via.refl eT (Q.fld hi hj) (Q.exa hi) Lw wi hty hn hf hg hs hd
  exact ⟨T', h', _, X', e', Fr.snoc X' N (Q.ge hi), Q.put hi hj W, st⟩
theorem gNew (X : Stand p l e R s m args below meth c T locs cells slots) (hx : p.tables.exec = Jvm.exec) (hZ : Z.Warmed39 s.vm) {own C : String} {index n : Nat} (hown : s.vm.findClass own = some m.cls) (w : (Cond.classLink own index C).before a0 Z = true) (wi : (Cond.instantiable C n).before a0 Z = true) (wz : (Cond.initialized C).before a0 Z = true)
    (eT : T.heap = h) (Q : Rep Z n0 h L) {fs : List (String × String × Value)} (hl : LaidAll Z a0 C fs) (hn : (fs.map (·.1)).Nodup) {g : JFrame} (hg : g.method = m) (hd : decode c.code g.pc = .ok (.new index, 3)) (hc : cells + 1 ≤ R.cells) (hs : slots + n ≤ R.slots) :
    ∃ T' h' a, Stand p l e R s m args below meth c T' locs (cells + 1) (slots + n) ∧ T'.heap = h' ∧ Rep Z n0 h' ((a, Obj C fs) :: L) ∧ ∀ target, Steps p.tables e below (T'.setTop { g with pc := g.pc + 3, stack := .ref a :: g.stack }) target → Steps p.tables e below (T.setTop g) target := by
  obtain ⟨T', h', X', e', E, A, D, -, st⟩ := newO X hx hZ hown w wi wz eT hg hd hc hs
  exact ⟨T', h', _, X', e', Q.newO E rfl A D hl hn, st⟩
theorem gNewP (X : Stand p l e R s m args below meth c T locs cells slots) (hx : p.tables.exec = Jvm.exec) (hZ : Z.Warmed39 s.vm) {aty : ArrayType} (w : (Cond.arrayClass (newarray.typeOf aty)).before a0 Z = true)
    (eT : T.heap = h) (Q : Rep Z n0 h L) {g : JFrame} (hg : g.method = m) (hd : decode c.code g.pc = .ok (.newarray aty, 2)) {n : Int32} {rest : List Value} (hs : g.stack = .int n :: rest) (hn : ¬ n < 0) (cap : Nat) (hcap : n.toNatClampNeg ≤ cap) (hb : cap * 8 ≤ 536870912) (hc : cells + 1 ≤ R.cells) (hl : slots + cap ≤ R.slots)
    {vs : List Value} (hv : List.replicate n.toNatClampNeg (defaultValue (newarray.typeOf aty)) = vs) :
    ∃ T' h' a, Stand p l e R s m args below meth c T' locs (cells + 1) (slots + cap) ∧ T'.heap = h' ∧ Rep Z n0 h' ((a, Ar (newarray.typeOf aty) vs) :: L) ∧ ∀ target, Steps p.tables e below (T'.setTop { g with pc := g.pc + 2, stack := .ref a :: rest }) target → Steps p.tables e below (T.setTop g) target := by
  obtain ⟨T', h', cA, X', e', E, A, EX, st⟩ := newPE X hx hZ w eT hg hd hs hn hcap hb hc hl rfl
  exact ⟨T', h', _, X', e', Q.newAr E rfl A EX (by cases aty <;> rfl) hv, st⟩
theorem gLen (X : Stand p l e R s m args below meth c T locs cells slots) (hx : p.tables.exec = Jvm.exec) (hZ : Z.Warmed39 s.vm) (eT : T.heap = h) (Q : Rep Z n0 h L) (i : Nat) {a : Addr} {ty : FieldType} {vs : List Value} (hi : L[i]? = some (a, Ar ty vs))
    {g : JFrame} (hg : g.method = m) {rest : List Value} (hs : g.stack = .ref a :: rest) (hd : decode c.code g.pc = .ok (.arraylength, 1)) {z : Int32} (hz : Int32.ofNat vs.length = z) :
    ∀ target, Steps p.tables e below (T.setTop { g with pc := g.pc + 1, stack := .int z :: rest }) target → Steps p.tables e below (T.setTop g) target := by
  obtain ⟨cl, A, V⟩ := Q.arr hi
  intro target k
  refine X.arraylength hx (cell := cl) (by rw [eT]; exact A.1) (State.isArrayOf_alike hZ.alike A.2.1) hg hs hd _ ?_
  have q : cl.slots.size.toInt32 = z := by rw [← hz, ← V, Array.length_toList]
  rw [q]; exact k
theorem gIald (X : Stand p l e R s m args below meth c T locs cells slots) (hx : p.tables.exec = Jvm.exec) (hZ : Z.Warmed39 s.vm) (eT : T.heap = h) (Q : Rep Z n0 h L) (i : Nat) {a : Addr} {vs : List Value} (hi : L[i]? = some (a, Ar .int vs))
    {j : Int32} {v : Value} (hj : ¬ j < 0) (hv : vs[j.toNatClampNeg]? = some v) {g : JFrame} (hg : g.method = m) {rest : List Value} (hs : g.stack = .int j :: .ref a :: rest) (hd : decode c.code g.pc = .ok (.iaload, 1)) :
    ∀ target, Steps p.tables e below (T.setTop { g with pc := g.pc + 1, stack := v :: rest }) target → Steps p.tables e below (T.setTop g) target := by
  obtain ⟨cl, A, V⟩ := Q.arr hi
  intro target k
  exact X.iaload hx (by rw [eT]; exact A.1) (State.isArrayOf_alike hZ.alike A.2.1) A.2.2 (in_of V hj (lt_of hv)) (at_of V hv) hg hs hd _ k
theorem gLald (X : Stand p l e R s m args below meth c T locs cells slots) (hx : p.tables.exec = Jvm.exec) (hZ : Z.Warmed39 s.vm) (eT : T.heap = h) (Q : Rep Z n0 h L) (i : Nat) {a : Addr} {vs : List Value} (hi : L[i]? = some (a, Ar .long vs))
    {j : Int32} {v : Value} (hj : ¬ j < 0) (hv : vs[j.toNatClampNeg]? = some v) {g : JFrame} (hg : g.method = m) {rest : List Value} (hs : g.stack = .int j :: .ref a :: rest) (hd : decode c.code g.pc = .ok (.laload, 1)) :
    ∀ target, Steps p.tables e below (T.setTop { g with pc := g.pc + 1, stack := v :: rest }) target → Steps p.tables e below (T.setTop g) target := by
  obtain ⟨cl, A, V⟩ := Q.arr hi
  intro target k
  exact X.laload hx (by rw [eT]; exact A.1) (State.isArrayOf_alike hZ.alike A.2.1) A.2.2 (in_of V hj (lt_of hv)) (at_of V hv) hg hs hd _ k
theorem gBald (X : Stand p l e R s m args below meth c T locs cells slots) (hx : p.tables.exec = Jvm.exec) (hZ : Z.Warmed39 s.vm) (eT : T.heap = h) (Q : Rep Z n0 h L) (i : Nat) {a : Addr} {vs : List Value} (hi : L[i]? = some (a, Ar .byte vs))
    {j : Int32} {v : Value} (hj : ¬ j < 0) (hv : vs[j.toNatClampNeg]? = some v) {g : JFrame} (hg : g.method = m) {rest : List Value} (hs : g.stack = .int j :: .ref a :: rest) (hd : decode c.code g.pc = .ok (.baload, 1)) :
    ∀ target, Steps p.tables e below (T.setTop { g with pc := g.pc + 1, stack := v :: rest }) target → Steps p.tables e below (T.setTop g) target := by
  obtain ⟨cl, A, V⟩ := Q.arr hi
  intro target k
  exact X.baloadBytes hx (by rw [eT]; exact A.1) (State.isArrayOf_alike hZ.alike A.2.1) A.2.2 (in_of V hj (lt_of hv)) (at_of V hv) hg hs hd _ k
theorem gIst (X : Stand p l e R s m args below meth c T locs cells slots) (hx : p.tables.exec = Jvm.exec) (hZ : Z.Warmed39 s.vm) (eT : T.heap = h) (N : Fr n0 locs) (Q : Rep Z n0 h L) (i : Nat) {a : Addr} {vs : List Value} (hi : L[i]? = some (a, Ar .int vs))
    {j x : Int32} (hj : ¬ j < 0) (k : Nat) (hk : j.toNatClampNeg = k) (hv : k < vs.length) {g : JFrame} (hg : g.method = m) {rest : List Value} (hs : g.stack = .int x :: .int j :: .ref a :: rest) (hd : decode c.code g.pc = .ok (.iastore, 1)) :
    ∃ T' h' locs', Stand p l e R s m args below meth c T' locs' cells slots ∧ T'.heap = h' ∧ Fr n0 locs' ∧ Rep Z n0 h' (L.set i (a, Ar .int (vs.set k (.int x)))) ∧ ∀ target, Steps p.tables e below (T'.setTop { g with pc := g.pc + 1, stack := rest }) target → Steps p.tables e below (T.setTop g) target := by
  obtain ⟨cl, A, V⟩ := Q.arr hi
  subst hk
  obtain ⟨T', h', X', e', W, st⟩ := stI X hx hZ eT A (j := j) (x := x) (in_of V hj hv) hg hs hd
  exact ⟨T', h', _, X', e', Fr.snoc X' N (Q.ge hi), Q.sto hi W rfl, st⟩
theorem gLst (X : Stand p l e R s m args below meth c T locs cells slots) (hx : p.tables.exec = Jvm.exec) (hZ : Z.Warmed39 s.vm) (eT : T.heap = h) (N : Fr n0 locs) (Q : Rep Z n0 h L) (i : Nat) {a : Addr} {vs : List Value} (hi : L[i]? = some (a, Ar .long vs))
    {j : Int32} {x : Int64} (hj : ¬ j < 0) (k : Nat) (hk : j.toNatClampNeg = k) (hv : k < vs.length) {g : JFrame} (hg : g.method = m) {rest : List Value} (hs : g.stack = .long x :: .int j :: .ref a :: rest) (hd : decode c.code g.pc = .ok (.lastore, 1)) :
    ∃ T' h' locs', Stand p l e R s m args below meth c T' locs' cells slots ∧ T'.heap = h' ∧ Fr n0 locs' ∧ Rep Z n0 h' (L.set i (a, Ar .long (vs.set k (.long x)))) ∧ ∀ target, Steps p.tables e below (T'.setTop { g with pc := g.pc + 1, stack := rest }) target → Steps p.tables e below (T.setTop g) target := by
  obtain ⟨cl, A, V⟩ := Q.arr hi
  subst hk
  obtain ⟨T', h', X', e', W, st⟩ := stJ X hx hZ eT A (j := j) (x := x) (in_of V hj hv) hg hs hd
  exact ⟨T', h', _, X', e', Fr.snoc X' N (Q.ge hi), Q.sto hi W rfl, st⟩
theorem gBst (X : Stand p l e R s m args below meth c T locs cells slots) (hx : p.tables.exec = Jvm.exec) (hZ : Z.Warmed39 s.vm) (eT : T.heap = h) (N : Fr n0 locs) (Q : Rep Z n0 h L) (i : Nat) {a : Addr} {vs : List Value} (hi : L[i]? = some (a, Ar .byte vs))
    {j x : Int32} (hj : ¬ j < 0) (k : Nat) (hk : j.toNatClampNeg = k) (hv : k < vs.length) {g : JFrame} (hg : g.method = m) {rest : List Value} (hs : g.stack = .int x :: .int j :: .ref a :: rest) (hd : decode c.code g.pc = .ok (.bastore, 1)) :
    ∃ T' h' locs', Stand p l e R s m args below meth c T' locs' cells slots ∧ T'.heap = h' ∧ Fr n0 locs' ∧ Rep Z n0 h' (L.set i (a, Ar .byte (vs.set k (.int x.toInt8.toInt32)))) ∧ ∀ target, Steps p.tables e below (T'.setTop { g with pc := g.pc + 1, stack := rest }) target → Steps p.tables e below (T.setTop g) target := by
  obtain ⟨cl, A, V⟩ := Q.arr hi
  subst hk
  obtain ⟨T', h', X', e', W, st⟩ := stB X hx hZ eT A (j := j) (x := x) (in_of V hj hv) hg hs hd
  exact ⟨T', h', _, X', e', Fr.snoc X' N (Q.ge hi), Q.sto hi W (fits_nar_byte x), st⟩
theorem gClone (X : Stand p l e R s m args below meth c T locs cells slots) (hx : p.tables.exec = Jvm.exec) (hZ : Z.Warmed39 s.vm) {own ad : String} {index : Nat} (hown : s.vm.findClass own = some m.cls)
    (w1 : (Cond.methodLink own index ⟨ad, "clone", "()Ljava/lang/Object;"⟩).before a0 Z = true) (w2 : (Cond.sameMethod ad "java/lang/Object" "clone" "()Ljava/lang/Object;").before a0 Z = true) (w3 : (Cond.native ⟨"java/lang/Object", "clone", "()Ljava/lang/Object;"⟩).before a0 Z = true)
    (w4 : (Cond.instanceMethod ⟨"java/lang/Object", "clone", "()Ljava/lang/Object;"⟩).before a0 Z = true) (w5 : (Cond.selects ad ⟨ad, "clone", "()Ljava/lang/Object;"⟩ ⟨"java/lang/Object", "clone", "()Ljava/lang/Object;"⟩).before a0 Z = true) (w6 : (Cond.castable ad "java/lang/Cloneable").before a0 Z = true)
    (eT : T.heap = h) (Q : Rep Z n0 h L) (i : Nat) {a : Addr} {ty : FieldType} {vs : List Value} (hi : L[i]? = some (a, Ar ty vs)) (had : "[" ++ ty.toString = ad) {g : JFrame} (hg : g.method = m) (hsize : g.locals.size = c.maxLocals) {rest : List Value} (hs : g.stack = .ref a :: rest) (hd : decode c.code g.pc = .ok (.invokevirtual index, 3))
    (hf : 1 ≤ R.frames) {W : Nat} (cap : Nat) (hW : 2 * g.monitorRoom + (rest.map fun v => v.category).sum ≤ W) (hl : W + 14 ≤ R.locals) (hcap : vs.length ≤ cap) (hc : cells + 1 ≤ R.cells) (hsl : slots + cap ≤ R.slots) :
    ∃ T' h' b, Stand p l e R s m args below meth c T' locs (cells + 1) (slots + cap) ∧ T'.heap = h' ∧ Rep Z n0 h' ((b, Ar ty vs) :: L) ∧ Exa Z h' b ad ∧
      ∀ target, Steps p.tables e below (T'.setTop { g with pc := g.pc + 3, stack := .ref b :: rest }) target → Steps p.tables e below (T.setTop g) target := by
  subst had
  obtain ⟨cl, A, V, F, E⟩ := Q.arr' hi
  have FC : FitC Z cl := fitC_of A fun k hk v hv => F v (by rw [← V]; exact Array.mem_toList_iff.mpr (Array.mem_of_getElem? hv))
  obtain ⟨T', h', X', e', ex, A', E', st⟩ := cloneA X hx hZ hown w1 w2 w3 w4 w5 w6 eT A E FC hg hsize hs hd hf hW hl (by rw [← V, Array.length_toList] at hcap; exact hcap) hc hsl
  exact ⟨T', h', _, X', e', Q.add ex rfl A'.1 ⟨A'.2.1, A'.2.2, V, F, exa_to A'.1 E'⟩, E', st⟩
theorem gCast (X : Stand p l e R s m args below meth c T locs cells slots) (hx : p.tables.exec = Jvm.exec) (hZ : Z.Warmed39 s.vm) {own K : String} {index : Nat} (hown : s.vm.findClass own = some m.cls) (w : (Cond.classLink own index K).before a0 Z = true) (eT : T.heap = h) {a : Addr} (E : Exa Z h a K)
    {g : JFrame} (hg : g.method = m) {rest : List Value} (hs : g.stack = .ref a :: rest) (hd : decode c.code g.pc = .ok (.checkcast index, 3)) : ∃ T', Stand p l e R s m args below meth c T' locs cells slots ∧ T'.heap = h ∧ ∀ target, Steps p.tables e below (T'.setTop { g with pc := g.pc + 3 }) target → Steps p.tables e below (T.setTop g) target :=
  castY X hx hZ hown w eT (Ins.self E) hg hs hd
theorem arv_of {a : Addr} {ty : FieldType} {vs : List Value} {dv : Value} {cl : Cell} (A : Arr Z h a cl ty) (V : cl.slots.toList = vs) (F : ∀ v ∈ vs, fits ty v = true) (hl : vs.length < 2 ^ 31) : Arv Z h a cl.cls ty (Int32.ofNat vs.length) vs dv := by
  have q : (Int32.ofNat vs.length).toNatClampNeg = vs.length := by
    rw [Int32.toNatClampNeg, Int32.toInt_ofNat_of_lt hl]; rfl
  have S : cl.slots.size = vs.length := by rw [← V, Array.length_toList]
  have G : ∀ k, k < cl.slots.size → cl.slots[k]? = some (vs.getD k dv) := fun k hk => by
    rw [← Array.getElem?_toList, V, List.getD_eq_getElem?_getD, List.getElem?_eq_getElem (by omega)]; rfl
  refine ⟨cl, A, rfl, by rw [q, S], ?_, G, fun k hk => ?_⟩
  · rw [Int32.lt_iff_toInt_lt, Int32.toInt_ofNat_of_lt hl, show (0 : Int32).toInt = 0 from rfl]; omega
  · rw [List.getD_eq_getElem?_getD, List.getElem?_eq_getElem (by omega)]
    exact F _ (List.getElem_mem _)
theorem Rep.kept {h' : Heap} {i : Nat} {b : Addr} {P P' : Des} {cb : Cell} (Q : Rep Z n0 h L) (hi : L[i]? = some (b, P)) (K : Keep h h' [b]) (hc : h'[b]? = some cb) (p : P' Z cb) : Rep Z n0 h' (L.set i (b, P')) := by
  have em : (L.set i (b, P')).map (·.1) = L.map (·.1) := by
    rw [List.map_set]
    apply List.ext_getElem?
    intro k
    rw [List.getElem?_set]
    split
    · rename_i e; subst e
      split
      · simp [hi]
      · rename_i e; simp only [List.length_map] at e; simp [List.getElem?_eq_none (Nat.le_of_not_lt e)]
    · rfl
  have il : i < L.length := (List.getElem?_eq_some_iff.mp hi).1
  refine ⟨Nat.le_trans Q.1 K.1, by rw [em]; exact Q.2.1, fun x hx => ?_⟩
  obtain ⟨k, hk⟩ := List.mem_iff_getElem?.mp hx
  rw [List.getElem?_set] at hk
  split at hk
  · rename_i e; subst e
    cases hk
    exact ⟨Q.ge hi, cb, hc, p⟩
  · rename_i e
    obtain ⟨g, c, hc', p'⟩ := Q.2.2 x (List.mem_of_getElem? hk)
    have ne : x.1 ≠ b := fun q => by
      refine e ((List.getElem?_inj (l := L.map (·.1)) (by simpa using il) Q.2.1).mp ?_)
      simp [hi, hk, q]
    exact ⟨g, c, K.2.1 _ _ hc' (by simpa using ne), p'⟩
theorem gCopy (X : Stand p l e R s m args below meth c T locs cells slots) (hx : p.tables.exec = Jvm.exec) (hZ : Z.Warmed39 s.vm) {own : String} {index : Nat} (hown : s.vm.findClass own = some m.cls)
    (w1 : (Cond.methodLink own index Jvm.Stand.acN).before a0 Z = true) (w2 : (Cond.native Jvm.Stand.acN).before a0 Z = true) (w3 : (Cond.static Jvm.Stand.acN).before a0 Z = true) (w4 : (Cond.initialized "java/lang/System").before a0 Z = true) (eT : T.heap = h) (N : Fr n0 locs) (Q : Rep Z n0 h L) (i j : Nat)
    {a b : Addr} {ty : FieldType} {vs vd : List Value} (hi : L[i]? = some (a, Ar ty vs)) (hj : L[j]? = some (b, Ar ty vd)) (hty : refKind ty = false) (l1 : vs.length < 2 ^ 31) (l2 : vd.length < 2 ^ 31) {sp dp nn : Int32} (h1 : ¬ sp < 0) (h2 : ¬ dp < 0) (h3 : ¬ nn < 0) (si di ni : Nat) (es : sp.toNatClampNeg = si) (ed : dp.toNatClampNeg = di) (en : nn.toNatClampNeg = ni)
    (h4 : si + ni ≤ vs.length) (h5 : di + ni ≤ vd.length)
    {g : JFrame} (hg : g.method = m) (hsize : g.locals.size = c.maxLocals) {rest : List Value} (hs : g.stack = .int nn :: .int dp :: .ref b :: .int sp :: .ref a :: rest) (hd : decode c.code g.pc = .ok (.invokestatic index, 3))
    (hf : 1 ≤ R.frames) {W : Nat} (hW : 2 * g.monitorRoom + (rest.map fun v => v.category).sum ≤ W) (hlo : W + (nativeFrameWords "java/lang/System" "arraycopy" 5 + 11) ≤ R.locals) :
    ∃ T' h' L', Stand p l e R s m args below meth c T' L' cells slots ∧ T'.heap = h' ∧ Fr n0 L' ∧ Rep Z n0 h' (L.set j (b, Ar ty (vd.take di ++ (vs.drop si).take ni ++ vd.drop (di + ni)))) ∧
      ∀ target, Steps p.tables e below (T'.setTop { g with pc := g.pc + 3, stack := rest }) target → Steps p.tables e below (T.setTop g) target := by
  subst es ed en
  obtain ⟨ca, A, Va, Fa, Ea⟩ := Q.arr' hi
  obtain ⟨cb, B, Vb, Fb, Eb⟩ := Q.arr' hj
  have za : (Int32.ofNat vs.length).toNatClampNeg = vs.length := by rw [Int32.toNatClampNeg, Int32.toInt_ofNat_of_lt l1]; rfl
  have zb : (Int32.ofNat vd.length).toNatClampNeg = vd.length := by rw [Int32.toNatClampNeg, Int32.toInt_ofNat_of_lt l2]; rfl
  have hus : (vs.drop sp.toNatClampNeg).take nn.toNatClampNeg = (List.range nn.toNatClampNeg).map fun k => vs.getD (sp.toNatClampNeg + k) .null := by
    apply List.ext_getElem?
    intro k
    rw [List.getElem?_take, List.getElem?_drop, List.getElem?_map]
    by_cases q : k < nn.toNatClampNeg
    · rw [if_pos q, List.getElem?_range q, List.getElem?_eq_getElem (by omega)]
      simp [List.getD_eq_getElem?_getD, List.getElem?_eq_getElem (show sp.toNatClampNeg + k < vs.length by omega)]
    · rw [if_neg q, List.getElem?_eq_none (by simpa using q)]; rfl
  obtain ⟨T', h', L', X', e', N', K, ⟨c', A', -, S', -, H', G'⟩, st⟩ := cpA X hx hZ hown w1 w2 w3 w4 eT (arv_of (dv := .null) A Va Fa l1) (arv_of (dv := .null) B Vb Fb l2) (Or.inl ⟨rfl, hty⟩) h1 h2 h3 (by rw [za]; exact h4) (by rw [zb]; exact h5) hus h5 N (Q.ge hj) hg hsize hs hd hf hW hlo
  refine ⟨T', h', L', X', e', N', Q.kept hj K A'.1 ⟨A'.2.1, A'.2.2, ?_, fun v hv => ?_, exa_to A'.1 (Eb.keep K)⟩, st⟩
  · apply List.ext_getElem?
    intro k
    rw [Array.getElem?_toList]
    by_cases q : k < c'.slots.size
    · rw [H' k q, List.getD_eq_getElem?_getD, List.getElem?_eq_getElem]
      · rfl
      · rw [S', zb] at q; simp only [List.length_append, List.length_take, List.length_drop]; omega
    · rw [Array.getElem?_eq_none (by omega), List.getElem?_eq_none]
      rw [S', zb] at q; simp only [List.length_append, List.length_take, List.length_drop]; omega
  · rcases List.mem_append.mp hv with hv | hv
    · rcases List.mem_append.mp hv with hv | hv
      · exact Fb v (List.mem_of_mem_take hv)
      · exact Fa v (List.mem_of_mem_drop (List.mem_of_mem_take hv))
    · exact Fb v (List.mem_of_mem_drop hv)
theorem gMono (X : Stand p l e R s m args below meth c T locs cells slots) {cells' slots' : Nat} (h1 : cells ≤ cells') (h2 : slots ≤ slots') : Stand p l e R s m args below meth c T locs cells' slots' := { X with same := X.same.mono h1 h2 }
theorem retI (X : Stand p l e R s m args below meth c T locs cells slots) (hx : p.tables.exec = Jvm.exec) {pc : Nat} {Ls : Array Slot} {z : Int32} {rest : List Value} (hret : meth.sig.returnType = some .int) (hd : decode c.code pc = .ok (.ireturn, 1)) {fs : List Frame}
    (hl : ∀ (f : JFrame) (acts : List Action), f.method = m → f.locked = none → f.entered = [] → (doReturn e (T.setTop f) acts (some (.int z))).1 = T.setFrames fs) : Steps p.tables e below (T.setTop (mkF m pc Ls (.int z :: rest))) (T.setFrames fs) := by
  have hm' : T.vm.method? m = some meth := X.method'
  have hn : narrow .int (.int z) = .int z := rfl
  show Steps p.tables e below (T.setTop { method := m, pc := pc, locals := Ls, stack := _ :: rest, locked := none }) _
  jvm_step X.here [X.here.top, hx, hd, hm', hret, hn]
  first | (intro acts; rw [hl _ acts rfl rfl rfl]) | rw [hl _ _ rfl rfl rfl]
  exact Steps.refl _
theorem retL (X : Stand p l e R s m args below meth c T locs cells slots) (hx : p.tables.exec = Jvm.exec) {pc : Nat} {Ls : Array Slot} {z : Int64} {rest : List Value} (hret : meth.sig.returnType = some .long) (hd : decode c.code pc = .ok (.lreturn, 1)) {fs : List Frame}
    (hl : ∀ (f : JFrame) (acts : List Action), f.method = m → f.locked = none → f.entered = [] → (doReturn e (T.setTop f) acts (some (.long z))).1 = T.setFrames fs) : Steps p.tables e below (T.setTop (mkF m pc Ls (.long z :: rest))) (T.setFrames fs) := by
  have hm' : T.vm.method? m = some meth := X.method'
  have hn : narrow .long (.long z) = .long z := rfl
  show Steps p.tables e below (T.setTop { method := m, pc := pc, locals := Ls, stack := _ :: rest, locked := none }) _
  jvm_step X.here [X.here.top, hx, hd, hm', hret, hn]
  first | (intro acts; rw [hl _ acts rfl rfl rfl]) | rw [hl _ _ rfl rfl rfl]
  exact Steps.refl _
theorem retA (X : Stand p l e R s m args below meth c T locs cells slots) (hx : p.tables.exec = Jvm.exec) {pc : Nat} {Ls : Array Slot} {a : Addr} {rest : List Value} {t : FieldType} (ht : t.isReference = true) (hret : meth.sig.returnType = some t) (hd : decode c.code pc = .ok (.areturn, 1)) {fs : List Frame}
    (hl : ∀ (f : JFrame) (acts : List Action), f.method = m → f.locked = none → f.entered = [] → (doReturn e (T.setTop f) acts (some (.ref a))).1 = T.setFrames fs) : Steps p.tables e below (T.setTop (mkF m pc Ls (.ref a :: rest))) (T.setFrames fs) := by
  have hm' : T.vm.method? m = some meth := X.method'
  show Steps p.tables e below (T.setTop { method := m, pc := pc, locals := Ls, stack := _ :: rest, locked := none }) _
  jvm_step X.here [X.here.top, hx, hd, hm', hret, ht, Value.isRef]
  first | (intro acts; rw [hl _ acts rfl rfl rfl]) | rw [hl _ _ rfl rfl rfl]
  exact Steps.refl _
end Steps
abbrev iushr (x y : Int32) : Int32 := (x.toUInt32 >>> (y &&& 31).toUInt32).toInt32
abbrev lushr (x : Int64) (y : Int32) : Int64 := (x.toUInt64 >>> (y &&& 0x3f).toInt64.toUInt64).toInt64
abbrev ishl (x y : Int32) : Int32 := x <<< (y &&& 31)
abbrev ishr (x y : Int32) : Int32 := x >>> (y &&& 31)
abbrev lshl (x : Int64) (y : Int32) : Int64 := x <<< (y &&& 0x3f).toInt64
abbrev lshr (x : Int64) (y : Int32) : Int64 := x >>> (y &&& 0x3f).toInt64
/-- a boolean told by a condition, as an int of the machine's -/
abbrev bz (P : Prop) [Decidable P] : Int32 := if P then 1 else 0
theorem nar_b (P : Prop) [Decidable P] : nar .boolean (bz P) = bz P := by unfold bz; split <;> rfl
theorem bz_t {P : Prop} [Decidable P] (h : P) : bz P = 1 := if_pos h
theorem bz_congr {P Q : Prop} [Decidable P] [Decidable Q] (h : P ↔ Q) : bz P = bz Q := by
  by_cases q : Q
  · rw [bz, bz, if_pos q, if_pos (h.mpr q)]
  · rw [bz, bz, if_neg q, if_neg (fun p => q (h.mp p))]
theorem bz_one {P : Prop} [Decidable P] (h : P ↔ True) : bz P = 1 := if_pos (h.mpr trivial)
theorem bz_zero {P : Prop} [Decidable P] (h : P ↔ False) : bz P = 0 := if_neg h.mp
theorem ow_bne_t {P : Prop} [Decidable P] (h : P) : ifCond.holds .ne (bz P) = true := by rw [if0, bz_t h]; decide
theorem ow_bne_f {P : Prop} [Decidable P] (h : ¬ P) : ifCond.holds .ne (bz P) = false := by rw [if0, bz, if_neg h]; decide
theorem ow_beq_t {P : Prop} [Decidable P] (h : ¬ P) : ifCond.holds .eq (bz P) = true := by rw [if0, bz, if_neg h]; decide
theorem ow_beq_f {P : Prop} [Decidable P] (h : P) : ifCond.holds .eq (bz P) = false := by rw [if0, bz_t h]; decide
theorem bz_f {P : Prop} [Decidable P] (h : ¬ P) : bz P = 0 := if_neg h
theorem ite_or_t {α : Type} {c d : Prop} [Decidable c] [Decidable d] {a y : α} (h : c) : (if c ∨ d then a else y) = a := if_pos (Or.inl h)
theorem ite_or_f {α : Type} {c d : Prop} [Decidable c] [Decidable d] {a y : α} (h : ¬ c) : (if c ∨ d then a else y) = (if d then a else y) := by
  by_cases q : d
  · rw [if_pos q, if_pos (Or.inr q)]
  · rw [if_neg q, if_neg (fun z => z.elim h q)]
theorem ite_and_t {α : Type} {c d : Prop} [Decidable c] [Decidable d] {a y : α} (h : c) : (if c ∧ d then a else y) = (if d then a else y) := by
  by_cases q : d
  · rw [if_pos q, if_pos ⟨h, q⟩]
  · rw [if_neg q, if_neg (fun z => q z.2)]
theorem ite_and_f {α : Type} {c d : Prop} [Decidable c] [Decidable d] {a y : α} (h : ¬ c) : (if c ∧ d then a else y) = y := if_neg fun q => h q.1
theorem ow_fin {P : Prop} [Decidable P] (h : P) : some (Value.int (nar .boolean (bz P))) = some (Value.int (1 : Int32)) := by rw [bz_t h]; rfl
theorem ow_fin' {P : Prop} [Decidable P] (h : P) : some (Value.int (bz P)) = some (Value.int (1 : Int32)) := by rw [bz_t h]
end Jvm.Own
namespace Jvm.Own
open Jvm Jvm.RoadKit
/-! ## Longs and ints as natural numbers -/
def nj (x : Int64) : Nat := x.toBitVec.toNat
def ni (x : Int32) : Nat := x.toBitVec.toNat
theorem nj_lt (x : Int64) : nj x < 18446744073709551616 := x.toBitVec.isLt
theorem ni_lt (x : Int32) : ni x < 4294967296 := x.toBitVec.isLt
theorem nj_inj {x y : Int64} (h : nj x = nj y) : x = y := Int64.toBitVec_inj.mp (BitVec.eq_of_toNat_eq h)
theorem ni_inj {x y : Int32} (h : ni x = ni y) : x = y := Int32.toBitVec_inj.mp (BitVec.eq_of_toNat_eq h)
theorem nj_int (x : Int64) : x.toInt = if nj x < 9223372036854775808 then (nj x : Int) else (nj x : Int) - 18446744073709551616 := by
  show x.toBitVec.toInt = _
  rw [BitVec.toInt_eq_toNat_cond]
  show (if 2 * nj x < 2 ^ 64 then (nj x : Int) else (nj x : Int) - (2 ^ 64 : Nat)) = _
  split <;> split <;> omega
theorem ni_int (x : Int32) : x.toInt = if ni x < 2147483648 then (ni x : Int) else (ni x : Int) - 4294967296 := by
  show x.toBitVec.toInt = _
  rw [BitVec.toInt_eq_toNat_cond]
  show (if 2 * ni x < 2 ^ 32 then (ni x : Int) else (ni x : Int) - (2 ^ 32 : Nat)) = _
  split <;> split <;> omega
theorem nj_and (x y : Int64) : nj (x &&& y) = nj x &&& nj y := by show (x.toBitVec &&& y.toBitVec).toNat = _; rw [BitVec.toNat_and]; rfl
theorem nj_or (x y : Int64) : nj (x ||| y) = nj x ||| nj y := by show (x.toBitVec ||| y.toBitVec).toNat = _; rw [BitVec.toNat_or]; rfl
theorem nj_xor (x y : Int64) : nj (x ^^^ y) = nj x ^^^ nj y := by show (x.toBitVec ^^^ y.toBitVec).toNat = _; rw [BitVec.toNat_xor]; rfl
theorem nj_add (x y : Int64) : nj (x + y) = (nj x + nj y) % 18446744073709551616 := by show (x.toBitVec + y.toBitVec).toNat = _; rw [BitVec.toNat_add]; rfl
theorem nj_sub (x y : Int64) : nj (x - y) = (18446744073709551616 - nj y + nj x) % 18446744073709551616 := by show (x.toBitVec - y.toBitVec).toNat = _; rw [BitVec.toNat_sub]; rfl
theorem ni_and (x y : Int32) : ni (x &&& y) = ni x &&& ni y := by show (x.toBitVec &&& y.toBitVec).toNat = _; rw [BitVec.toNat_and]; rfl
theorem nj_lushr (x : Int64) (q : Int32) (k : Nat) (hk : ni q % 64 = k) : nj (lushr x q) = nj x / 2 ^ k := by
  show (x.toBitVec >>> ((q &&& 0x3f).toInt64.toBitVec % 64)).toNat = x.toBitVec.toNat / 2 ^ k
  have h5 := (sm64 q k hk).2
  rw [BitVec.ushiftRight_eq', BitVec.toNat_ushiftRight, Nat.shiftRight_eq_div_pow, BitVec.toNat_umod, (sm64 q k hk).1, BitVec.toNat_ofNat]; congr 2; show k % 2 ^ 64 % 64 = k; omega
theorem nj_lshl (x : Int64) (q : Int32) (k : Nat) (hk : ni q % 64 = k) : nj (lshl x q) = nj x * 2 ^ k % 18446744073709551616 := by
  show (x.toBitVec <<< ((q &&& 0x3f).toInt64.toBitVec.smod 64)).toNat = _
  rw [BitVec.shiftLeft_eq', (sm64 q k hk).1, smod64 k (sm64 q k hk).2, BitVec.toNat_shiftLeft, Nat.shiftLeft_eq]; rfl
theorem ni_l2i (x : Int64) : ni x.toInt32 = nj x % 4294967296 := by
  show (x.toBitVec.signExtend 32).toNat = _
  rw [BitVec.signExtend_eq_setWidth_of_le _ (by decide), BitVec.toNat_setWidth]; rfl
theorem nj_i2l (x : Int32) (h : ni x < 2147483648) : nj x.toInt64 = ni x := by
  have e := nj_int x.toInt64
  rw [Int32.toInt_toInt64, ni_int, if_pos h] at e
  have := nj_lt x.toInt64
  split at e <;> omega
theorem mask_n (x k : Nat) : x &&& (2 ^ k - 1) = x % 2 ^ k := Nat.and_two_pow_sub_one_eq_mod x k
theorem lt64 {x y : Int64} : x < y ↔ x.toInt < y.toInt := Int64.lt_iff_toInt_lt
theorem lt32 {x y : Int32} : x < y ↔ x.toInt < y.toInt := Int32.lt_iff_toInt_lt
/-- the byte at place k of a long, as javac reads it into an int -/
theorem byteI (w : Int64) (q : Int32) (k : Nat) (hk : ni q % 64 = k) : ((lushr w q).toInt32 &&& (255 : Int32)) = Int32.ofNat (nj w / 2 ^ k % 256) := by
  apply ni_inj
  rw [ni_and, ni_l2i, nj_lushr w q k hk, show ni (255 : Int32) = 2 ^ 8 - 1 from rfl, mask_n]
  show _ = (BitVec.ofNat 32 _).toNat
  rw [BitVec.toNat_ofNat]
  omega
theorem byteJ (w : Int64) (q : Int32) (k : Nat) (hk : ni q % 64 = k) : ((lushr w q) &&& (255 : Int64)) = Int64.ofNat (nj w / 2 ^ k % 256) := by
  apply nj_inj
  rw [nj_and, nj_lushr w q k hk, show nj (255 : Int64) = 2 ^ 8 - 1 from rfl, mask_n]
  show _ = (BitVec.ofNat 64 _).toNat
  rw [BitVec.toNat_ofNat]
  omega
theorem all8 {P : Int8 → Prop} (h : ∀ n : Fin 256, P (Int8.ofNat n.1)) (y : Int8) : P y := by
  have q := h ⟨y.toBitVec.toNat, y.toBitVec.isLt⟩
  have e : Int8.ofNat y.toBitVec.toNat = y := by
    apply Int8.toBitVec_inj.mp
    show BitVec.ofNat 8 y.toBitVec.toNat = y.toBitVec
    rw [BitVec.ofNat_toNat]; simp
  rw [e] at q; exact q
/-- an int told by its natural number -/
theorem ofni (x : Int32) : Int32.ofNat (ni x) = x := by
  apply ni_inj
  show (BitVec.ofNat 32 x.toBitVec.toNat).toNat = x.toBitVec.toNat
  rw [BitVec.toNat_ofNat, Nat.mod_eq_of_lt x.toBitVec.isLt]
/-- (x & 0x7fffffff) % m for a small m -/
theorem remN (x : Int32) (m : Int32) (k : Nat) (hm : ni m = k) (h0 : 0 < k) (h1 : k < 2147483648) : ∃ n : Nat, n < k ∧ ((x &&& (2147483647 : Int32)) % m) = Int32.ofNat n := by
  have e1 : ni (x &&& (2147483647 : Int32)) = ni x % 2147483648 := by rw [ni_and, show ni (2147483647 : Int32) = 2 ^ 31 - 1 from rfl, mask_n]
  have m1 : m.toInt = k := by rw [ni_int, if_pos (by omega), hm]
  have a1 : (x &&& (2147483647 : Int32)).toInt = (ni x % 2147483648 : Nat) := by rw [ni_int, if_pos (by omega), e1]
  obtain ⟨p, -⟩ := c_irem (x &&& (2147483647 : Int32)) m k m1
  have r := p (by omega)
  refine ⟨ni x % 2147483648 % k, Nat.mod_lt _ h0, ?_⟩
  have q : ni x % 2147483648 % k < k := Nat.mod_lt _ h0
  apply Int32.toInt_inj.mp
  rw [r, a1, Int32.toInt_ofNat_of_lt (by omega)]; rfl
end Jvm.Own
namespace Jvm.Own
open Jvm Jvm.ClassFile Jvm.RoadKit
/-! ## Arrays of small natural numbers -/
def nv (x : Nat) : Value := .int (Int32.ofNat x)
def nl (xs : List Nat) : List Value := xs.map nv
theorem nl_len (xs : List Nat) : (nl xs).length = xs.length := by simp [nl]
theorem n_int {i : Nat} (h : i < 1000) : (Int32.ofNat i).toInt = i := Int32.toInt_ofNat_of_lt (by omega)
theorem n_nn {i : Nat} (h : i < 1000) : ¬ Int32.ofNat i < 0 := by rw [Int32.lt_iff_toInt_lt, n_int h, show (0 : Int32).toInt = 0 from rfl]; omega
theorem n_ix {i : Nat} (h : i < 1000) : (Int32.ofNat i).toNatClampNeg = i := by rw [Int32.toNatClampNeg, n_int h]; rfl
theorem nl_get {xs : List Nat} {i : Nat} (h : i < xs.length) : (nl xs)[i]? = some (.int (Int32.ofNat (xs.getD i 0))) := by
  simp [nl, nv, List.getD_eq_getElem?_getD, h]
theorem nl_at {xs : List Nat} {i : Nat} (h : i < xs.length) (b : i < 1000) : (nl xs)[(Int32.ofNat i).toNatClampNeg]? = some (.int (Int32.ofNat (xs.getD i 0))) := by rw [n_ix b]; exact nl_get h
theorem nl_lt {xs : List Nat} {i : Nat} (h : i < xs.length) : i < (nl xs).length := by rw [nl_len]; exact h
theorem nl_set (xs : List Nat) (i v : Nat) : (nl xs).set i (.int (Int32.ofNat v)) = nl (xs.set i v) := by simp [nl, nv, List.map_set]
theorem n_one (i : Nat) : Int32.ofNat i + (1 : Int32) = Int32.ofNat (i + 1) := (Int32.ofNat_add i 1).symm
theorem n_add (a b : Nat) : Int32.ofNat a + Int32.ofNat b = Int32.ofNat (a + b) := (Int32.ofNat_add a b).symm
theorem n_pred {i : Nat} (h : 1 ≤ i) : Int32.ofNat i - (1 : Int32) = Int32.ofNat (i - 1) := by
  obtain ⟨j, rfl⟩ : ∃ j, i = j + 1 := ⟨i - 1, by omega⟩
  rw [← n_one, show j + 1 - 1 = j from rfl]
  apply Int32.toBitVec_inj.mp
  show (Int32.ofNat j).toBitVec + 1#32 - 1#32 = _
  exact BitVec.add_sub_cancel _ _
theorem n_lt {i n : Nat} (h : i < n) (b : n < 1000) : Int32.ofNat i < Int32.ofNat n := by rw [Int32.lt_iff_toInt_lt, n_int b, n_int (by omega)]; omega
theorem n_nlt {i n : Nat} (h : n ≤ i) (b : i < 1000) : ¬ Int32.ofNat i < Int32.ofNat n := by rw [Int32.lt_iff_toInt_lt, n_int b, n_int (by omega)]; omega
theorem n_inj {i n : Nat} (h : Int32.ofNat i = Int32.ofNat n) (b : i < 1000) (b' : n < 1000) : i = n := by
  have := congrArg Int32.toInt h
  rw [n_int b, n_int b'] at this; omega
theorem n_rep (k : Nat) : List.replicate k (Value.int (0 : Int32)) = nl (List.replicate k 0) := by simp [nl, nv]
def One1 (s : Slot) : Prop := s = .unset ∨ ∃ w, s = .val w ∧ w.category = 1
theorem One1.v {w : Value} (h : w.category = 1) : One1 (.val w) := Or.inr ⟨w, rfl, h⟩
theorem One1.u : One1 .unset := Or.inl rfl
end Jvm.Own
namespace Jvm.Pilot.@@N@@
open Jvm Jvm.ClassFile Sem Op Lib Jvm.Free Jvm.Stand Jvm.LawKit Jvm.RoadKit Bundle Jvm.Own Jvm.Pilot.@@N@@.Jvm.D
theorem d4_0 : decode jdk_29_method_65_code 0 = .ok (.iload_n 0, 1) := by decide +kernel
theorem d4_1 : decode jdk_29_method_65_code 1 = .ok (.iload_n 1, 1) := by decide +kernel
theorem d4_2 : decode jdk_29_method_65_code 2 = .ok (.if_icmp .lt 7, 3) := by decide +kernel
theorem d4_9 : decode jdk_29_method_65_code 9 = .ok (.iload_n 1, 1) := by decide +kernel
theorem d4_5 : decode jdk_29_method_65_code 5 = .ok (.iload_n 0, 1) := by decide +kernel
theorem d4_6 : decode jdk_29_method_65_code 6 = .ok (.goto 4, 3) := by decide +kernel
theorem d4_10 : decode jdk_29_method_65_code 10 = .ok (.ireturn, 1) := by decide +kernel
theorem ef_4 (m : MethodId) (x0 : Int32) (x1 : Int32) : entryFrame m #[(.int x0), (.int x1)] 2 = mkF m 0 #[.val (.int x0), .val (.int x1)] [] := by first | (simp [entryFrame, mkF, argsToLocals, Value.category]; done) | rfl
def F4 (ux : Int32) (wx : Int32) : Int32 :=
  (if ux < wx then wx else ux)
def Q4 (Z : State) (ux : Int32) (wx : Int32) (n0 : Nat) (Rst : RL) (v : Option Value) (h : Heap) (L : List Loc) : Prop := v = some (.int (F4 ux wx)) ∧ Fr n0 L ∧ Rep Z n0 h (Rst)
set_option maxRecDepth 65536 in
set_option maxHeartbeats 40000000 in
theorem rm4 (l : Launch) (Z : State) (a0 : Array Value) (hw : ∀ d ∈ tables_1, d.before a0 Z = true) (ws : List Jvm.Cond) (ux : Int32) (wx : Int32) (h0 : Heap) (n0 : Nat) (Rst : RL) (R0 : Rep Z n0 h0 (Rst)) :
    MetFree l (⟨"java/lang/Math", "max", "(II)I"⟩ : MethodName) (head1 (Jvm.Cond.code (⟨"java/lang/Math", "max", "(II)I"⟩ : MethodName) jdk_29_method_65_code 2 (some .int) :: ws) ({ frames := 0, cells := 0, slots := 0, locals := 0 } : Room)) (fun a U => a = #[(.int ux), (.int wx)] ∧ Z.Warmed39 U.vm ∧ U.heap = h0) (fun _ _ _ _ _ => True) (fun _ U o U' => ∃ v L, o = .returned v ∧ Q4 Z ux wx n0 Rst v U'.heap L ∧ FrameEnd U o U' L ({ frames := 0, cells := 0, slots := 0, locals := 0 } : Room).cells ({ frames := 0, cells := 0, slots := 0, locals := 0 } : Room).slots) := by
  refine MetFree.of_bodySF (Jvm.Free.JP.mathPlain rfl (by decide +kernel)) hisR ?_
  intro p e s m args below meth c s₁ Bd hml0 hP hK
  obtain ⟨rfl, hZ, hh⟩ := hP
  have hx := Bd.exec
  have hby := Bd.bytes
  have hml : c.maxLocals = 2 := hml0
  have hown : s.vm.findClass "java/lang/Math" = some m.cls := findClass_of_methodNamed Bd.named
  have hnm := (name_of_methodNamed Bd.named Bd.method).1
  have X0 : Stand p l e ({ frames := 0, cells := 0, slots := 0, locals := 0 } : Room) s m #[(.int ux), (.int wx)] below meth c s₁ [] 0 0 := Stand.of_body Bd
  have e0 : s₁.heap = h0 := by rw [← hh, Bd.state]; rfl
  have N0 := Fr.nil n0
  have pre0 : ∀ t, Steps p.tables e below (s₁.setTop (mkF m 0 #[.val (.int ux), .val (.int wx)] [])) t → Steps p.tables e below (s₁.setTop (entryFrame m #[(.int ux), (.int wx)] 2)) t := fun t k => castTop (ef_4 m ux wx) k
  have pre3 : ∀ t, Steps p.tables e below (s₁.setTop (mkF m 2 #[.val (.int ux), .val (.int wx)] [(.int wx), (.int ux)])) t → Steps p.tables e below (s₁.setTop (entryFrame m #[(.int ux), (.int wx)] 2)) t := fun t k => pre0 t (by
    show Steps p.tables e below (s₁.setTop (mkF m 0 #[.val (.int ux), .val (.int wx)] [])) _
    refine XS.iloadN X0.here hx rfl (hb hby d4_0) rfl ?_
    refine XS.iloadN X0.here hx rfl (hb hby d4_1) rfl ?_
    exact k)
  have tl2 : ∀ t, Steps p.tables e below (s₁.setTop (mkF m 10 #[.val (.int ux), .val (.int wx)] [(.int (if ux < wx then wx else ux))])) t → Steps p.tables e below (s₁.setTop (mkF m 2 #[.val (.int ux), .val (.int wx)] [(.int wx), (.int ux)])) t := fun t k => by
    by_cases hb1 : ux < wx
    · refine XS.icmpYes X0.here hx rfl (pc0 := 2) (pc' := 9) rfl (hb hby d4_2) rfl (tlt hb1).1 (by decide) (by decide) ?_
      rw [show (if ux < wx then wx else ux) = wx from if_pos hb1] at k
      show Steps p.tables e below (s₁.setTop (mkF m 9 #[.val (.int ux), .val (.int wx)] [])) _
      refine XS.iloadN X0.here hx rfl (hb hby d4_9) rfl ?_
      exact k
    · refine XS.icmpNo X0.here hx rfl (hb hby d4_2) rfl (flt hb1).1 ?_
      rw [show (if ux < wx then wx else ux) = ux from if_neg hb1] at k
      show Steps p.tables e below (s₁.setTop (mkF m 5 #[.val (.int ux), .val (.int wx)] [])) _
      refine XS.iloadN X0.here hx rfl (hb hby d4_5) rfl ?_
      refine XS.goto X0.here hx rfl (pc0 := 6) (pc' := 10) rfl (hb hby d4_6) (by decide) (by decide) ?_
      exact k
  have pre4 : ∀ t, Steps p.tables e below (s₁.setTop (mkF m 10 #[.val (.int ux), .val (.int wx)] [(.int (if ux < wx then wx else ux))])) t → Steps p.tables e below (s₁.setTop (entryFrame m #[(.int ux), (.int wx)] 2)) t := fun t k => pre3 t (by
    exact tl2 t k)
  obtain ⟨fs, hr, hrun, hended, hW, hsame⟩ := X0.leave (v := some (.int (if ux < wx then wx else ux))) (fun h => by rw [Bd.returns] at h; cases h)
  refine ⟨_, _, pre4 _ ?_, hrun, hended, _, _, rfl, ?_, ⟨_, rfl⟩, hW, hsame.mono (by decide) (by decide)⟩
  · show Steps p.tables e below (s₁.setTop (mkF m 10 #[.val (.int ux), .val (.int wx)] [(.int (if ux < wx then wx else ux))])) _
    exact Jvm.Own.retI X0 hx Bd.returns (hb hby d4_10) hr
  · show Q4 Z ux wx n0 Rst _ s₁.heap _
    rw [e0]
    exact ⟨(by rfl), N0, R0⟩
theorem d8_0 : decode jdk_29_method_69_code 0 = .ok (.iload_n 0, 1) := by decide +kernel
theorem d8_1 : decode jdk_29_method_69_code 1 = .ok (.iload_n 1, 1) := by decide +kernel
theorem d8_2 : decode jdk_29_method_69_code 2 = .ok (.if_icmp .gt 7, 3) := by decide +kernel
theorem d8_9 : decode jdk_29_method_69_code 9 = .ok (.iload_n 1, 1) := by decide +kernel
theorem d8_5 : decode jdk_29_method_69_code 5 = .ok (.iload_n 0, 1) := by decide +kernel
theorem d8_6 : decode jdk_29_method_69_code 6 = .ok (.goto 4, 3) := by decide +kernel
theorem d8_10 : decode jdk_29_method_69_code 10 = .ok (.ireturn, 1) := by decide +kernel
theorem ef_8 (m : MethodId) (x0 : Int32) (x1 : Int32) : entryFrame m #[(.int x0), (.int x1)] 2 = mkF m 0 #[.val (.int x0), .val (.int x1)] [] := by first | (simp [entryFrame, mkF, argsToLocals, Value.category]; done) | rfl
def F8 (ux : Int32) (wx : Int32) : Int32 :=
  (if wx < ux then wx else ux)
def Q8 (Z : State) (ux : Int32) (wx : Int32) (n0 : Nat) (Rst : RL) (v : Option Value) (h : Heap) (L : List Loc) : Prop := v = some (.int (F8 ux wx)) ∧ Fr n0 L ∧ Rep Z n0 h (Rst)
set_option maxRecDepth 65536 in
set_option maxHeartbeats 40000000 in
theorem rm8 (l : Launch) (Z : State) (a0 : Array Value) (hw : ∀ d ∈ tables_1, d.before a0 Z = true) (ws : List Jvm.Cond) (ux : Int32) (wx : Int32) (h0 : Heap) (n0 : Nat) (Rst : RL) (R0 : Rep Z n0 h0 (Rst)) :
    MetFree l (⟨"java/lang/Math", "min", "(II)I"⟩ : MethodName) (head1 (Jvm.Cond.code (⟨"java/lang/Math", "min", "(II)I"⟩ : MethodName) jdk_29_method_69_code 2 (some .int) :: ws) ({ frames := 0, cells := 0, slots := 0, locals := 0 } : Room)) (fun a U => a = #[(.int ux), (.int wx)] ∧ Z.Warmed39 U.vm ∧ U.heap = h0) (fun _ _ _ _ _ => True) (fun _ U o U' => ∃ v L, o = .returned v ∧ Q8 Z ux wx n0 Rst v U'.heap L ∧ FrameEnd U o U' L ({ frames := 0, cells := 0, slots := 0, locals := 0 } : Room).cells ({ frames := 0, cells := 0, slots := 0, locals := 0 } : Room).slots) := by
  refine MetFree.of_bodySF (Jvm.Free.JP.mathPlain rfl (by decide +kernel)) hisR ?_
  intro p e s m args below meth c s₁ Bd hml0 hP hK
  obtain ⟨rfl, hZ, hh⟩ := hP
  have hx := Bd.exec
  have hby := Bd.bytes
  have hml : c.maxLocals = 2 := hml0
  have hown : s.vm.findClass "java/lang/Math" = some m.cls := findClass_of_methodNamed Bd.named
  have hnm := (name_of_methodNamed Bd.named Bd.method).1
  have X0 : Stand p l e ({ frames := 0, cells := 0, slots := 0, locals := 0 } : Room) s m #[(.int ux), (.int wx)] below meth c s₁ [] 0 0 := Stand.of_body Bd
  have e0 : s₁.heap = h0 := by rw [← hh, Bd.state]; rfl
  have N0 := Fr.nil n0
  have pre0 : ∀ t, Steps p.tables e below (s₁.setTop (mkF m 0 #[.val (.int ux), .val (.int wx)] [])) t → Steps p.tables e below (s₁.setTop (entryFrame m #[(.int ux), (.int wx)] 2)) t := fun t k => castTop (ef_8 m ux wx) k
  have pre3 : ∀ t, Steps p.tables e below (s₁.setTop (mkF m 2 #[.val (.int ux), .val (.int wx)] [(.int wx), (.int ux)])) t → Steps p.tables e below (s₁.setTop (entryFrame m #[(.int ux), (.int wx)] 2)) t := fun t k => pre0 t (by
    show Steps p.tables e below (s₁.setTop (mkF m 0 #[.val (.int ux), .val (.int wx)] [])) _
    refine XS.iloadN X0.here hx rfl (hb hby d8_0) rfl ?_
    refine XS.iloadN X0.here hx rfl (hb hby d8_1) rfl ?_
    exact k)
  have tl2 : ∀ t, Steps p.tables e below (s₁.setTop (mkF m 10 #[.val (.int ux), .val (.int wx)] [(.int (if wx < ux then wx else ux))])) t → Steps p.tables e below (s₁.setTop (mkF m 2 #[.val (.int ux), .val (.int wx)] [(.int wx), (.int ux)])) t := fun t k => by
    by_cases hb1 : wx < ux
    · refine XS.icmpYes X0.here hx rfl (pc0 := 2) (pc' := 9) rfl (hb hby d8_2) rfl (tlt hb1).2.2.1 (by decide) (by decide) ?_
      rw [show (if wx < ux then wx else ux) = wx from if_pos hb1] at k
      show Steps p.tables e below (s₁.setTop (mkF m 9 #[.val (.int ux), .val (.int wx)] [])) _
      refine XS.iloadN X0.here hx rfl (hb hby d8_9) rfl ?_
      exact k
    · refine XS.icmpNo X0.here hx rfl (hb hby d8_2) rfl (flt hb1).2.2.1 ?_
      rw [show (if wx < ux then wx else ux) = ux from if_neg hb1] at k
      show Steps p.tables e below (s₁.setTop (mkF m 5 #[.val (.int ux), .val (.int wx)] [])) _
      refine XS.iloadN X0.here hx rfl (hb hby d8_5) rfl ?_
      refine XS.goto X0.here hx rfl (pc0 := 6) (pc' := 10) rfl (hb hby d8_6) (by decide) (by decide) ?_
      exact k
  have pre4 : ∀ t, Steps p.tables e below (s₁.setTop (mkF m 10 #[.val (.int ux), .val (.int wx)] [(.int (if wx < ux then wx else ux))])) t → Steps p.tables e below (s₁.setTop (entryFrame m #[(.int ux), (.int wx)] 2)) t := fun t k => pre3 t (by
    exact tl2 t k)
  obtain ⟨fs, hr, hrun, hended, hW, hsame⟩ := X0.leave (v := some (.int (if wx < ux then wx else ux))) (fun h => by rw [Bd.returns] at h; cases h)
  refine ⟨_, _, pre4 _ ?_, hrun, hended, _, _, rfl, ?_, ⟨_, rfl⟩, hW, hsame.mono (by decide) (by decide)⟩
  · show Steps p.tables e below (s₁.setTop (mkF m 10 #[.val (.int ux), .val (.int wx)] [(.int (if wx < ux then wx else ux))])) _
    exact Jvm.Own.retI X0 hx Bd.returns (hb hby d8_10) hr
  · show Q8 Z ux wx n0 Rst _ s₁.heap _
    rw [e0]
    exact ⟨(by rfl), N0, R0⟩
theorem own_max {a b : Nat} (ha : a < 1000) (hb : b < 1000) : F4 (Int32.ofNat a) (Int32.ofNat b) = Int32.ofNat (max a b) := by
  unfold F4
  by_cases q : a < b
  · rw [if_pos (n_lt q hb), Nat.max_eq_right (Nat.le_of_lt q)]
  · rw [if_neg (n_nlt (by omega) ha), Nat.max_eq_left (by omega)]
theorem own_min {a b : Nat} (ha : a < 1000) (hb : b < 1000) (h : b ≤ a) : F8 (Int32.ofNat a) (Int32.ofNat b) = Int32.ofNat b := by
  unfold F8
  by_cases q : b < a
  · rw [if_pos (n_lt q ha)]
  · rw [if_neg (n_nlt (by omega) hb), show a = b by omega]
theorem own_copy {xs : List Nat} {n : Nat} (h : n ≤ xs.length) : (nl (List.replicate n 0)).take 0 ++ ((nl xs).drop 0).take n ++ (nl (List.replicate n 0)).drop (0 + n) = nl (xs.take n) := by
  simp [nl, List.map_take]
theorem d5_0 : decode jdk_65_method_123_code 0 = .ok (.iload_n 1, 1) := by decide +kernel
theorem d5_1 : decode jdk_65_method_123_code 1 = .ok (.aload_n 0, 1) := by decide +kernel
theorem d5_2 : decode jdk_65_method_123_code 2 = .ok (.arraylength, 1) := by decide +kernel
theorem d5_3 : decode jdk_65_method_123_code 3 = .ok (.if_icmp .ne 11, 3) := by decide +kernel
theorem d5_6 : decode jdk_65_method_123_code 6 = .ok (.aload_n 0, 1) := by decide +kernel
theorem d5_7 : decode jdk_65_method_123_code 7 = .ok (.invokevirtual 316, 3) := by decide +kernel
theorem d5_10 : decode jdk_65_method_123_code 10 = .ok (.checkcast 317, 3) := by decide +kernel
theorem d5_13 : decode jdk_65_method_123_code 13 = .ok (.areturn, 1) := by decide +kernel
theorem d5_14 : decode jdk_65_method_123_code 14 = .ok (.iload_n 1, 1) := by decide +kernel
theorem d5_15 : decode jdk_65_method_123_code 15 = .ok (.newarray .int, 2) := by decide +kernel
theorem d5_17 : decode jdk_65_method_123_code 17 = .ok (.astore_n 2, 1) := by decide +kernel
theorem d5_18 : decode jdk_65_method_123_code 18 = .ok (.aload_n 0, 1) := by decide +kernel
theorem d5_19 : decode jdk_65_method_123_code 19 = .ok (.iconst 0, 1) := by decide +kernel
theorem d5_20 : decode jdk_65_method_123_code 20 = .ok (.aload_n 2, 1) := by decide +kernel
theorem d5_21 : decode jdk_65_method_123_code 21 = .ok (.iconst 0, 1) := by decide +kernel
theorem d5_22 : decode jdk_65_method_123_code 22 = .ok (.aload_n 0, 1) := by decide +kernel
theorem d5_23 : decode jdk_65_method_123_code 23 = .ok (.arraylength, 1) := by decide +kernel
theorem d5_24 : decode jdk_65_method_123_code 24 = .ok (.iload_n 1, 1) := by decide +kernel
theorem d5_25 : decode jdk_65_method_123_code 25 = .ok (.invokestatic 304, 3) := by decide +kernel
theorem pd__28II_29I : parseMethodDescriptor "(II)I" = some ⟨[.int, .int], some .int⟩ := by decide +kernel
theorem d5_28 : decode jdk_65_method_123_code 28 = .ok (.invokestatic 150, 3) := by decide +kernel
theorem d5_31 : decode jdk_65_method_123_code 31 = .ok (.aload_n 2, 1) := by decide +kernel
theorem d5_32 : decode jdk_65_method_123_code 32 = .ok (.areturn, 1) := by decide +kernel
theorem pn_java_util_Arrays : plainName "java/util/Arrays" = true := by first | (simp [plainName, overriddenIn]; done) | decide +kernel
theorem ef_5 (m : MethodId) (x0 : Addr) (x1 : Nat) : entryFrame m #[(.ref x0), (.int (Int32.ofNat x1))] 3 = mkF m 0 #[.val (.ref x0), .val (.int (Int32.ofNat x1)), .unset] [] := by first | (simp [entryFrame, mkF, argsToLocals, Value.category]; done) | rfl
def Q5 (Z : State) (ax : Addr) (nx : Nat) (xs : List Nat) (n0 : Nat) (Rst : RL) (v : Option Value) (h : Heap) (L : List Loc) : Prop := ∃ bx : Addr, v = some (.ref bx) ∧ Fr n0 L ∧ Rep Z n0 h ((bx, Ar .int (nl (xs.take nx))) :: (ax, Ar .int (nl xs)) :: Rst)
set_option maxRecDepth 65536 in
set_option maxHeartbeats 40000000 in
theorem rm5 (l : Launch) (Z : State) (a0 : Array Value) (hw : ∀ d ∈ tables_1, d.before a0 Z = true) (ws : List Jvm.Cond) (ax : Addr) (nx : Nat) (xs : List Nat) (h0 : Heap) (n0 : Nat) (Rst : RL) (R0 : Rep Z n0 h0 ((ax, Ar .int (nl xs)) :: Rst)) (hle : nx ≤ xs.length) (hlx : xs.length ≤ 8) :
    MetFree l (⟨"java/util/Arrays", "copyOf", "([II)[I"⟩ : MethodName) (head1 (Jvm.Cond.code (⟨"java/util/Arrays", "copyOf", "([II)[I"⟩ : MethodName) jdk_65_method_123_code 3 (some (.array .int)) :: ws) ({ frames := 1, cells := 1, slots := 8, locals := 18 } : Room)) (fun a U => a = #[(.ref ax), (.int (Int32.ofNat nx))] ∧ Z.Warmed39 U.vm ∧ U.heap = h0) (fun _ _ _ _ _ => True) (fun _ U o U' => ∃ v L, o = .returned v ∧ Q5 Z ax nx xs n0 Rst v U'.heap L ∧ FrameEnd U o U' L ({ frames := 1, cells := 1, slots := 8, locals := 18 } : Room).cells ({ frames := 1, cells := 1, slots := 8, locals := 18 } : Room).slots) := by
  refine MetFree.of_bodySF (plainFor_of_name pn_java_util_Arrays) hisR ?_
  intro p e s m args below meth c s₁ Bd hml0 hP hK
  obtain ⟨rfl, hZ, hh⟩ := hP
  have hx := Bd.exec
  have hby := Bd.bytes
  have hml : c.maxLocals = 3 := hml0
  have hown : s.vm.findClass "java/util/Arrays" = some m.cls := findClass_of_methodNamed Bd.named
  have hnm := (name_of_methodNamed Bd.named Bd.method).1
  have X0 : Stand p l e ({ frames := 1, cells := 1, slots := 8, locals := 18 } : Room) s m #[(.ref ax), (.int (Int32.ofNat nx))] below meth c s₁ [] 0 0 := Stand.of_body Bd
  have e0 : s₁.heap = h0 := by rw [← hh, Bd.state]; rfl
  have N0 := Fr.nil n0
  have pre0 : ∀ t, Steps p.tables e below (s₁.setTop (mkF m 0 #[.val (.ref ax), .val (.int (Int32.ofNat nx)), .unset] [])) t → Steps p.tables e below (s₁.setTop (entryFrame m #[(.ref ax), (.int (Int32.ofNat nx))] 3)) t := fun t k => castTop (ef_5 m ax nx) k
  have pre1 : ∀ t, Steps p.tables e below (s₁.setTop (mkF m 3 #[.val (.ref ax), .val (.int (Int32.ofNat nx)), .unset] [(.int (Int32.ofNat xs.length)), (.int (Int32.ofNat nx))])) t → Steps p.tables e below (s₁.setTop (entryFrame m #[(.ref ax), (.int (Int32.ofNat nx))] 3)) t := fun t k => pre0 t (by
    show Steps p.tables e below (s₁.setTop (mkF m 0 #[.val (.ref ax), .val (.int (Int32.ofNat nx)), .unset] [])) _
    refine XS.iloadN X0.here hx rfl (hb hby d5_0) rfl ?_
    refine XS.aloadN X0.here hx rfl (hb hby d5_1) rfl rfl ?_
    refine gLen X0 hx hZ e0 R0 0 rfl (g := (mkF m 2 #[.val (.ref ax), .val (.int (Int32.ofNat nx)), .unset] [(.ref ax), (.int (Int32.ofNat nx))])) rfl rfl (hb hby d5_2) (z := (Int32.ofNat xs.length)) (by rw [nl_len]) _ ?_
    exact k)
  by_cases hb2 : (Int32.ofNat nx) = (Int32.ofNat xs.length)
  · have pre3 : ∀ t, Steps p.tables e below (s₁.setTop (mkF m 6 #[.val (.ref ax), .val (.int (Int32.ofNat nx)), .unset] [])) t → Steps p.tables e below (s₁.setTop (entryFrame m #[(.ref ax), (.int (Int32.ofNat nx))] 3)) t := fun t k => pre1 t (by show Steps p.tables e below (s₁.setTop (mkF m 3 #[.val (.ref ax), .val (.int (Int32.ofNat nx)), .unset] [(.int (Int32.ofNat xs.length)), (.int (Int32.ofNat nx))])) _; refine XS.icmpNo X0.here hx rfl (hb hby d5_3) rfl (teq hb2).2 ?_; exact k)
    have pre4 : ∀ t, Steps p.tables e below (s₁.setTop (mkF m 7 #[.val (.ref ax), .val (.int (Int32.ofNat nx)), .unset] [(.ref ax)])) t → Steps p.tables e below (s₁.setTop (entryFrame m #[(.ref ax), (.int (Int32.ofNat nx))] 3)) t := fun t k => pre3 t (by
      show Steps p.tables e below (s₁.setTop (mkF m 6 #[.val (.ref ax), .val (.int (Int32.ofNat nx)), .unset] [])) _
      refine XS.aloadN X0.here hx rfl (hb hby d5_6) rfl rfl ?_
      exact k)
    obtain ⟨T5, h5, b5, X5, e5, R5, E5, st5⟩ := gClone X0 hx hZ hown (hw _ (List.mem_of_getElem? (i := 48) rfl)) (hw _ (List.mem_of_getElem? (i := 24) rfl)) (hw _ (List.mem_of_getElem? (i := 28) rfl)) (hw _ (List.mem_of_getElem? (i := 26) rfl)) (hw _ (List.mem_of_getElem? (i := 27) rfl)) (hw _ (List.mem_of_getElem? (i := 29) rfl)) e0 R0 0 rfl (show _ = "[I" from rfl) (g := (mkF m 7 #[.val (.ref ax), .val (.int (Int32.ofNat nx)), .unset] [(.ref ax)])) rfl (by rw [hml]; rfl) rfl (hb hby d5_7) (by decide) (W := 0) 8 (by show 2 * 0 + _ ≤ _; exact Nat.le_of_eq rfl) (by decide) (by rw [nl_len]; exact hlx) (by decide) (by decide)
    have pre6 : ∀ t, Steps p.tables e below (T5.setTop (mkF m 10 #[.val (.ref ax), .val (.int (Int32.ofNat nx)), .unset] [(.ref b5)])) t → Steps p.tables e below (s₁.setTop (entryFrame m #[(.ref ax), (.int (Int32.ofNat nx))] 3)) t := fun t k => pre4 t (st5 t k)
    obtain ⟨T7, X7, e7, st7⟩ := gCast X5 hx hZ hown (hw _ (List.mem_of_getElem? (i := 49) rfl)) e5 E5 (g := (mkF m 10 #[.val (.ref ax), .val (.int (Int32.ofNat nx)), .unset] [(.ref b5)])) rfl rfl (hb hby d5_10)
    have pre8 : ∀ t, Steps p.tables e below (T7.setTop (mkF m 13 #[.val (.ref ax), .val (.int (Int32.ofNat nx)), .unset] [(.ref b5)])) t → Steps p.tables e below (s₁.setTop (entryFrame m #[(.ref ax), (.int (Int32.ofNat nx))] 3)) t := fun t k => pre6 t (st7 t k)
    obtain ⟨fs, hr, hrun, hended, hW, hsame⟩ := X7.leave (v := some (.ref b5)) (fun h => by rw [Bd.returns] at h; cases h)
    refine ⟨_, _, pre8 _ ?_, hrun, hended, _, _, rfl, ?_, ⟨_, rfl⟩, hW, hsame.mono (by decide) (by decide)⟩
    · show Steps p.tables e below (T7.setTop (mkF m 13 #[.val (.ref ax), .val (.int (Int32.ofNat nx)), .unset] [(.ref b5)])) _
      exact Jvm.Own.retA X7 hx (t := (.array .int)) rfl Bd.returns (hb hby d5_13) hr
    · show Q5 Z ax nx xs n0 Rst _ T7.heap _
      rw [e7]
      exact ⟨b5, rfl, N0, (by have q : nx = xs.length := n_inj hb2 (by omega) (by omega); rw [List.take_of_length_le (by omega)]; exact R5)⟩
  · have pre9 : ∀ t, Steps p.tables e below (s₁.setTop (mkF m 14 #[.val (.ref ax), .val (.int (Int32.ofNat nx)), .unset] [])) t → Steps p.tables e below (s₁.setTop (entryFrame m #[(.ref ax), (.int (Int32.ofNat nx))] 3)) t := fun t k => pre1 t (by show Steps p.tables e below (s₁.setTop (mkF m 3 #[.val (.ref ax), .val (.int (Int32.ofNat nx)), .unset] [(.int (Int32.ofNat xs.length)), (.int (Int32.ofNat nx))])) _; refine XS.icmpYes X0.here hx rfl (pc0 := 3) (pc' := 14) rfl (hb hby d5_3) rfl (feq hb2).2 (by decide) (by decide) ?_; exact k)
    have pre10 : ∀ t, Steps p.tables e below (s₁.setTop (mkF m 15 #[.val (.ref ax), .val (.int (Int32.ofNat nx)), .unset] [(.int (Int32.ofNat nx))])) t → Steps p.tables e below (s₁.setTop (entryFrame m #[(.ref ax), (.int (Int32.ofNat nx))] 3)) t := fun t k => pre9 t (by
      show Steps p.tables e below (s₁.setTop (mkF m 14 #[.val (.ref ax), .val (.int (Int32.ofNat nx)), .unset] [])) _
      refine XS.iloadN X0.here hx rfl (hb hby d5_14) rfl ?_
      exact k)
    obtain ⟨T11, h11, b11, X11, e11, R11, st11⟩ := gNewP X0 hx hZ (hw _ (List.mem_of_getElem? (i := 5) rfl)) e0 R0 (g := (mkF m 15 #[.val (.ref ax), .val (.int (Int32.ofNat nx)), .unset] [(.int (Int32.ofNat nx))])) rfl (hb hby d5_15) rfl (n_nn (by omega)) 8 (by rw [n_ix (by omega)]; omega) (by decide) (by decide) (by decide) (vs := (nl (List.replicate nx 0))) (by rw [n_ix (by omega)]; exact n_rep _)
    replace R11 : Rep Z n0 h11 ((b11, Ar .int (nl (List.replicate nx 0))) :: (ax, Ar .int (nl xs)) :: Rst) := R11
    have pre12 : ∀ t, Steps p.tables e below (T11.setTop (mkF m 17 #[.val (.ref ax), .val (.int (Int32.ofNat nx)), .unset] [(.ref b11)])) t → Steps p.tables e below (s₁.setTop (entryFrame m #[(.ref ax), (.int (Int32.ofNat nx))] 3)) t := fun t k => pre10 t (st11 t k)
    have pre13 : ∀ t, Steps p.tables e below (T11.setTop (mkF m 25 #[.val (.ref ax), .val (.int (Int32.ofNat nx)), .val (.ref b11)] [(.int (Int32.ofNat nx)), (.int (Int32.ofNat xs.length)), (.int (0 : Int32)), (.ref b11), (.int (0 : Int32)), (.ref ax)])) t → Steps p.tables e below (s₁.setTop (entryFrame m #[(.ref ax), (.int (Int32.ofNat nx))] 3)) t := fun t k => pre12 t (by
      show Steps p.tables e below (T11.setTop (mkF m 17 #[.val (.ref ax), .val (.int (Int32.ofNat nx)), .unset] [(.ref b11)])) _
      refine XS.astoreN X11.here hx rfl (hb hby d5_17) rfl rfl (l' := #[.val (.ref ax), .val (.int (Int32.ofNat nx)), .val (.ref b11)]) rfl ?_
      refine XS.aloadN X11.here hx rfl (hb hby d5_18) rfl rfl ?_
      refine XS.iconst X11.here hx rfl (hb hby d5_19) ?_
      refine XS.aloadN X11.here hx rfl (hb hby d5_20) rfl rfl ?_
      refine XS.iconst X11.here hx rfl (hb hby d5_21) ?_
      refine XS.aloadN X11.here hx rfl (hb hby d5_22) rfl rfl ?_
      refine gLen X11 hx hZ e11 R11 1 rfl (g := (mkF m 23 #[.val (.ref ax), .val (.int (Int32.ofNat nx)), .val (.ref b11)] [(.ref ax), (.int (0 : Int32)), (.ref b11), (.int (0 : Int32)), (.ref ax)])) rfl rfl (hb hby d5_23) (z := (Int32.ofNat xs.length)) (by rw [nl_len]) _ ?_
      show Steps p.tables e below (T11.setTop (mkF m 24 #[.val (.ref ax), .val (.int (Int32.ofNat nx)), .val (.ref b11)] [(.int (Int32.ofNat xs.length)), (.int (0 : Int32)), (.ref b11), (.int (0 : Int32)), (.ref ax)])) _
      refine XS.iloadN X11.here hx rfl (hb hby d5_24) rfl ?_
      exact k)
    obtain ⟨_, _, ⟨T14, L14, k14, n14⟩, -, X14, ⟨Lc14, hQ14, l14, y14, z14⟩, st14⟩ := Jvm.LawKit.callS X11 hx (y := (⟨"java/lang/Math", "min", "(II)I"⟩ : MethodName)) hown (mvT hZ (hw _ (List.mem_of_getElem? (i := 58) rfl))) (mvT hZ (hw _ (List.mem_of_getElem? (i := 59) rfl))) (mvT hZ (hw _ (List.mem_of_getElem? (i := 17) rfl))) (mvT hZ (hw _ (List.mem_of_getElem? (i := 60) rfl))) (by decide) (backOf (W := 4) (rm8 l Z a0 hw [] (Int32.ofNat xs.length) (Int32.ofNat nx)  h11 n0 _ R11 ) hZ (hw _ (List.mem_of_getElem? (i := 60) rfl)) (hw _ (List.mem_of_getElem? (i := 17) rfl)) (by decide) (by decide)) (g := (mkF m 25 #[.val (.ref ax), .val (.int (Int32.ofNat nx)), .val (.ref b11)] [(.int (Int32.ofNat nx)), (.int (Int32.ofNat xs.length)), (.int (0 : Int32)), (.ref b11), (.int (0 : Int32)), (.ref ax)])) rfl (by rw [hml]; rfl) (argsL := [(.int (Int32.ofNat xs.length)), (.int (Int32.ofNat nx))]) (rest := [(.int (0 : Int32)), (.ref b11), (.int (0 : Int32)), (.ref ax)]) (lenOf pd__28II_29I rfl) rfl (by show 2 * 0 + _ ≤ _; exact Nat.le_of_eq rfl) (hb hby d5_25) (fun _ _ => ⟨rfl, e11, (by decide : 1 + 0 ≤ _), (by decide : 8 + 0 ≤ _)⟩)
    dsimp only [Pt.U, Pt.locs, Pt.cells, Pt.slots] at X14 l14 y14 z14 st14 hQ14
    subst y14 z14
    obtain ⟨rfl, N14q, R14⟩ := hQ14
    have N14 : Fr n0 L14 := by rw [l14]; exact Fr.app N0 N14q
    replace R14 : Rep Z n0 T14.heap ((b11, Ar .int (nl (List.replicate nx 0))) :: (ax, Ar .int (nl xs)) :: Rst) := R14
    have pre15 : ∀ t, Steps p.tables e below (T14.setTop (mkF m 28 #[.val (.ref ax), .val (.int (Int32.ofNat nx)), .val (.ref b11)] [(.int (F8 (Int32.ofNat xs.length) (Int32.ofNat nx))), (.int (0 : Int32)), (.ref b11), (.int (0 : Int32)), (.ref ax)])) t → Steps p.tables e below (s₁.setTop (entryFrame m #[(.ref ax), (.int (Int32.ofNat nx))] 3)) t := fun t k => pre13 t (st14 t k)
    rw [own_min (by omega) (by omega) hle] at pre15
    obtain ⟨T16, h16, ls16, X16, e16, N16, R16, st16⟩ := gCopy X14 hx hZ hown (hw _ (List.mem_of_getElem? (i := 61) rfl)) (hw _ (List.mem_of_getElem? (i := 64) rfl)) (hw _ (List.mem_of_getElem? (i := 62) rfl)) (hw _ (List.mem_of_getElem? (i := 63) rfl)) rfl N14 R14 1 0 rfl rfl rfl (by rw [nl_len]; omega) (by rw [nl_len, List.length_replicate]; omega) (sp := (0 : Int32)) (dp := (0 : Int32)) (nn := (Int32.ofNat nx)) (by decide) (by decide) (n_nn (by omega)) 0 0 nx (rfl) (rfl) (n_ix (by omega)) (by rw [nl_len]; omega) (by rw [nl_len, List.length_replicate]; omega) (g := (mkF m 28 #[.val (.ref ax), .val (.int (Int32.ofNat nx)), .val (.ref b11)] [(.int (Int32.ofNat nx)), (.int (0 : Int32)), (.ref b11), (.int (0 : Int32)), (.ref ax)])) rfl (by rw [hml]; rfl) rfl (hb hby d5_28) (by decide) (W := 0) (by show 2 * 0 + _ ≤ _; exact Nat.le_of_eq rfl) (by decide)
    replace R16 : Rep Z n0 h16 ((b11, Ar .int (nl (xs.take nx))) :: (ax, Ar .int (nl xs)) :: Rst) := own_copy hle ▸ R16
    have pre17 : ∀ t, Steps p.tables e below (T16.setTop (mkF m 31 #[.val (.ref ax), .val (.int (Int32.ofNat nx)), .val (.ref b11)] [])) t → Steps p.tables e below (s₁.setTop (entryFrame m #[(.ref ax), (.int (Int32.ofNat nx))] 3)) t := fun t k => pre15 t (st16 t k)
    have pre18 : ∀ t, Steps p.tables e below (T16.setTop (mkF m 32 #[.val (.ref ax), .val (.int (Int32.ofNat nx)), .val (.ref b11)] [(.ref b11)])) t → Steps p.tables e below (s₁.setTop (entryFrame m #[(.ref ax), (.int (Int32.ofNat nx))] 3)) t := fun t k => pre17 t (by
      show Steps p.tables e below (T16.setTop (mkF m 31 #[.val (.ref ax), .val (.int (Int32.ofNat nx)), .val (.ref b11)] [])) _
      refine XS.aloadN X16.here hx rfl (hb hby d5_31) rfl rfl ?_
      exact k)
    obtain ⟨fs, hr, hrun, hended, hW, hsame⟩ := X16.leave (v := some (.ref b11)) (fun h => by rw [Bd.returns] at h; cases h)
    refine ⟨_, _, pre18 _ ?_, hrun, hended, _, _, rfl, ?_, ⟨_, rfl⟩, hW, hsame.mono (by decide) (by decide)⟩
    · show Steps p.tables e below (T16.setTop (mkF m 32 #[.val (.ref ax), .val (.int (Int32.ofNat nx)), .val (.ref b11)] [(.ref b11)])) _
      exact Jvm.Own.retA X16 hx (t := (.array .int)) rfl Bd.returns (hb hby d5_32) hr
    · show Q5 Z ax nx xs n0 Rst _ T16.heap _
      rw [e16]
      exact ⟨b11, rfl, N16, (by exact R16)⟩
theorem d2_87 : decode prog_15_method_1_code 87 = .ok (.iload 7, 2) := by decide +kernel
theorem d2_89 : decode prog_15_method_1_code 89 = .ok (.iload 6, 2) := by decide +kernel
theorem d2_91 : decode prog_15_method_1_code 91 = .ok (.if_icmp .ge 27, 3) := by decide +kernel
theorem d2_94 : decode prog_15_method_1_code 94 = .ok (.aload 5, 2) := by decide +kernel
theorem d2_96 : decode prog_15_method_1_code 96 = .ok (.iload 7, 2) := by decide +kernel
theorem d2_98 : decode prog_15_method_1_code 98 = .ok (.iaload, 1) := by decide +kernel
theorem d2_99 : decode prog_15_method_1_code 99 = .ok (.istore 8, 2) := by decide +kernel
theorem d2_101 : decode prog_15_method_1_code 101 = .ok (.aload_n 0, 1) := by decide +kernel
theorem d2_102 : decode prog_15_method_1_code 102 = .ok (.getfield 33, 3) := by decide +kernel
theorem d2_105 : decode prog_15_method_1_code 105 = .ok (.iload 8, 2) := by decide +kernel
theorem d2_107 : decode prog_15_method_1_code 107 = .ok (.dup2, 1) := by decide +kernel
theorem d2_108 : decode prog_15_method_1_code 108 = .ok (.iaload, 1) := by decide +kernel
theorem d2_109 : decode prog_15_method_1_code 109 = .ok (.iconst 1, 1) := by decide +kernel
theorem d2_110 : decode prog_15_method_1_code 110 = .ok (.iadd, 1) := by decide +kernel
theorem d2_111 : decode prog_15_method_1_code 111 = .ok (.iastore, 1) := by decide +kernel
theorem d2_112 : decode prog_15_method_1_code 112 = .ok (.iinc 7 1, 3) := by decide +kernel
theorem d2_115 : decode prog_15_method_1_code 115 = .ok (.goto (-28), 3) := by decide +kernel
set_option maxRecDepth 65536 in
set_option maxHeartbeats 40000000 in
theorem l1_turn {p : Program} {l : Launch} {e : Env} {R : Room} {s : State} {m : MethodId} {args : Array Value} {below : List Frame} {meth : Method} {c : Code} {T0 : State} {locs : List Loc} {cells slots : Nat} {Z : State} {a0 : Array Value} {h0 : Heap} {n0 : Nat} {Rst : RL} (ax : Addr) (ix : Addr) (b1 : Addr) (b2 : Addr) (b3 : Addr) (b4 : Addr) (b5 : Addr) (b6 : Addr) (b7 : Addr) (cnt : Nat) (sz : Nat) (cap : Nat) (i : Nat) (s8 : Slot) (en : List Nat) (es : List Nat)
    (X0 : Stand p l e R s m args below meth c T0 locs cells slots) (hx : p.tables.exec = Jvm.exec) (hZ : Z.Warmed39 s.vm) (hw : ∀ d ∈ tables_1, d.before a0 Z = true) (hby : c.code = prog_15_method_1_code) (hml : c.maxLocals = 9) (hown : s.vm.findClass "com/example/witgen/witgen/regex/Partition" = some m.cls) (e0 : T0.heap = h0) (N0 : Fr n0 locs) (R0 : Rep Z n0 h0 ((ax, Obj "com/example/witgen/witgen/regex/Partition" [("elements", "[I", (.ref b1)), ("location", "[I", (.ref b2)), ("blockOf", "[I", (.ref b3)), ("start", "[I", (.ref b4)), ("end", "[I", (.ref b5)), ("marked", "[I", (.ref b6)), ("touched", "[I", (.ref b7)), ("blocks", "I", (.int (Int32.ofNat cnt)))]) :: (b5, Ar .int (nl en)) :: (ix, Ar .int (nl es)) :: Rst)) (hi : i < sz) (hbd : sz < 1000) (hs8 : One1 s8) (hin98 : i < es.length) (hbd98 : i < 1000) (hin108 : (es.getD i 0) < en.length) (hbd108 : (es.getD i 0) < 1000) (hsn111 : (es.getD i 0) < en.length) (hsb111 : (es.getD i 0) < 1000) :
    ∃ (T' : State) (h' : Heap) (locs' : List Loc), Stand p l e R s m args below meth c T' locs' cells slots ∧ T'.heap = h' ∧ Fr n0 locs' ∧ Rep Z n0 h' ((ax, Obj "com/example/witgen/witgen/regex/Partition" [("elements", "[I", (.ref b1)), ("location", "[I", (.ref b2)), ("blockOf", "[I", (.ref b3)), ("start", "[I", (.ref b4)), ("end", "[I", (.ref b5)), ("marked", "[I", (.ref b6)), ("touched", "[I", (.ref b7)), ("blocks", "I", (.int (Int32.ofNat cnt)))]) :: (b5, Ar .int (nl (en.set (es.getD i 0) ((en.getD (es.getD i 0) 0) + 1)))) :: (ix, Ar .int (nl es)) :: Rst) ∧ ∀ t, Steps p.tables e below (T'.setTop (mkF m 87 #[.val (.ref ax), .val (.ref ix), .val (.int (Int32.ofNat cnt)), .val (.int (Int32.ofNat sz)), .val (.int (Int32.ofNat cap)), .val (.ref ix), .val (.int (Int32.ofNat sz)), .val (.int (Int32.ofNat (i + 1))), .val (.int (Int32.ofNat (es.getD i 0)))] [])) t → Steps p.tables e below (T0.setTop (mkF m 87 #[.val (.ref ax), .val (.ref ix), .val (.int (Int32.ofNat cnt)), .val (.int (Int32.ofNat sz)), .val (.int (Int32.ofNat cap)), .val (.ref ix), .val (.int (Int32.ofNat sz)), .val (.int (Int32.ofNat i)), s8] [])) t := by
  have pre0 : ∀ t, Steps p.tables e below (T0.setTop (mkF m 87 #[.val (.ref ax), .val (.ref ix), .val (.int (Int32.ofNat cnt)), .val (.int (Int32.ofNat sz)), .val (.int (Int32.ofNat cap)), .val (.ref ix), .val (.int (Int32.ofNat sz)), .val (.int (Int32.ofNat i)), s8] [])) t → Steps p.tables e below (T0.setTop (mkF m 87 #[.val (.ref ax), .val (.ref ix), .val (.int (Int32.ofNat cnt)), .val (.int (Int32.ofNat sz)), .val (.int (Int32.ofNat cap)), .val (.ref ix), .val (.int (Int32.ofNat sz)), .val (.int (Int32.ofNat i)), s8] [])) t := fun t k => k
  have pre2 : ∀ t, Steps p.tables e below (T0.setTop (mkF m 91 #[.val (.ref ax), .val (.ref ix), .val (.int (Int32.ofNat cnt)), .val (.int (Int32.ofNat sz)), .val (.int (Int32.ofNat cap)), .val (.ref ix), .val (.int (Int32.ofNat sz)), .val (.int (Int32.ofNat i)), s8] [(.int (Int32.ofNat sz)), (.int (Int32.ofNat i))])) t → Steps p.tables e below (T0.setTop (mkF m 87 #[.val (.ref ax), .val (.ref ix), .val (.int (Int32.ofNat cnt)), .val (.int (Int32.ofNat sz)), .val (.int (Int32.ofNat cap)), .val (.ref ix), .val (.int (Int32.ofNat sz)), .val (.int (Int32.ofNat i)), s8] [])) t := fun t k => pre0 t (by
    show Steps p.tables e below (T0.setTop (mkF m 87 #[.val (.ref ax), .val (.ref ix), .val (.int (Int32.ofNat cnt)), .val (.int (Int32.ofNat sz)), .val (.int (Int32.ofNat cap)), .val (.ref ix), .val (.int (Int32.ofNat sz)), .val (.int (Int32.ofNat i)), s8] [])) _
    refine XS.iload X0.here hx rfl (hb hby d2_87) rfl ?_
    refine XS.iload X0.here hx rfl (hb hby d2_89) rfl ?_
    exact k)
  have hb1 : (Int32.ofNat i) < (Int32.ofNat sz) := n_lt hi hbd
  have pre3 : ∀ t, Steps p.tables e below (T0.setTop (mkF m 102 #[.val (.ref ax), .val (.ref ix), .val (.int (Int32.ofNat cnt)), .val (.int (Int32.ofNat sz)), .val (.int (Int32.ofNat cap)), .val (.ref ix), .val (.int (Int32.ofNat sz)), .val (.int (Int32.ofNat i)), .val (.int (Int32.ofNat (es.getD i 0)))] [(.ref ax)])) t → Steps p.tables e below (T0.setTop (mkF m 87 #[.val (.ref ax), .val (.ref ix), .val (.int (Int32.ofNat cnt)), .val (.int (Int32.ofNat sz)), .val (.int (Int32.ofNat cap)), .val (.ref ix), .val (.int (Int32.ofNat sz)), .val (.int (Int32.ofNat i)), s8] [])) t := fun t k => pre2 t (by
    show Steps p.tables e below (T0.setTop (mkF m 91 #[.val (.ref ax), .val (.ref ix), .val (.int (Int32.ofNat cnt)), .val (.int (Int32.ofNat sz)), .val (.int (Int32.ofNat cap)), .val (.ref ix), .val (.int (Int32.ofNat sz)), .val (.int (Int32.ofNat i)), s8] [(.int (Int32.ofNat sz)), (.int (Int32.ofNat i))])) _
    refine XS.icmpNo X0.here hx rfl (hb hby d2_91) rfl (tlt hb1).2.1 ?_
    refine XS.aload X0.here hx rfl (hb hby d2_94) rfl rfl ?_
    refine XS.iload X0.here hx rfl (hb hby d2_96) rfl ?_
    refine gIald X0 hx hZ e0 R0 2 rfl (j := (Int32.ofNat i)) (v := (.int (Int32.ofNat (es.getD i 0)))) (n_nn hbd98) (nl_at hin98 hbd98) (g := (mkF m 98 #[.val (.ref ax), .val (.ref ix), .val (.int (Int32.ofNat cnt)), .val (.int (Int32.ofNat sz)), .val (.int (Int32.ofNat cap)), .val (.ref ix), .val (.int (Int32.ofNat sz)), .val (.int (Int32.ofNat i)), s8] [(.int (Int32.ofNat i)), (.ref ix)])) rfl rfl (hb hby d2_98) _ ?_
    refine XS.istoreS X0.here hx rfl (hb hby d2_99) rfl (o := s8) rfl hs8 ?_
    refine XS.aloadN X0.here hx rfl (hb hby d2_101) rfl rfl ?_
    exact k)
  obtain ⟨T4, X4, e4, st4⟩ := gGet X0 hx hZ hown (host := "") (Or.inl (hw _ (List.mem_of_getElem? (i := 36) rfl))) e0 R0 0 4 rfl rfl (g := (mkF m 102 #[.val (.ref ax), .val (.ref ix), .val (.int (Int32.ofNat cnt)), .val (.int (Int32.ofNat sz)), .val (.int (Int32.ofNat cap)), .val (.ref ix), .val (.int (Int32.ofNat sz)), .val (.int (Int32.ofNat i)), .val (.int (Int32.ofNat (es.getD i 0)))] [(.ref ax)])) rfl rfl (hb hby d2_102)
  have pre5 : ∀ t, Steps p.tables e below (T4.setTop (mkF m 105 #[.val (.ref ax), .val (.ref ix), .val (.int (Int32.ofNat cnt)), .val (.int (Int32.ofNat sz)), .val (.int (Int32.ofNat cap)), .val (.ref ix), .val (.int (Int32.ofNat sz)), .val (.int (Int32.ofNat i)), .val (.int (Int32.ofNat (es.getD i 0)))] [(.ref b5)])) t → Steps p.tables e below (T0.setTop (mkF m 87 #[.val (.ref ax), .val (.ref ix), .val (.int (Int32.ofNat cnt)), .val (.int (Int32.ofNat sz)), .val (.int (Int32.ofNat cap)), .val (.ref ix), .val (.int (Int32.ofNat sz)), .val (.int (Int32.ofNat i)), s8] [])) t := fun t k => pre3 t (st4 t k)
  have pre6 : ∀ t, Steps p.tables e below (T4.setTop (mkF m 111 #[.val (.ref ax), .val (.ref ix), .val (.int (Int32.ofNat cnt)), .val (.int (Int32.ofNat sz)), .val (.int (Int32.ofNat cap)), .val (.ref ix), .val (.int (Int32.ofNat sz)), .val (.int (Int32.ofNat i)), .val (.int (Int32.ofNat (es.getD i 0)))] [(.int (Int32.ofNat ((en.getD (es.getD i 0) 0) + 1))), (.int (Int32.ofNat (es.getD i 0))), (.ref b5)])) t → Steps p.tables e below (T0.setTop (mkF m 87 #[.val (.ref ax), .val (.ref ix), .val (.int (Int32.ofNat cnt)), .val (.int (Int32.ofNat sz)), .val (.int (Int32.ofNat cap)), .val (.ref ix), .val (.int (Int32.ofNat sz)), .val (.int (Int32.ofNat i)), s8] [])) t := fun t k => pre5 t (by
    show Steps p.tables e below (T4.setTop (mkF m 105 #[.val (.ref ax), .val (.ref ix), .val (.int (Int32.ofNat cnt)), .val (.int (Int32.ofNat sz)), .val (.int (Int32.ofNat cap)), .val (.ref ix), .val (.int (Int32.ofNat sz)), .val (.int (Int32.ofNat i)), .val (.int (Int32.ofNat (es.getD i 0)))] [(.ref b5)])) _
    refine XS.iload X4.here hx rfl (hb hby d2_105) rfl ?_
    show Steps p.tables e below (T4.setTop (mkF m 107 #[.val (.ref ax), .val (.ref ix), .val (.int (Int32.ofNat cnt)), .val (.int (Int32.ofNat sz)), .val (.int (Int32.ofNat cap)), .val (.ref ix), .val (.int (Int32.ofNat sz)), .val (.int (Int32.ofNat i)), .val (.int (Int32.ofNat (es.getD i 0)))] [(.int (Int32.ofNat (es.getD i 0))), (.ref b5)])) _
    jvm_step X4.here [X4.here.top, hx, (hb hby d2_107), Value.category]
    show Steps p.tables e below (T4.setTop (mkF m 108 #[.val (.ref ax), .val (.ref ix), .val (.int (Int32.ofNat cnt)), .val (.int (Int32.ofNat sz)), .val (.int (Int32.ofNat cap)), .val (.ref ix), .val (.int (Int32.ofNat sz)), .val (.int (Int32.ofNat i)), .val (.int (Int32.ofNat (es.getD i 0)))] [(.int (Int32.ofNat (es.getD i 0))), (.ref b5), (.int (Int32.ofNat (es.getD i 0))), (.ref b5)])) _
    refine gIald X4 hx hZ e4 R0 1 rfl (j := (Int32.ofNat (es.getD i 0))) (v := (.int (Int32.ofNat (en.getD (es.getD i 0) 0)))) (n_nn hbd108) (nl_at hin108 hbd108) (g := (mkF m 108 #[.val (.ref ax), .val (.ref ix), .val (.int (Int32.ofNat cnt)), .val (.int (Int32.ofNat sz)), .val (.int (Int32.ofNat cap)), .val (.ref ix), .val (.int (Int32.ofNat sz)), .val (.int (Int32.ofNat i)), .val (.int (Int32.ofNat (es.getD i 0)))] [(.int (Int32.ofNat (es.getD i 0))), (.ref b5), (.int (Int32.ofNat (es.getD i 0))), (.ref b5)])) rfl rfl (hb hby d2_108) _ ?_
    refine XS.iconst X4.here hx rfl (hb hby d2_109) ?_
    refine XS.iadd X4.here hx rfl (hb hby d2_110) rfl ?_
    change Steps p.tables e below (T4.setTop (mkF m 111 #[.val (.ref ax), .val (.ref ix), .val (.int (Int32.ofNat cnt)), .val (.int (Int32.ofNat sz)), .val (.int (Int32.ofNat cap)), .val (.ref ix), .val (.int (Int32.ofNat sz)), .val (.int (Int32.ofNat i)), .val (.int (Int32.ofNat (es.getD i 0)))] [(.int ((Int32.ofNat (en.getD (es.getD i 0) 0)) + (1 : Int32))), (.int (Int32.ofNat (es.getD i 0))), (.ref b5)])) _
    rw [n_one]
    exact k)
  obtain ⟨T7, h7, ls7, X7, e7, N7, R7, st7⟩ := gIst X4 hx hZ e4 N0 R0 1 rfl (j := (Int32.ofNat (es.getD i 0))) (n_nn hsb111) ((es.getD i 0)) (n_ix hsb111) (nl_lt hsn111) (g := (mkF m 111 #[.val (.ref ax), .val (.ref ix), .val (.int (Int32.ofNat cnt)), .val (.int (Int32.ofNat sz)), .val (.int (Int32.ofNat cap)), .val (.ref ix), .val (.int (Int32.ofNat sz)), .val (.int (Int32.ofNat i)), .val (.int (Int32.ofNat (es.getD i 0)))] [(.int (Int32.ofNat ((en.getD (es.getD i 0) 0) + 1))), (.int (Int32.ofNat (es.getD i 0))), (.ref b5)])) rfl rfl (hb hby d2_111)
  replace R7 : Rep Z n0 h7 ((ax, Obj "com/example/witgen/witgen/regex/Partition" [("elements", "[I", (.ref b1)), ("location", "[I", (.ref b2)), ("blockOf", "[I", (.ref b3)), ("start", "[I", (.ref b4)), ("end", "[I", (.ref b5)), ("marked", "[I", (.ref b6)), ("touched", "[I", (.ref b7)), ("blocks", "I", (.int (Int32.ofNat cnt)))]) :: (b5, Ar .int (nl (en.set (es.getD i 0) ((en.getD (es.getD i 0) 0) + 1)))) :: (ix, Ar .int (nl es)) :: Rst) := by rw [← nl_set en (es.getD i 0) ((en.getD (es.getD i 0) 0) + 1)]; exact R7
  have pre8 : ∀ t, Steps p.tables e below (T7.setTop (mkF m 112 #[.val (.ref ax), .val (.ref ix), .val (.int (Int32.ofNat cnt)), .val (.int (Int32.ofNat sz)), .val (.int (Int32.ofNat cap)), .val (.ref ix), .val (.int (Int32.ofNat sz)), .val (.int (Int32.ofNat i)), .val (.int (Int32.ofNat (es.getD i 0)))] [])) t → Steps p.tables e below (T0.setTop (mkF m 87 #[.val (.ref ax), .val (.ref ix), .val (.int (Int32.ofNat cnt)), .val (.int (Int32.ofNat sz)), .val (.int (Int32.ofNat cap)), .val (.ref ix), .val (.int (Int32.ofNat sz)), .val (.int (Int32.ofNat i)), s8] [])) t := fun t k => pre6 t (st7 t k)
  have pre9 : ∀ t, Steps p.tables e below (T7.setTop (mkF m 87 #[.val (.ref ax), .val (.ref ix), .val (.int (Int32.ofNat cnt)), .val (.int (Int32.ofNat sz)), .val (.int (Int32.ofNat cap)), .val (.ref ix), .val (.int (Int32.ofNat sz)), .val (.int (Int32.ofNat (i + 1))), .val (.int (Int32.ofNat (es.getD i 0)))] [])) t → Steps p.tables e below (T0.setTop (mkF m 87 #[.val (.ref ax), .val (.ref ix), .val (.int (Int32.ofNat cnt)), .val (.int (Int32.ofNat sz)), .val (.int (Int32.ofNat cap)), .val (.ref ix), .val (.int (Int32.ofNat sz)), .val (.int (Int32.ofNat i)), s8] [])) t := fun t k => pre8 t (by
    show Steps p.tables e below (T7.setTop (mkF m 112 #[.val (.ref ax), .val (.ref ix), .val (.int (Int32.ofNat cnt)), .val (.int (Int32.ofNat sz)), .val (.int (Int32.ofNat cap)), .val (.ref ix), .val (.int (Int32.ofNat sz)), .val (.int (Int32.ofNat i)), .val (.int (Int32.ofNat (es.getD i 0)))] [])) _
    refine XS.iinc X7.here hx rfl (hb hby d2_112) rfl (l' := #[.val (.ref ax), .val (.ref ix), .val (.int (Int32.ofNat cnt)), .val (.int (Int32.ofNat sz)), .val (.int (Int32.ofNat cap)), .val (.ref ix), .val (.int (Int32.ofNat sz)), .val (.int ((Int32.ofNat i) + (1 : Int32))), .val (.int (Int32.ofNat (es.getD i 0)))]) rfl ?_
    change Steps p.tables e below (T7.setTop (mkF m 115 #[.val (.ref ax), .val (.ref ix), .val (.int (Int32.ofNat cnt)), .val (.int (Int32.ofNat sz)), .val (.int (Int32.ofNat cap)), .val (.ref ix), .val (.int (Int32.ofNat sz)), .val (.int ((Int32.ofNat i) + (1 : Int32))), .val (.int (Int32.ofNat (es.getD i 0)))] [])) _
    rw [n_one]
    show Steps p.tables e below (T7.setTop (mkF m 115 #[.val (.ref ax), .val (.ref ix), .val (.int (Int32.ofNat cnt)), .val (.int (Int32.ofNat sz)), .val (.int (Int32.ofNat cap)), .val (.ref ix), .val (.int (Int32.ofNat sz)), .val (.int (Int32.ofNat (i + 1))), .val (.int (Int32.ofNat (es.getD i 0)))] [])) _
    refine XS.goto X7.here hx rfl (pc0 := 115) (pc' := 87) rfl (hb hby d2_115) (by decide) (by decide) ?_
    exact k)
  exact ⟨T7, h7, _, X7, e7, N7, R7, pre9⟩
set_option maxRecDepth 65536 in
set_option maxHeartbeats 40000000 in
theorem l1_out {p : Program} {l : Launch} {e : Env} {R : Room} {s : State} {m : MethodId} {args : Array Value} {below : List Frame} {meth : Method} {c : Code} {T0 : State} {locs : List Loc} {cells slots : Nat} {Z : State} {a0 : Array Value} {h0 : Heap} {n0 : Nat} {Rst : RL} (ax : Addr) (ix : Addr) (b1 : Addr) (b2 : Addr) (b3 : Addr) (b4 : Addr) (b5 : Addr) (b6 : Addr) (b7 : Addr) (cnt : Nat) (sz : Nat) (cap : Nat) (i : Nat) (s8 : Slot) (en : List Nat) (es : List Nat)
    (X0 : Stand p l e R s m args below meth c T0 locs cells slots) (hx : p.tables.exec = Jvm.exec) (hZ : Z.Warmed39 s.vm) (hw : ∀ d ∈ tables_1, d.before a0 Z = true) (hby : c.code = prog_15_method_1_code) (hml : c.maxLocals = 9) (hown : s.vm.findClass "com/example/witgen/witgen/regex/Partition" = some m.cls) (e0 : T0.heap = h0) (N0 : Fr n0 locs) (R0 : Rep Z n0 h0 ((ax, Obj "com/example/witgen/witgen/regex/Partition" [("elements", "[I", (.ref b1)), ("location", "[I", (.ref b2)), ("blockOf", "[I", (.ref b3)), ("start", "[I", (.ref b4)), ("end", "[I", (.ref b5)), ("marked", "[I", (.ref b6)), ("touched", "[I", (.ref b7)), ("blocks", "I", (.int (Int32.ofNat cnt)))]) :: (b5, Ar .int (nl en)) :: (ix, Ar .int (nl es)) :: Rst)) (hi : sz ≤ i) (hbd : i < 1000) :
    ∃ (T' : State) (h' : Heap) (locs' : List Loc), Stand p l e R s m args below meth c T' locs' cells slots ∧ T'.heap = h' ∧ Fr n0 locs' ∧ Rep Z n0 h' ((ax, Obj "com/example/witgen/witgen/regex/Partition" [("elements", "[I", (.ref b1)), ("location", "[I", (.ref b2)), ("blockOf", "[I", (.ref b3)), ("start", "[I", (.ref b4)), ("end", "[I", (.ref b5)), ("marked", "[I", (.ref b6)), ("touched", "[I", (.ref b7)), ("blocks", "I", (.int (Int32.ofNat cnt)))]) :: (b5, Ar .int (nl en)) :: (ix, Ar .int (nl es)) :: Rst) ∧ ∀ t, Steps p.tables e below (T'.setTop (mkF m 118 #[.val (.ref ax), .val (.ref ix), .val (.int (Int32.ofNat cnt)), .val (.int (Int32.ofNat sz)), .val (.int (Int32.ofNat cap)), .val (.ref ix), .val (.int (Int32.ofNat sz)), .val (.int (Int32.ofNat i)), s8] [])) t → Steps p.tables e below (T0.setTop (mkF m 87 #[.val (.ref ax), .val (.ref ix), .val (.int (Int32.ofNat cnt)), .val (.int (Int32.ofNat sz)), .val (.int (Int32.ofNat cap)), .val (.ref ix), .val (.int (Int32.ofNat sz)), .val (.int (Int32.ofNat i)), s8] [])) t := by
  have pre0 : ∀ t, Steps p.tables e below (T0.setTop (mkF m 87 #[.val (.ref ax), .val (.ref ix), .val (.int (Int32.ofNat cnt)), .val (.int (Int32.ofNat sz)), .val (.int (Int32.ofNat cap)), .val (.ref ix), .val (.int (Int32.ofNat sz)), .val (.int (Int32.ofNat i)), s8] [])) t → Steps p.tables e below (T0.setTop (mkF m 87 #[.val (.ref ax), .val (.ref ix), .val (.int (Int32.ofNat cnt)), .val (.int (Int32.ofNat sz)), .val (.int (Int32.ofNat cap)), .val (.ref ix), .val (.int (Int32.ofNat sz)), .val (.int (Int32.ofNat i)), s8] [])) t := fun t k => k
  have pre2 : ∀ t, Steps p.tables e below (T0.setTop (mkF m 91 #[.val (.ref ax), .val (.ref ix), .val (.int (Int32.ofNat cnt)), .val (.int (Int32.ofNat sz)), .val (.int (Int32.ofNat cap)), .val (.ref ix), .val (.int (Int32.ofNat sz)), .val (.int (Int32.ofNat i)), s8] [(.int (Int32.ofNat sz)), (.int (Int32.ofNat i))])) t → Steps p.tables e below (T0.setTop (mkF m 87 #[.val (.ref ax), .val (.ref ix), .val (.int (Int32.ofNat cnt)), .val (.int (Int32.ofNat sz)), .val (.int (Int32.ofNat cap)), .val (.ref ix), .val (.int (Int32.ofNat sz)), .val (.int (Int32.ofNat i)), s8] [])) t := fun t k => pre0 t (by
    show Steps p.tables e below (T0.setTop (mkF m 87 #[.val (.ref ax), .val (.ref ix), .val (.int (Int32.ofNat cnt)), .val (.int (Int32.ofNat sz)), .val (.int (Int32.ofNat cap)), .val (.ref ix), .val (.int (Int32.ofNat sz)), .val (.int (Int32.ofNat i)), s8] [])) _
    refine XS.iload X0.here hx rfl (hb hby d2_87) rfl ?_
    refine XS.iload X0.here hx rfl (hb hby d2_89) rfl ?_
    exact k)
  have hb1 : ¬ ((Int32.ofNat i) < (Int32.ofNat sz)) := n_nlt hi hbd
  have pre3 : ∀ t, Steps p.tables e below (T0.setTop (mkF m 118 #[.val (.ref ax), .val (.ref ix), .val (.int (Int32.ofNat cnt)), .val (.int (Int32.ofNat sz)), .val (.int (Int32.ofNat cap)), .val (.ref ix), .val (.int (Int32.ofNat sz)), .val (.int (Int32.ofNat i)), s8] [])) t → Steps p.tables e below (T0.setTop (mkF m 87 #[.val (.ref ax), .val (.ref ix), .val (.int (Int32.ofNat cnt)), .val (.int (Int32.ofNat sz)), .val (.int (Int32.ofNat cap)), .val (.ref ix), .val (.int (Int32.ofNat sz)), .val (.int (Int32.ofNat i)), s8] [])) t := fun t k => pre2 t (by
    show Steps p.tables e below (T0.setTop (mkF m 91 #[.val (.ref ax), .val (.ref ix), .val (.int (Int32.ofNat cnt)), .val (.int (Int32.ofNat sz)), .val (.int (Int32.ofNat cap)), .val (.ref ix), .val (.int (Int32.ofNat sz)), .val (.int (Int32.ofNat i)), s8] [(.int (Int32.ofNat sz)), (.int (Int32.ofNat i))])) _
    refine XS.icmpYes X0.here hx rfl (pc0 := 91) (pc' := 118) rfl (hb hby d2_91) rfl (flt hb1).2.1 (by decide) (by decide) ?_
    exact k)
  exact ⟨T0, h0, _, X0, e0, N0, R0, pre3⟩
def s1 (es : List Nat) : Nat → Nat → List Nat → List Nat
  | 0, _, en => en
  | k + 1, i, en => s1 es k (i + 1) (en.set (es.getD i 0) (en.getD (es.getD i 0) 0 + 1))
def ok1 (es : List Nat) : Nat → Nat → List Nat → Bool
  | 0, _, _ => true
  | k + 1, i, en => decide (i < es.length) && decide (i < 1000) && decide (es.getD i 0 < en.length) && decide (es.getD i 0 < 1000) && ok1 es k (i + 1) (en.set (es.getD i 0) (en.getD (es.getD i 0) 0 + 1))
theorem l1_loop {p : Program} {l : Launch} {e : Env} {R : Room} {s : State} {m : MethodId} {args : Array Value} {below : List Frame} {meth : Method} {c : Code} {cells slots : Nat} {Z : State} {a0 : Array Value} {n0 : Nat} {Rst : RL} (ax ix : Addr) (b1 b2 b3 b4 b5 b6 b7 : Addr) (cnt sz cap : Nat) (es : List Nat) (hbd : sz < 1000) (hx : p.tables.exec = Jvm.exec) (hZ : Z.Warmed39 s.vm) (hw : ∀ d ∈ tables_1, d.before a0 Z = true) (hby : c.code = prog_15_method_1_code) (hml : c.maxLocals = 9) (hown : s.vm.findClass "com/example/witgen/witgen/regex/Partition" = some m.cls) :
    ∀ (k i : Nat) (s8 : Slot) (en : List Nat) (T0 : State) (locs : List Loc) (h0 : Heap), i + k = sz → ok1 es k i en = true → One1 s8 → Stand p l e R s m args below meth c T0 locs cells slots → T0.heap = h0 → Fr n0 locs → Rep Z n0 h0 ((ax, Obj "com/example/witgen/witgen/regex/Partition" [("elements", "[I", (.ref b1)), ("location", "[I", (.ref b2)), ("blockOf", "[I", (.ref b3)), ("start", "[I", (.ref b4)), ("end", "[I", (.ref b5)), ("marked", "[I", (.ref b6)), ("touched", "[I", (.ref b7)), ("blocks", "I", (.int (Int32.ofNat cnt)))]) :: (b5, Ar .int (nl en)) :: (ix, Ar .int (nl es)) :: Rst) →
      ∃ (s8' : Slot) (T' : State) (h' : Heap) (locs' : List Loc), One1 s8' ∧ Stand p l e R s m args below meth c T' locs' cells slots ∧ T'.heap = h' ∧ Fr n0 locs' ∧ Rep Z n0 h' ((ax, Obj "com/example/witgen/witgen/regex/Partition" [("elements", "[I", (.ref b1)), ("location", "[I", (.ref b2)), ("blockOf", "[I", (.ref b3)), ("start", "[I", (.ref b4)), ("end", "[I", (.ref b5)), ("marked", "[I", (.ref b6)), ("touched", "[I", (.ref b7)), ("blocks", "I", (.int (Int32.ofNat cnt)))]) :: (b5, Ar .int (nl (s1 es k i en))) :: (ix, Ar .int (nl es)) :: Rst) ∧ ∀ t, Steps p.tables e below (T'.setTop (mkF m 118 #[.val (.ref ax), .val (.ref ix), .val (.int (Int32.ofNat cnt)), .val (.int (Int32.ofNat sz)), .val (.int (Int32.ofNat cap)), .val (.ref ix), .val (.int (Int32.ofNat sz)), .val (.int (Int32.ofNat sz)), s8'] [])) t → Steps p.tables e below (T0.setTop (mkF m 87 #[.val (.ref ax), .val (.ref ix), .val (.int (Int32.ofNat cnt)), .val (.int (Int32.ofNat sz)), .val (.int (Int32.ofNat cap)), .val (.ref ix), .val (.int (Int32.ofNat sz)), .val (.int (Int32.ofNat i)), s8] [])) t := by
  intro k
  induction k with
  | zero =>
    intro i s8 en T0 locs h0 hi ok o8 X0 e0 N0 R0
    have hi' : i = sz := by omega
    subst hi'
    obtain ⟨T1, h1, ls1, X1, e1, N1, R1, st1⟩ := l1_out ax ix b1 b2 b3 b4 b5 b6 b7 cnt i cap i s8 en es X0 hx hZ hw hby hml hown e0 N0 R0 (Nat.le_refl _) hbd
    exact ⟨s8, T1, h1, ls1, o8, X1, e1, N1, R1, st1⟩
  | succ k ih =>
    intro i s8 en T0 locs h0 hi ok o8 X0 e0 N0 R0
    simp only [ok1, Bool.and_eq_true, decide_eq_true_eq] at ok
    obtain ⟨⟨⟨⟨a1, a2⟩, a3⟩, a4⟩, a5⟩ := ok
    obtain ⟨T1, h1, ls1, X1, e1, N1, R1, st1⟩ := l1_turn ax ix b1 b2 b3 b4 b5 b6 b7 cnt sz cap i s8 en es X0 hx hZ hw hby hml hown e0 N0 R0 (by omega) hbd o8 a1 a2 a3 a4 a3 a4
    obtain ⟨s8', T2, h2, ls2, o2, X2, e2, N2, R2, st2⟩ := ih (i + 1) (.val (.int (Int32.ofNat (es.getD i 0)))) _ T1 ls1 h1 (by omega) a5 (One1.v rfl) X1 e1 N1 R1
    exact ⟨s8', T2, h2, ls2, o2, X2, e2, N2, R2, fun t q => st1 t (st2 t q)⟩
theorem d2_121 : decode prog_15_method_1_code 121 = .ok (.iload 5, 2) := by decide +kernel
theorem d2_123 : decode prog_15_method_1_code 123 = .ok (.iload_n 2, 1) := by decide +kernel
theorem d2_124 : decode prog_15_method_1_code 124 = .ok (.if_icmp .ge 28, 3) := by decide +kernel
theorem d2_127 : decode prog_15_method_1_code 127 = .ok (.aload_n 0, 1) := by decide +kernel
theorem d2_128 : decode prog_15_method_1_code 128 = .ok (.getfield 33, 3) := by decide +kernel
theorem d2_131 : decode prog_15_method_1_code 131 = .ok (.iload 5, 2) := by decide +kernel
theorem d2_133 : decode prog_15_method_1_code 133 = .ok (.dup2, 1) := by decide +kernel
theorem d2_134 : decode prog_15_method_1_code 134 = .ok (.iaload, 1) := by decide +kernel
theorem d2_135 : decode prog_15_method_1_code 135 = .ok (.aload_n 0, 1) := by decide +kernel
theorem d2_136 : decode prog_15_method_1_code 136 = .ok (.getfield 33, 3) := by decide +kernel
theorem d2_139 : decode prog_15_method_1_code 139 = .ok (.iload 5, 2) := by decide +kernel
theorem d2_141 : decode prog_15_method_1_code 141 = .ok (.iconst 1, 1) := by decide +kernel
theorem d2_142 : decode prog_15_method_1_code 142 = .ok (.isub, 1) := by decide +kernel
theorem d2_143 : decode prog_15_method_1_code 143 = .ok (.iaload, 1) := by decide +kernel
theorem d2_144 : decode prog_15_method_1_code 144 = .ok (.iadd, 1) := by decide +kernel
theorem d2_145 : decode prog_15_method_1_code 145 = .ok (.iastore, 1) := by decide +kernel
theorem d2_146 : decode prog_15_method_1_code 146 = .ok (.iinc 5 1, 3) := by decide +kernel
theorem d2_149 : decode prog_15_method_1_code 149 = .ok (.goto (-28), 3) := by decide +kernel
set_option maxRecDepth 65536 in
set_option maxHeartbeats 40000000 in
theorem l2_turn {p : Program} {l : Launch} {e : Env} {R : Room} {s : State} {m : MethodId} {args : Array Value} {below : List Frame} {meth : Method} {c : Code} {T0 : State} {locs : List Loc} {cells slots : Nat} {Z : State} {a0 : Array Value} {h0 : Heap} {n0 : Nat} {Rst : RL} (ax : Addr) (ix : Addr) (b1 : Addr) (b2 : Addr) (b3 : Addr) (b4 : Addr) (b5 : Addr) (b6 : Addr) (b7 : Addr) (cnt : Nat) (sz : Nat) (cap : Nat) (i : Nat) (s6 : Slot) (s7 : Slot) (s8 : Slot) (en : List Nat)
    (X0 : Stand p l e R s m args below meth c T0 locs cells slots) (hx : p.tables.exec = Jvm.exec) (hZ : Z.Warmed39 s.vm) (hw : ∀ d ∈ tables_1, d.before a0 Z = true) (hby : c.code = prog_15_method_1_code) (hml : c.maxLocals = 9) (hown : s.vm.findClass "com/example/witgen/witgen/regex/Partition" = some m.cls) (e0 : T0.heap = h0) (N0 : Fr n0 locs) (R0 : Rep Z n0 h0 ((ax, Obj "com/example/witgen/witgen/regex/Partition" [("elements", "[I", (.ref b1)), ("location", "[I", (.ref b2)), ("blockOf", "[I", (.ref b3)), ("start", "[I", (.ref b4)), ("end", "[I", (.ref b5)), ("marked", "[I", (.ref b6)), ("touched", "[I", (.ref b7)), ("blocks", "I", (.int (Int32.ofNat cnt)))]) :: (b5, Ar .int (nl en)) :: Rst)) (hi : i < cnt) (hbd : cnt < 1000) (hin134 : i < en.length) (hbd134 : i < 1000) (hpr142 : 1 ≤ i) (hin143 : (i - 1) < en.length) (hbd143 : (i - 1) < 1000) (hsn145 : i < en.length) (hsb145 : i < 1000) :
    ∃ (T' : State) (h' : Heap) (locs' : List Loc), Stand p l e R s m args below meth c T' locs' cells slots ∧ T'.heap = h' ∧ Fr n0 locs' ∧ Rep Z n0 h' ((ax, Obj "com/example/witgen/witgen/regex/Partition" [("elements", "[I", (.ref b1)), ("location", "[I", (.ref b2)), ("blockOf", "[I", (.ref b3)), ("start", "[I", (.ref b4)), ("end", "[I", (.ref b5)), ("marked", "[I", (.ref b6)), ("touched", "[I", (.ref b7)), ("blocks", "I", (.int (Int32.ofNat cnt)))]) :: (b5, Ar .int (nl (en.set i ((en.getD i 0) + (en.getD (i - 1) 0))))) :: Rst) ∧ ∀ t, Steps p.tables e below (T'.setTop (mkF m 121 #[.val (.ref ax), .val (.ref ix), .val (.int (Int32.ofNat cnt)), .val (.int (Int32.ofNat sz)), .val (.int (Int32.ofNat cap)), .val (.int (Int32.ofNat (i + 1))), s6, s7, s8] [])) t → Steps p.tables e below (T0.setTop (mkF m 121 #[.val (.ref ax), .val (.ref ix), .val (.int (Int32.ofNat cnt)), .val (.int (Int32.ofNat sz)), .val (.int (Int32.ofNat cap)), .val (.int (Int32.ofNat i)), s6, s7, s8] [])) t := by
  have pre0 : ∀ t, Steps p.tables e below (T0.setTop (mkF m 121 #[.val (.ref ax), .val (.ref ix), .val (.int (Int32.ofNat cnt)), .val (.int (Int32.ofNat sz)), .val (.int (Int32.ofNat cap)), .val (.int (Int32.ofNat i)), s6, s7, s8] [])) t → Steps p.tables e below (T0.setTop (mkF m 121 #[.val (.ref ax), .val (.ref ix), .val (.int (Int32.ofNat cnt)), .val (.int (Int32.ofNat sz)), .val (.int (Int32.ofNat cap)), .val (.int (Int32.ofNat i)), s6, s7, s8] [])) t := fun t k => k
  have pre2 : ∀ t, Steps p.tables e below (T0.setTop (mkF m 124 #[.val (.ref ax), .val (.ref ix), .val (.int (Int32.ofNat cnt)), .val (.int (Int32.ofNat sz)), .val (.int (Int32.ofNat cap)), .val (.int (Int32.ofNat i)), s6, s7, s8] [(.int (Int32.ofNat cnt)), (.int (Int32.ofNat i))])) t → Steps p.tables e below (T0.setTop (mkF m 121 #[.val (.ref ax), .val (.ref ix), .val (.int (Int32.ofNat cnt)), .val (.int (Int32.ofNat sz)), .val (.int (Int32.ofNat cap)), .val (.int (Int32.ofNat i)), s6, s7, s8] [])) t := fun t k => pre0 t (by
    show Steps p.tables e below (T0.setTop (mkF m 121 #[.val (.ref ax), .val (.ref ix), .val (.int (Int32.ofNat cnt)), .val (.int (Int32.ofNat sz)), .val (.int (Int32.ofNat cap)), .val (.int (Int32.ofNat i)), s6, s7, s8] [])) _
    refine XS.iload X0.here hx rfl (hb hby d2_121) rfl ?_
    refine XS.iloadN X0.here hx rfl (hb hby d2_123) rfl ?_
    exact k)
  have hb1 : (Int32.ofNat i) < (Int32.ofNat cnt) := n_lt hi hbd
  have pre3 : ∀ t, Steps p.tables e below (T0.setTop (mkF m 128 #[.val (.ref ax), .val (.ref ix), .val (.int (Int32.ofNat cnt)), .val (.int (Int32.ofNat sz)), .val (.int (Int32.ofNat cap)), .val (.int (Int32.ofNat i)), s6, s7, s8] [(.ref ax)])) t → Steps p.tables e below (T0.setTop (mkF m 121 #[.val (.ref ax), .val (.ref ix), .val (.int (Int32.ofNat cnt)), .val (.int (Int32.ofNat sz)), .val (.int (Int32.ofNat cap)), .val (.int (Int32.ofNat i)), s6, s7, s8] [])) t := fun t k => pre2 t (by
    show Steps p.tables e below (T0.setTop (mkF m 124 #[.val (.ref ax), .val (.ref ix), .val (.int (Int32.ofNat cnt)), .val (.int (Int32.ofNat sz)), .val (.int (Int32.ofNat cap)), .val (.int (Int32.ofNat i)), s6, s7, s8] [(.int (Int32.ofNat cnt)), (.int (Int32.ofNat i))])) _
    refine XS.icmpNo X0.here hx rfl (hb hby d2_124) rfl (tlt hb1).2.1 ?_
    refine XS.aloadN X0.here hx rfl (hb hby d2_127) rfl rfl ?_
    exact k)
  obtain ⟨T4, X4, e4, st4⟩ := gGet X0 hx hZ hown (host := "") (Or.inl (hw _ (List.mem_of_getElem? (i := 36) rfl))) e0 R0 0 4 rfl rfl (g := (mkF m 128 #[.val (.ref ax), .val (.ref ix), .val (.int (Int32.ofNat cnt)), .val (.int (Int32.ofNat sz)), .val (.int (Int32.ofNat cap)), .val (.int (Int32.ofNat i)), s6, s7, s8] [(.ref ax)])) rfl rfl (hb hby d2_128)
  have pre5 : ∀ t, Steps p.tables e below (T4.setTop (mkF m 131 #[.val (.ref ax), .val (.ref ix), .val (.int (Int32.ofNat cnt)), .val (.int (Int32.ofNat sz)), .val (.int (Int32.ofNat cap)), .val (.int (Int32.ofNat i)), s6, s7, s8] [(.ref b5)])) t → Steps p.tables e below (T0.setTop (mkF m 121 #[.val (.ref ax), .val (.ref ix), .val (.int (Int32.ofNat cnt)), .val (.int (Int32.ofNat sz)), .val (.int (Int32.ofNat cap)), .val (.int (Int32.ofNat i)), s6, s7, s8] [])) t := fun t k => pre3 t (st4 t k)
  have pre6 : ∀ t, Steps p.tables e below (T4.setTop (mkF m 136 #[.val (.ref ax), .val (.ref ix), .val (.int (Int32.ofNat cnt)), .val (.int (Int32.ofNat sz)), .val (.int (Int32.ofNat cap)), .val (.int (Int32.ofNat i)), s6, s7, s8] [(.ref ax), (.int (Int32.ofNat (en.getD i 0))), (.int (Int32.ofNat i)), (.ref b5)])) t → Steps p.tables e below (T0.setTop (mkF m 121 #[.val (.ref ax), .val (.ref ix), .val (.int (Int32.ofNat cnt)), .val (.int (Int32.ofNat sz)), .val (.int (Int32.ofNat cap)), .val (.int (Int32.ofNat i)), s6, s7, s8] [])) t := fun t k => pre5 t (by
    show Steps p.tables e below (T4.setTop (mkF m 131 #[.val (.ref ax), .val (.ref ix), .val (.int (Int32.ofNat cnt)), .val (.int (Int32.ofNat sz)), .val (.int (Int32.ofNat cap)), .val (.int (Int32.ofNat i)), s6, s7, s8] [(.ref b5)])) _
    refine XS.iload X4.here hx rfl (hb hby d2_131) rfl ?_
    show Steps p.tables e below (T4.setTop (mkF m 133 #[.val (.ref ax), .val (.ref ix), .val (.int (Int32.ofNat cnt)), .val (.int (Int32.ofNat sz)), .val (.int (Int32.ofNat cap)), .val (.int (Int32.ofNat i)), s6, s7, s8] [(.int (Int32.ofNat i)), (.ref b5)])) _
    jvm_step X4.here [X4.here.top, hx, (hb hby d2_133), Value.category]
    show Steps p.tables e below (T4.setTop (mkF m 134 #[.val (.ref ax), .val (.ref ix), .val (.int (Int32.ofNat cnt)), .val (.int (Int32.ofNat sz)), .val (.int (Int32.ofNat cap)), .val (.int (Int32.ofNat i)), s6, s7, s8] [(.int (Int32.ofNat i)), (.ref b5), (.int (Int32.ofNat i)), (.ref b5)])) _
    refine gIald X4 hx hZ e4 R0 1 rfl (j := (Int32.ofNat i)) (v := (.int (Int32.ofNat (en.getD i 0)))) (n_nn hbd134) (nl_at hin134 hbd134) (g := (mkF m 134 #[.val (.ref ax), .val (.ref ix), .val (.int (Int32.ofNat cnt)), .val (.int (Int32.ofNat sz)), .val (.int (Int32.ofNat cap)), .val (.int (Int32.ofNat i)), s6, s7, s8] [(.int (Int32.ofNat i)), (.ref b5), (.int (Int32.ofNat i)), (.ref b5)])) rfl rfl (hb hby d2_134) _ ?_
    refine XS.aloadN X4.here hx rfl (hb hby d2_135) rfl rfl ?_
    exact k)
  obtain ⟨T7, X7, e7, st7⟩ := gGet X4 hx hZ hown (host := "") (Or.inl (hw _ (List.mem_of_getElem? (i := 36) rfl))) e4 R0 0 4 rfl rfl (g := (mkF m 136 #[.val (.ref ax), .val (.ref ix), .val (.int (Int32.ofNat cnt)), .val (.int (Int32.ofNat sz)), .val (.int (Int32.ofNat cap)), .val (.int (Int32.ofNat i)), s6, s7, s8] [(.ref ax), (.int (Int32.ofNat (en.getD i 0))), (.int (Int32.ofNat i)), (.ref b5)])) rfl rfl (hb hby d2_136)
  have pre8 : ∀ t, Steps p.tables e below (T7.setTop (mkF m 139 #[.val (.ref ax), .val (.ref ix), .val (.int (Int32.ofNat cnt)), .val (.int (Int32.ofNat sz)), .val (.int (Int32.ofNat cap)), .val (.int (Int32.ofNat i)), s6, s7, s8] [(.ref b5), (.int (Int32.ofNat (en.getD i 0))), (.int (Int32.ofNat i)), (.ref b5)])) t → Steps p.tables e below (T0.setTop (mkF m 121 #[.val (.ref ax), .val (.ref ix), .val (.int (Int32.ofNat cnt)), .val (.int (Int32.ofNat sz)), .val (.int (Int32.ofNat cap)), .val (.int (Int32.ofNat i)), s6, s7, s8] [])) t := fun t k => pre6 t (st7 t k)
  have pre9 : ∀ t, Steps p.tables e below (T7.setTop (mkF m 145 #[.val (.ref ax), .val (.ref ix), .val (.int (Int32.ofNat cnt)), .val (.int (Int32.ofNat sz)), .val (.int (Int32.ofNat cap)), .val (.int (Int32.ofNat i)), s6, s7, s8] [(.int (Int32.ofNat ((en.getD i 0) + (en.getD (i - 1) 0)))), (.int (Int32.ofNat i)), (.ref b5)])) t → Steps p.tables e below (T0.setTop (mkF m 121 #[.val (.ref ax), .val (.ref ix), .val (.int (Int32.ofNat cnt)), .val (.int (Int32.ofNat sz)), .val (.int (Int32.ofNat cap)), .val (.int (Int32.ofNat i)), s6, s7, s8] [])) t := fun t k => pre8 t (by
    show Steps p.tables e below (T7.setTop (mkF m 139 #[.val (.ref ax), .val (.ref ix), .val (.int (Int32.ofNat cnt)), .val (.int (Int32.ofNat sz)), .val (.int (Int32.ofNat cap)), .val (.int (Int32.ofNat i)), s6, s7, s8] [(.ref b5), (.int (Int32.ofNat (en.getD i 0))), (.int (Int32.ofNat i)), (.ref b5)])) _
    refine XS.iload X7.here hx rfl (hb hby d2_139) rfl ?_
    refine XS.iconst X7.here hx rfl (hb hby d2_141) ?_
    refine XS.isub X7.here hx rfl (hb hby d2_142) rfl ?_
    change Steps p.tables e below (T7.setTop (mkF m 143 #[.val (.ref ax), .val (.ref ix), .val (.int (Int32.ofNat cnt)), .val (.int (Int32.ofNat sz)), .val (.int (Int32.ofNat cap)), .val (.int (Int32.ofNat i)), s6, s7, s8] [(.int ((Int32.ofNat i) - (1 : Int32))), (.ref b5), (.int (Int32.ofNat (en.getD i 0))), (.int (Int32.ofNat i)), (.ref b5)])) _
    rw [n_pred hpr142]
    show Steps p.tables e below (T7.setTop (mkF m 143 #[.val (.ref ax), .val (.ref ix), .val (.int (Int32.ofNat cnt)), .val (.int (Int32.ofNat sz)), .val (.int (Int32.ofNat cap)), .val (.int (Int32.ofNat i)), s6, s7, s8] [(.int (Int32.ofNat (i - 1))), (.ref b5), (.int (Int32.ofNat (en.getD i 0))), (.int (Int32.ofNat i)), (.ref b5)])) _
    refine gIald X7 hx hZ e7 R0 1 rfl (j := (Int32.ofNat (i - 1))) (v := (.int (Int32.ofNat (en.getD (i - 1) 0)))) (n_nn hbd143) (nl_at hin143 hbd143) (g := (mkF m 143 #[.val (.ref ax), .val (.ref ix), .val (.int (Int32.ofNat cnt)), .val (.int (Int32.ofNat sz)), .val (.int (Int32.ofNat cap)), .val (.int (Int32.ofNat i)), s6, s7, s8] [(.int (Int32.ofNat (i - 1))), (.ref b5), (.int (Int32.ofNat (en.getD i 0))), (.int (Int32.ofNat i)), (.ref b5)])) rfl rfl (hb hby d2_143) _ ?_
    refine XS.iadd X7.here hx rfl (hb hby d2_144) rfl ?_
    change Steps p.tables e below (T7.setTop (mkF m 145 #[.val (.ref ax), .val (.ref ix), .val (.int (Int32.ofNat cnt)), .val (.int (Int32.ofNat sz)), .val (.int (Int32.ofNat cap)), .val (.int (Int32.ofNat i)), s6, s7, s8] [(.int ((Int32.ofNat (en.getD i 0)) + (Int32.ofNat (en.getD (i - 1) 0)))), (.int (Int32.ofNat i)), (.ref b5)])) _
    rw [n_add]
    exact k)
  obtain ⟨T10, h10, ls10, X10, e10, N10, R10, st10⟩ := gIst X7 hx hZ e7 N0 R0 1 rfl (j := (Int32.ofNat i)) (n_nn hsb145) (i) (n_ix hsb145) (nl_lt hsn145) (g := (mkF m 145 #[.val (.ref ax), .val (.ref ix), .val (.int (Int32.ofNat cnt)), .val (.int (Int32.ofNat sz)), .val (.int (Int32.ofNat cap)), .val (.int (Int32.ofNat i)), s6, s7, s8] [(.int (Int32.ofNat ((en.getD i 0) + (en.getD (i - 1) 0)))), (.int (Int32.ofNat i)), (.ref b5)])) rfl rfl (hb hby d2_145)
  replace R10 : Rep Z n0 h10 ((ax, Obj "com/example/witgen/witgen/regex/Partition" [("elements", "[I", (.ref b1)), ("location", "[I", (.ref b2)), ("blockOf", "[I", (.ref b3)), ("start", "[I", (.ref b4)), ("end", "[I", (.ref b5)), ("marked", "[I", (.ref b6)), ("touched", "[I", (.ref b7)), ("blocks", "I", (.int (Int32.ofNat cnt)))]) :: (b5, Ar .int (nl (en.set i ((en.getD i 0) + (en.getD (i - 1) 0))))) :: Rst) := by rw [← nl_set en i ((en.getD i 0) + (en.getD (i - 1) 0))]; exact R10
  have pre11 : ∀ t, Steps p.tables e below (T10.setTop (mkF m 146 #[.val (.ref ax), .val (.ref ix), .val (.int (Int32.ofNat cnt)), .val (.int (Int32.ofNat sz)), .val (.int (Int32.ofNat cap)), .val (.int (Int32.ofNat i)), s6, s7, s8] [])) t → Steps p.tables e below (T0.setTop (mkF m 121 #[.val (.ref ax), .val (.ref ix), .val (.int (Int32.ofNat cnt)), .val (.int (Int32.ofNat sz)), .val (.int (Int32.ofNat cap)), .val (.int (Int32.ofNat i)), s6, s7, s8] [])) t := fun t k => pre9 t (st10 t k)
  have pre12 : ∀ t, Steps p.tables e below (T10.setTop (mkF m 121 #[.val (.ref ax), .val (.ref ix), .val (.int (Int32.ofNat cnt)), .val (.int (Int32.ofNat sz)), .val (.int (Int32.ofNat cap)), .val (.int (Int32.ofNat (i + 1))), s6, s7, s8] [])) t → Steps p.tables e below (T0.setTop (mkF m 121 #[.val (.ref ax), .val (.ref ix), .val (.int (Int32.ofNat cnt)), .val (.int (Int32.ofNat sz)), .val (.int (Int32.ofNat cap)), .val (.int (Int32.ofNat i)), s6, s7, s8] [])) t := fun t k => pre11 t (by
    show Steps p.tables e below (T10.setTop (mkF m 146 #[.val (.ref ax), .val (.ref ix), .val (.int (Int32.ofNat cnt)), .val (.int (Int32.ofNat sz)), .val (.int (Int32.ofNat cap)), .val (.int (Int32.ofNat i)), s6, s7, s8] [])) _
    refine XS.iinc X10.here hx rfl (hb hby d2_146) rfl (l' := #[.val (.ref ax), .val (.ref ix), .val (.int (Int32.ofNat cnt)), .val (.int (Int32.ofNat sz)), .val (.int (Int32.ofNat cap)), .val (.int ((Int32.ofNat i) + (1 : Int32))), s6, s7, s8]) rfl ?_
    change Steps p.tables e below (T10.setTop (mkF m 149 #[.val (.ref ax), .val (.ref ix), .val (.int (Int32.ofNat cnt)), .val (.int (Int32.ofNat sz)), .val (.int (Int32.ofNat cap)), .val (.int ((Int32.ofNat i) + (1 : Int32))), s6, s7, s8] [])) _
    rw [n_one]
    show Steps p.tables e below (T10.setTop (mkF m 149 #[.val (.ref ax), .val (.ref ix), .val (.int (Int32.ofNat cnt)), .val (.int (Int32.ofNat sz)), .val (.int (Int32.ofNat cap)), .val (.int (Int32.ofNat (i + 1))), s6, s7, s8] [])) _
    refine XS.goto X10.here hx rfl (pc0 := 149) (pc' := 121) rfl (hb hby d2_149) (by decide) (by decide) ?_
    exact k)
  exact ⟨T10, h10, _, X10, e10, N10, R10, pre12⟩
set_option maxRecDepth 65536 in
set_option maxHeartbeats 40000000 in
theorem l2_out {p : Program} {l : Launch} {e : Env} {R : Room} {s : State} {m : MethodId} {args : Array Value} {below : List Frame} {meth : Method} {c : Code} {T0 : State} {locs : List Loc} {cells slots : Nat} {Z : State} {a0 : Array Value} {h0 : Heap} {n0 : Nat} {Rst : RL} (ax : Addr) (ix : Addr) (b1 : Addr) (b2 : Addr) (b3 : Addr) (b4 : Addr) (b5 : Addr) (b6 : Addr) (b7 : Addr) (cnt : Nat) (sz : Nat) (cap : Nat) (i : Nat) (s6 : Slot) (s7 : Slot) (s8 : Slot) (en : List Nat)
    (X0 : Stand p l e R s m args below meth c T0 locs cells slots) (hx : p.tables.exec = Jvm.exec) (hZ : Z.Warmed39 s.vm) (hw : ∀ d ∈ tables_1, d.before a0 Z = true) (hby : c.code = prog_15_method_1_code) (hml : c.maxLocals = 9) (hown : s.vm.findClass "com/example/witgen/witgen/regex/Partition" = some m.cls) (e0 : T0.heap = h0) (N0 : Fr n0 locs) (R0 : Rep Z n0 h0 ((ax, Obj "com/example/witgen/witgen/regex/Partition" [("elements", "[I", (.ref b1)), ("location", "[I", (.ref b2)), ("blockOf", "[I", (.ref b3)), ("start", "[I", (.ref b4)), ("end", "[I", (.ref b5)), ("marked", "[I", (.ref b6)), ("touched", "[I", (.ref b7)), ("blocks", "I", (.int (Int32.ofNat cnt)))]) :: (b5, Ar .int (nl en)) :: Rst)) (hi : cnt ≤ i) (hbd : i < 1000) :
    ∃ (T' : State) (h' : Heap) (locs' : List Loc), Stand p l e R s m args below meth c T' locs' cells slots ∧ T'.heap = h' ∧ Fr n0 locs' ∧ Rep Z n0 h' ((ax, Obj "com/example/witgen/witgen/regex/Partition" [("elements", "[I", (.ref b1)), ("location", "[I", (.ref b2)), ("blockOf", "[I", (.ref b3)), ("start", "[I", (.ref b4)), ("end", "[I", (.ref b5)), ("marked", "[I", (.ref b6)), ("touched", "[I", (.ref b7)), ("blocks", "I", (.int (Int32.ofNat cnt)))]) :: (b5, Ar .int (nl en)) :: Rst) ∧ ∀ t, Steps p.tables e below (T'.setTop (mkF m 152 #[.val (.ref ax), .val (.ref ix), .val (.int (Int32.ofNat cnt)), .val (.int (Int32.ofNat sz)), .val (.int (Int32.ofNat cap)), .val (.int (Int32.ofNat i)), s6, s7, s8] [])) t → Steps p.tables e below (T0.setTop (mkF m 121 #[.val (.ref ax), .val (.ref ix), .val (.int (Int32.ofNat cnt)), .val (.int (Int32.ofNat sz)), .val (.int (Int32.ofNat cap)), .val (.int (Int32.ofNat i)), s6, s7, s8] [])) t := by
  have pre0 : ∀ t, Steps p.tables e below (T0.setTop (mkF m 121 #[.val (.ref ax), .val (.ref ix), .val (.int (Int32.ofNat cnt)), .val (.int (Int32.ofNat sz)), .val (.int (Int32.ofNat cap)), .val (.int (Int32.ofNat i)), s6, s7, s8] [])) t → Steps p.tables e below (T0.setTop (mkF m 121 #[.val (.ref ax), .val (.ref ix), .val (.int (Int32.ofNat cnt)), .val (.int (Int32.ofNat sz)), .val (.int (Int32.ofNat cap)), .val (.int (Int32.ofNat i)), s6, s7, s8] [])) t := fun t k => k
  have pre2 : ∀ t, Steps p.tables e below (T0.setTop (mkF m 124 #[.val (.ref ax), .val (.ref ix), .val (.int (Int32.ofNat cnt)), .val (.int (Int32.ofNat sz)), .val (.int (Int32.ofNat cap)), .val (.int (Int32.ofNat i)), s6, s7, s8] [(.int (Int32.ofNat cnt)), (.int (Int32.ofNat i))])) t → Steps p.tables e below (T0.setTop (mkF m 121 #[.val (.ref ax), .val (.ref ix), .val (.int (Int32.ofNat cnt)), .val (.int (Int32.ofNat sz)), .val (.int (Int32.ofNat cap)), .val (.int (Int32.ofNat i)), s6, s7, s8] [])) t := fun t k => pre0 t (by
    show Steps p.tables e below (T0.setTop (mkF m 121 #[.val (.ref ax), .val (.ref ix), .val (.int (Int32.ofNat cnt)), .val (.int (Int32.ofNat sz)), .val (.int (Int32.ofNat cap)), .val (.int (Int32.ofNat i)), s6, s7, s8] [])) _
    refine XS.iload X0.here hx rfl (hb hby d2_121) rfl ?_
    refine XS.iloadN X0.here hx rfl (hb hby d2_123) rfl ?_
    exact k)
  have hb1 : ¬ ((Int32.ofNat i) < (Int32.ofNat cnt)) := n_nlt hi hbd
  have pre3 : ∀ t, Steps p.tables e below (T0.setTop (mkF m 152 #[.val (.ref ax), .val (.ref ix), .val (.int (Int32.ofNat cnt)), .val (.int (Int32.ofNat sz)), .val (.int (Int32.ofNat cap)), .val (.int (Int32.ofNat i)), s6, s7, s8] [])) t → Steps p.tables e below (T0.setTop (mkF m 121 #[.val (.ref ax), .val (.ref ix), .val (.int (Int32.ofNat cnt)), .val (.int (Int32.ofNat sz)), .val (.int (Int32.ofNat cap)), .val (.int (Int32.ofNat i)), s6, s7, s8] [])) t := fun t k => pre2 t (by
    show Steps p.tables e below (T0.setTop (mkF m 124 #[.val (.ref ax), .val (.ref ix), .val (.int (Int32.ofNat cnt)), .val (.int (Int32.ofNat sz)), .val (.int (Int32.ofNat cap)), .val (.int (Int32.ofNat i)), s6, s7, s8] [(.int (Int32.ofNat cnt)), (.int (Int32.ofNat i))])) _
    refine XS.icmpYes X0.here hx rfl (pc0 := 124) (pc' := 152) rfl (hb hby d2_124) rfl (flt hb1).2.1 (by decide) (by decide) ?_
    exact k)
  exact ⟨T0, h0, _, X0, e0, N0, R0, pre3⟩
def s2 : Nat → Nat → List Nat → List Nat
  | 0, _, en => en
  | k + 1, i, en => s2 k (i + 1) (en.set i (en.getD i 0 + en.getD (i - 1) 0))
def ok2 : Nat → Nat → List Nat → Bool
  | 0, _, _ => true
  | k + 1, i, en => decide (1 ≤ i) && decide (i < en.length) && decide (i < 1000) && ok2 k (i + 1) (en.set i (en.getD i 0 + en.getD (i - 1) 0))
theorem l2_loop {p : Program} {l : Launch} {e : Env} {R : Room} {s : State} {m : MethodId} {args : Array Value} {below : List Frame} {meth : Method} {c : Code} {cells slots : Nat} {Z : State} {a0 : Array Value} {n0 : Nat} {Rst : RL} (ax ix : Addr) (b1 b2 b3 b4 b5 b6 b7 : Addr) (cnt sz cap : Nat) (s6 s7 s8 : Slot) (hbd : cnt < 1000) (hx : p.tables.exec = Jvm.exec) (hZ : Z.Warmed39 s.vm) (hw : ∀ d ∈ tables_1, d.before a0 Z = true) (hby : c.code = prog_15_method_1_code) (hml : c.maxLocals = 9) (hown : s.vm.findClass "com/example/witgen/witgen/regex/Partition" = some m.cls) :
    ∀ (k i : Nat) (en : List Nat) (T0 : State) (locs : List Loc) (h0 : Heap), i + k = cnt → ok2 k i en = true → Stand p l e R s m args below meth c T0 locs cells slots → T0.heap = h0 → Fr n0 locs → Rep Z n0 h0 ((ax, Obj "com/example/witgen/witgen/regex/Partition" [("elements", "[I", (.ref b1)), ("location", "[I", (.ref b2)), ("blockOf", "[I", (.ref b3)), ("start", "[I", (.ref b4)), ("end", "[I", (.ref b5)), ("marked", "[I", (.ref b6)), ("touched", "[I", (.ref b7)), ("blocks", "I", (.int (Int32.ofNat cnt)))]) :: (b5, Ar .int (nl en)) :: Rst) →
      ∃ (T' : State) (h' : Heap) (locs' : List Loc), Stand p l e R s m args below meth c T' locs' cells slots ∧ T'.heap = h' ∧ Fr n0 locs' ∧ Rep Z n0 h' ((ax, Obj "com/example/witgen/witgen/regex/Partition" [("elements", "[I", (.ref b1)), ("location", "[I", (.ref b2)), ("blockOf", "[I", (.ref b3)), ("start", "[I", (.ref b4)), ("end", "[I", (.ref b5)), ("marked", "[I", (.ref b6)), ("touched", "[I", (.ref b7)), ("blocks", "I", (.int (Int32.ofNat cnt)))]) :: (b5, Ar .int (nl (s2 k i en))) :: Rst) ∧ ∀ t, Steps p.tables e below (T'.setTop (mkF m 152 #[.val (.ref ax), .val (.ref ix), .val (.int (Int32.ofNat cnt)), .val (.int (Int32.ofNat sz)), .val (.int (Int32.ofNat cap)), .val (.int (Int32.ofNat cnt)), s6, s7, s8] [])) t → Steps p.tables e below (T0.setTop (mkF m 121 #[.val (.ref ax), .val (.ref ix), .val (.int (Int32.ofNat cnt)), .val (.int (Int32.ofNat sz)), .val (.int (Int32.ofNat cap)), .val (.int (Int32.ofNat i)), s6, s7, s8] [])) t := by
  intro k
  induction k with
  | zero =>
    intro i en T0 locs h0 hi ok X0 e0 N0 R0
    have hi' : i = cnt := by omega
    subst hi'
    exact l2_out ax ix b1 b2 b3 b4 b5 b6 b7 i sz cap i s6 s7 s8 en X0 hx hZ hw hby hml hown e0 N0 R0 (Nat.le_refl _) hbd
  | succ k ih =>
    intro i en T0 locs h0 hi ok X0 e0 N0 R0
    simp only [ok2, Bool.and_eq_true, decide_eq_true_eq] at ok
    obtain ⟨⟨⟨a0', a1⟩, a2⟩, a5⟩ := ok
    obtain ⟨T1, h1, ls1, X1, e1, N1, R1, st1⟩ := l2_turn ax ix b1 b2 b3 b4 b5 b6 b7 cnt sz cap i s6 s7 s8 en X0 hx hZ hw hby hml hown e0 N0 R0 (by omega) hbd a1 a2 a0' (by omega) (by omega) a1 a2
    obtain ⟨T2, h2, ls2, X2, e2, N2, R2, st2⟩ := ih (i + 1) _ T1 ls1 h1 (by omega) a5 X1 e1 N1 R1
    exact ⟨T2, h2, ls2, X2, e2, N2, R2, fun t q => st1 t (st2 t q)⟩
theorem d2_155 : decode prog_15_method_1_code 155 = .ok (.iload 5, 2) := by decide +kernel
theorem d2_157 : decode prog_15_method_1_code 157 = .ok (.iload_n 2, 1) := by decide +kernel
theorem d2_158 : decode prog_15_method_1_code 158 = .ok (.if_icmp .ge 34, 3) := by decide +kernel
theorem d2_161 : decode prog_15_method_1_code 161 = .ok (.aload_n 0, 1) := by decide +kernel
theorem d2_162 : decode prog_15_method_1_code 162 = .ok (.getfield 30, 3) := by decide +kernel
theorem d2_165 : decode prog_15_method_1_code 165 = .ok (.iload 5, 2) := by decide +kernel
theorem d2_167 : decode prog_15_method_1_code 167 = .ok (.iload 5, 2) := by decide +kernel
theorem d2_169 : decode prog_15_method_1_code 169 = .ok (.ifCond .ne 7, 3) := by decide +kernel
theorem d2_172 : decode prog_15_method_1_code 172 = .ok (.iconst 0, 1) := by decide +kernel
theorem d2_173 : decode prog_15_method_1_code 173 = .ok (.goto 12, 3) := by decide +kernel
theorem d2_185 : decode prog_15_method_1_code 185 = .ok (.iastore, 1) := by decide +kernel
theorem d2_186 : decode prog_15_method_1_code 186 = .ok (.iinc 5 1, 3) := by decide +kernel
theorem d2_189 : decode prog_15_method_1_code 189 = .ok (.goto (-34), 3) := by decide +kernel
set_option maxRecDepth 65536 in
set_option maxHeartbeats 40000000 in
theorem l3_zero {p : Program} {l : Launch} {e : Env} {R : Room} {s : State} {m : MethodId} {args : Array Value} {below : List Frame} {meth : Method} {c : Code} {T0 : State} {locs : List Loc} {cells slots : Nat} {Z : State} {a0 : Array Value} {h0 : Heap} {n0 : Nat} {Rst : RL} (ax : Addr) (ix : Addr) (b1 : Addr) (b2 : Addr) (b3 : Addr) (b4 : Addr) (b5 : Addr) (b6 : Addr) (b7 : Addr) (cnt : Nat) (sz : Nat) (cap : Nat) (i : Nat) (s6 : Slot) (s7 : Slot) (s8 : Slot) (st : List Nat) (en : List Nat)
    (X0 : Stand p l e R s m args below meth c T0 locs cells slots) (hx : p.tables.exec = Jvm.exec) (hZ : Z.Warmed39 s.vm) (hw : ∀ d ∈ tables_1, d.before a0 Z = true) (hby : c.code = prog_15_method_1_code) (hml : c.maxLocals = 9) (hown : s.vm.findClass "com/example/witgen/witgen/regex/Partition" = some m.cls) (e0 : T0.heap = h0) (N0 : Fr n0 locs) (R0 : Rep Z n0 h0 ((ax, Obj "com/example/witgen/witgen/regex/Partition" [("elements", "[I", (.ref b1)), ("location", "[I", (.ref b2)), ("blockOf", "[I", (.ref b3)), ("start", "[I", (.ref b4)), ("end", "[I", (.ref b5)), ("marked", "[I", (.ref b6)), ("touched", "[I", (.ref b7)), ("blocks", "I", (.int (Int32.ofNat cnt)))]) :: (b4, Ar .int (nl st)) :: (b5, Ar .int (nl en)) :: Rst)) (hi : i < cnt) (hbd : cnt < 1000) (hz : i = 0) (hsn185 : i < st.length) (hsb185 : i < 1000) :
    ∃ (T' : State) (h' : Heap) (locs' : List Loc), Stand p l e R s m args below meth c T' locs' cells slots ∧ T'.heap = h' ∧ Fr n0 locs' ∧ Rep Z n0 h' ((ax, Obj "com/example/witgen/witgen/regex/Partition" [("elements", "[I", (.ref b1)), ("location", "[I", (.ref b2)), ("blockOf", "[I", (.ref b3)), ("start", "[I", (.ref b4)), ("end", "[I", (.ref b5)), ("marked", "[I", (.ref b6)), ("touched", "[I", (.ref b7)), ("blocks", "I", (.int (Int32.ofNat cnt)))]) :: (b4, Ar .int (nl (st.set i 0))) :: (b5, Ar .int (nl en)) :: Rst) ∧ ∀ t, Steps p.tables e below (T'.setTop (mkF m 155 #[.val (.ref ax), .val (.ref ix), .val (.int (Int32.ofNat cnt)), .val (.int (Int32.ofNat sz)), .val (.int (Int32.ofNat cap)), .val (.int (Int32.ofNat (i + 1))), s6, s7, s8] [])) t → Steps p.tables e below (T0.setTop (mkF m 155 #[.val (.ref ax), .val (.ref ix), .val (.int (Int32.ofNat cnt)), .val (.int (Int32.ofNat sz)), .val (.int (Int32.ofNat cap)), .val (.int (Int32.ofNat i)), s6, s7, s8] [])) t := by
  have pre0 : ∀ t, Steps p.tables e below (T0.setTop (mkF m 155 #[.val (.ref ax), .val (.ref ix), .val (.int (Int32.ofNat cnt)), .val (.int (Int32.ofNat sz)), .val (.int (Int32.ofNat cap)), .val (.int (Int32.ofNat i)), s6, s7, s8] [])) t → Steps p.tables e below (T0.setTop (mkF m 155 #[.val (.ref ax), .val (.ref ix), .val (.int (Int32.ofNat cnt)), .val (.int (Int32.ofNat sz)), .val (.int (Int32.ofNat cap)), .val (.int (Int32.ofNat i)), s6, s7, s8] [])) t := fun t k => k
  have pre2 : ∀ t, Steps p.tables e below (T0.setTop (mkF m 158 #[.val (.ref ax), .val (.ref ix), .val (.int (Int32.ofNat cnt)), .val (.int (Int32.ofNat sz)), .val (.int (Int32.ofNat cap)), .val (.int (Int32.ofNat i)), s6, s7, s8] [(.int (Int32.ofNat cnt)), (.int (Int32.ofNat i))])) t → Steps p.tables e below (T0.setTop (mkF m 155 #[.val (.ref ax), .val (.ref ix), .val (.int (Int32.ofNat cnt)), .val (.int (Int32.ofNat sz)), .val (.int (Int32.ofNat cap)), .val (.int (Int32.ofNat i)), s6, s7, s8] [])) t := fun t k => pre0 t (by
    show Steps p.tables e below (T0.setTop (mkF m 155 #[.val (.ref ax), .val (.ref ix), .val (.int (Int32.ofNat cnt)), .val (.int (Int32.ofNat sz)), .val (.int (Int32.ofNat cap)), .val (.int (Int32.ofNat i)), s6, s7, s8] [])) _
    refine XS.iload X0.here hx rfl (hb hby d2_155) rfl ?_
    refine XS.iloadN X0.here hx rfl (hb hby d2_157) rfl ?_
    exact k)
  have hb1 : (Int32.ofNat i) < (Int32.ofNat cnt) := n_lt hi hbd
  have pre3 : ∀ t, Steps p.tables e below (T0.setTop (mkF m 162 #[.val (.ref ax), .val (.ref ix), .val (.int (Int32.ofNat cnt)), .val (.int (Int32.ofNat sz)), .val (.int (Int32.ofNat cap)), .val (.int (Int32.ofNat i)), s6, s7, s8] [(.ref ax)])) t → Steps p.tables e below (T0.setTop (mkF m 155 #[.val (.ref ax), .val (.ref ix), .val (.int (Int32.ofNat cnt)), .val (.int (Int32.ofNat sz)), .val (.int (Int32.ofNat cap)), .val (.int (Int32.ofNat i)), s6, s7, s8] [])) t := fun t k => pre2 t (by
    show Steps p.tables e below (T0.setTop (mkF m 158 #[.val (.ref ax), .val (.ref ix), .val (.int (Int32.ofNat cnt)), .val (.int (Int32.ofNat sz)), .val (.int (Int32.ofNat cap)), .val (.int (Int32.ofNat i)), s6, s7, s8] [(.int (Int32.ofNat cnt)), (.int (Int32.ofNat i))])) _
    refine XS.icmpNo X0.here hx rfl (hb hby d2_158) rfl (tlt hb1).2.1 ?_
    refine XS.aloadN X0.here hx rfl (hb hby d2_161) rfl rfl ?_
    exact k)
  obtain ⟨T4, X4, e4, st4⟩ := gGet X0 hx hZ hown (host := "") (Or.inl (hw _ (List.mem_of_getElem? (i := 34) rfl))) e0 R0 0 3 rfl rfl (g := (mkF m 162 #[.val (.ref ax), .val (.ref ix), .val (.int (Int32.ofNat cnt)), .val (.int (Int32.ofNat sz)), .val (.int (Int32.ofNat cap)), .val (.int (Int32.ofNat i)), s6, s7, s8] [(.ref ax)])) rfl rfl (hb hby d2_162)
  have pre5 : ∀ t, Steps p.tables e below (T4.setTop (mkF m 165 #[.val (.ref ax), .val (.ref ix), .val (.int (Int32.ofNat cnt)), .val (.int (Int32.ofNat sz)), .val (.int (Int32.ofNat cap)), .val (.int (Int32.ofNat i)), s6, s7, s8] [(.ref b4)])) t → Steps p.tables e below (T0.setTop (mkF m 155 #[.val (.ref ax), .val (.ref ix), .val (.int (Int32.ofNat cnt)), .val (.int (Int32.ofNat sz)), .val (.int (Int32.ofNat cap)), .val (.int (Int32.ofNat i)), s6, s7, s8] [])) t := fun t k => pre3 t (st4 t k)
  have pre7 : ∀ t, Steps p.tables e below (T4.setTop (mkF m 169 #[.val (.ref ax), .val (.ref ix), .val (.int (Int32.ofNat cnt)), .val (.int (Int32.ofNat sz)), .val (.int (Int32.ofNat cap)), .val (.int (Int32.ofNat i)), s6, s7, s8] [(.int (Int32.ofNat i)), (.int (Int32.ofNat i)), (.ref b4)])) t → Steps p.tables e below (T0.setTop (mkF m 155 #[.val (.ref ax), .val (.ref ix), .val (.int (Int32.ofNat cnt)), .val (.int (Int32.ofNat sz)), .val (.int (Int32.ofNat cap)), .val (.int (Int32.ofNat i)), s6, s7, s8] [])) t := fun t k => pre5 t (by
    show Steps p.tables e below (T4.setTop (mkF m 165 #[.val (.ref ax), .val (.ref ix), .val (.int (Int32.ofNat cnt)), .val (.int (Int32.ofNat sz)), .val (.int (Int32.ofNat cap)), .val (.int (Int32.ofNat i)), s6, s7, s8] [(.ref b4)])) _
    refine XS.iload X4.here hx rfl (hb hby d2_165) rfl ?_
    refine XS.iload X4.here hx rfl (hb hby d2_167) rfl ?_
    exact k)
  have hb6 : (Int32.ofNat i) = (0 : Int32) := by rw [hz]; rfl
  have pre8 : ∀ t, Steps p.tables e below (T4.setTop (mkF m 185 #[.val (.ref ax), .val (.ref ix), .val (.int (Int32.ofNat cnt)), .val (.int (Int32.ofNat sz)), .val (.int (Int32.ofNat cap)), .val (.int (Int32.ofNat i)), s6, s7, s8] [(.int (0 : Int32)), (.int (Int32.ofNat i)), (.ref b4)])) t → Steps p.tables e below (T0.setTop (mkF m 155 #[.val (.ref ax), .val (.ref ix), .val (.int (Int32.ofNat cnt)), .val (.int (Int32.ofNat sz)), .val (.int (Int32.ofNat cap)), .val (.int (Int32.ofNat i)), s6, s7, s8] [])) t := fun t k => pre7 t (by
    show Steps p.tables e below (T4.setTop (mkF m 169 #[.val (.ref ax), .val (.ref ix), .val (.int (Int32.ofNat cnt)), .val (.int (Int32.ofNat sz)), .val (.int (Int32.ofNat cap)), .val (.int (Int32.ofNat i)), s6, s7, s8] [(.int (Int32.ofNat i)), (.int (Int32.ofNat i)), (.ref b4)])) _
    refine XS.ifNo X4.here hx rfl (hb hby d2_169) rfl ((if0 _ _).trans (teq hb6).2) ?_
    refine XS.iconst X4.here hx rfl (hb hby d2_172) ?_
    refine XS.goto X4.here hx rfl (pc0 := 173) (pc' := 185) rfl (hb hby d2_173) (by decide) (by decide) ?_
    exact k)
  obtain ⟨T9, h9, ls9, X9, e9, N9, R9, st9⟩ := gIst X4 hx hZ e4 N0 R0 1 rfl (j := (Int32.ofNat i)) (n_nn hsb185) (i) (n_ix hsb185) (nl_lt hsn185) (g := (mkF m 185 #[.val (.ref ax), .val (.ref ix), .val (.int (Int32.ofNat cnt)), .val (.int (Int32.ofNat sz)), .val (.int (Int32.ofNat cap)), .val (.int (Int32.ofNat i)), s6, s7, s8] [(.int (0 : Int32)), (.int (Int32.ofNat i)), (.ref b4)])) rfl rfl (hb hby d2_185)
  replace R9 : Rep Z n0 h9 ((ax, Obj "com/example/witgen/witgen/regex/Partition" [("elements", "[I", (.ref b1)), ("location", "[I", (.ref b2)), ("blockOf", "[I", (.ref b3)), ("start", "[I", (.ref b4)), ("end", "[I", (.ref b5)), ("marked", "[I", (.ref b6)), ("touched", "[I", (.ref b7)), ("blocks", "I", (.int (Int32.ofNat cnt)))]) :: (b4, Ar .int (nl (st.set i 0))) :: (b5, Ar .int (nl en)) :: Rst) := by rw [← nl_set st i 0]; exact R9
  have pre10 : ∀ t, Steps p.tables e below (T9.setTop (mkF m 186 #[.val (.ref ax), .val (.ref ix), .val (.int (Int32.ofNat cnt)), .val (.int (Int32.ofNat sz)), .val (.int (Int32.ofNat cap)), .val (.int (Int32.ofNat i)), s6, s7, s8] [])) t → Steps p.tables e below (T0.setTop (mkF m 155 #[.val (.ref ax), .val (.ref ix), .val (.int (Int32.ofNat cnt)), .val (.int (Int32.ofNat sz)), .val (.int (Int32.ofNat cap)), .val (.int (Int32.ofNat i)), s6, s7, s8] [])) t := fun t k => pre8 t (st9 t k)
  have pre11 : ∀ t, Steps p.tables e below (T9.setTop (mkF m 155 #[.val (.ref ax), .val (.ref ix), .val (.int (Int32.ofNat cnt)), .val (.int (Int32.ofNat sz)), .val (.int (Int32.ofNat cap)), .val (.int (Int32.ofNat (i + 1))), s6, s7, s8] [])) t → Steps p.tables e below (T0.setTop (mkF m 155 #[.val (.ref ax), .val (.ref ix), .val (.int (Int32.ofNat cnt)), .val (.int (Int32.ofNat sz)), .val (.int (Int32.ofNat cap)), .val (.int (Int32.ofNat i)), s6, s7, s8] [])) t := fun t k => pre10 t (by
    show Steps p.tables e below (T9.setTop (mkF m 186 #[.val (.ref ax), .val (.ref ix), .val (.int (Int32.ofNat cnt)), .val (.int (Int32.ofNat sz)), .val (.int (Int32.ofNat cap)), .val (.int (Int32.ofNat i)), s6, s7, s8] [])) _
    refine XS.iinc X9.here hx rfl (hb hby d2_186) rfl (l' := #[.val (.ref ax), .val (.ref ix), .val (.int (Int32.ofNat cnt)), .val (.int (Int32.ofNat sz)), .val (.int (Int32.ofNat cap)), .val (.int ((Int32.ofNat i) + (1 : Int32))), s6, s7, s8]) rfl ?_
    change Steps p.tables e below (T9.setTop (mkF m 189 #[.val (.ref ax), .val (.ref ix), .val (.int (Int32.ofNat cnt)), .val (.int (Int32.ofNat sz)), .val (.int (Int32.ofNat cap)), .val (.int ((Int32.ofNat i) + (1 : Int32))), s6, s7, s8] [])) _
    rw [n_one]
    show Steps p.tables e below (T9.setTop (mkF m 189 #[.val (.ref ax), .val (.ref ix), .val (.int (Int32.ofNat cnt)), .val (.int (Int32.ofNat sz)), .val (.int (Int32.ofNat cap)), .val (.int (Int32.ofNat (i + 1))), s6, s7, s8] [])) _
    refine XS.goto X9.here hx rfl (pc0 := 189) (pc' := 155) rfl (hb hby d2_189) (by decide) (by decide) ?_
    exact k)
  exact ⟨T9, h9, _, X9, e9, N9, R9, pre11⟩
theorem d2_176 : decode prog_15_method_1_code 176 = .ok (.aload_n 0, 1) := by decide +kernel
theorem d2_177 : decode prog_15_method_1_code 177 = .ok (.getfield 33, 3) := by decide +kernel
theorem d2_180 : decode prog_15_method_1_code 180 = .ok (.iload 5, 2) := by decide +kernel
theorem d2_182 : decode prog_15_method_1_code 182 = .ok (.iconst 1, 1) := by decide +kernel
theorem d2_183 : decode prog_15_method_1_code 183 = .ok (.isub, 1) := by decide +kernel
theorem d2_184 : decode prog_15_method_1_code 184 = .ok (.iaload, 1) := by decide +kernel
set_option maxRecDepth 65536 in
set_option maxHeartbeats 40000000 in
theorem l3_turn {p : Program} {l : Launch} {e : Env} {R : Room} {s : State} {m : MethodId} {args : Array Value} {below : List Frame} {meth : Method} {c : Code} {T0 : State} {locs : List Loc} {cells slots : Nat} {Z : State} {a0 : Array Value} {h0 : Heap} {n0 : Nat} {Rst : RL} (ax : Addr) (ix : Addr) (b1 : Addr) (b2 : Addr) (b3 : Addr) (b4 : Addr) (b5 : Addr) (b6 : Addr) (b7 : Addr) (cnt : Nat) (sz : Nat) (cap : Nat) (i : Nat) (s6 : Slot) (s7 : Slot) (s8 : Slot) (st : List Nat) (en : List Nat)
    (X0 : Stand p l e R s m args below meth c T0 locs cells slots) (hx : p.tables.exec = Jvm.exec) (hZ : Z.Warmed39 s.vm) (hw : ∀ d ∈ tables_1, d.before a0 Z = true) (hby : c.code = prog_15_method_1_code) (hml : c.maxLocals = 9) (hown : s.vm.findClass "com/example/witgen/witgen/regex/Partition" = some m.cls) (e0 : T0.heap = h0) (N0 : Fr n0 locs) (R0 : Rep Z n0 h0 ((ax, Obj "com/example/witgen/witgen/regex/Partition" [("elements", "[I", (.ref b1)), ("location", "[I", (.ref b2)), ("blockOf", "[I", (.ref b3)), ("start", "[I", (.ref b4)), ("end", "[I", (.ref b5)), ("marked", "[I", (.ref b6)), ("touched", "[I", (.ref b7)), ("blocks", "I", (.int (Int32.ofNat cnt)))]) :: (b4, Ar .int (nl st)) :: (b5, Ar .int (nl en)) :: Rst)) (hi : i < cnt) (hbd : cnt < 1000) (hz : ¬ i = 0) (hpr183 : 1 ≤ i) (hin184 : (i - 1) < en.length) (hbd184 : (i - 1) < 1000) (hsn185 : i < st.length) (hsb185 : i < 1000) :
    ∃ (T' : State) (h' : Heap) (locs' : List Loc), Stand p l e R s m args below meth c T' locs' cells slots ∧ T'.heap = h' ∧ Fr n0 locs' ∧ Rep Z n0 h' ((ax, Obj "com/example/witgen/witgen/regex/Partition" [("elements", "[I", (.ref b1)), ("location", "[I", (.ref b2)), ("blockOf", "[I", (.ref b3)), ("start", "[I", (.ref b4)), ("end", "[I", (.ref b5)), ("marked", "[I", (.ref b6)), ("touched", "[I", (.ref b7)), ("blocks", "I", (.int (Int32.ofNat cnt)))]) :: (b4, Ar .int (nl (st.set i (en.getD (i - 1) 0)))) :: (b5, Ar .int (nl en)) :: Rst) ∧ ∀ t, Steps p.tables e below (T'.setTop (mkF m 155 #[.val (.ref ax), .val (.ref ix), .val (.int (Int32.ofNat cnt)), .val (.int (Int32.ofNat sz)), .val (.int (Int32.ofNat cap)), .val (.int (Int32.ofNat (i + 1))), s6, s7, s8] [])) t → Steps p.tables e below (T0.setTop (mkF m 155 #[.val (.ref ax), .val (.ref ix), .val (.int (Int32.ofNat cnt)), .val (.int (Int32.ofNat sz)), .val (.int (Int32.ofNat cap)), .val (.int (Int32.ofNat i)), s6, s7, s8] [])) t := by
  have pre0 : ∀ t, Steps p.tables e below (T0.setTop (mkF m 155 #[.val (.ref ax), .val (.ref ix), .val (.int (Int32.ofNat cnt)), .val (.int (Int32.ofNat sz)), .val (.int (Int32.ofNat cap)), .val (.int (Int32.ofNat i)), s6, s7, s8] [])) t → Steps p.tables e below (T0.setTop (mkF m 155 #[.val (.ref ax), .val (.ref ix), .val (.int (Int32.ofNat cnt)), .val (.int (Int32.ofNat sz)), .val (.int (Int32.ofNat cap)), .val (.int (Int32.ofNat i)), s6, s7, s8] [])) t := fun t k => k
  have pre2 : ∀ t, Steps p.tables e below (T0.setTop (mkF m 158 #[.val (.ref ax), .val (.ref ix), .val (.int (Int32.ofNat cnt)), .val (.int (Int32.ofNat sz)), .val (.int (Int32.ofNat cap)), .val (.int (Int32.ofNat i)), s6, s7, s8] [(.int (Int32.ofNat cnt)), (.int (Int32.ofNat i))])) t → Steps p.tables e below (T0.setTop (mkF m 155 #[.val (.ref ax), .val (.ref ix), .val (.int (Int32.ofNat cnt)), .val (.int (Int32.ofNat sz)), .val (.int (Int32.ofNat cap)), .val (.int (Int32.ofNat i)), s6, s7, s8] [])) t := fun t k => pre0 t (by
    show Steps p.tables e below (T0.setTop (mkF m 155 #[.val (.ref ax), .val (.ref ix), .val (.int (Int32.ofNat cnt)), .val (.int (Int32.ofNat sz)), .val (.int (Int32.ofNat cap)), .val (.int (Int32.ofNat i)), s6, s7, s8] [])) _
    refine XS.iload X0.here hx rfl (hb hby d2_155) rfl ?_
    refine XS.iloadN X0.here hx rfl (hb hby d2_157) rfl ?_
    exact k)
  have hb1 : (Int32.ofNat i) < (Int32.ofNat cnt) := n_lt hi hbd
  have pre3 : ∀ t, Steps p.tables e below (T0.setTop (mkF m 162 #[.val (.ref ax), .val (.ref ix), .val (.int (Int32.ofNat cnt)), .val (.int (Int32.ofNat sz)), .val (.int (Int32.ofNat cap)), .val (.int (Int32.ofNat i)), s6, s7, s8] [(.ref ax)])) t → Steps p.tables e below (T0.setTop (mkF m 155 #[.val (.ref ax), .val (.ref ix), .val (.int (Int32.ofNat cnt)), .val (.int (Int32.ofNat sz)), .val (.int (Int32.ofNat cap)), .val (.int (Int32.ofNat i)), s6, s7, s8] [])) t := fun t k => pre2 t (by
    show Steps p.tables e below (T0.setTop (mkF m 158 #[.val (.ref ax), .val (.ref ix), .val (.int (Int32.ofNat cnt)), .val (.int (Int32.ofNat sz)), .val (.int (Int32.ofNat cap)), .val (.int (Int32.ofNat i)), s6, s7, s8] [(.int (Int32.ofNat cnt)), (.int (Int32.ofNat i))])) _
    refine XS.icmpNo X0.here hx rfl (hb hby d2_158) rfl (tlt hb1).2.1 ?_
    refine XS.aloadN X0.here hx rfl (hb hby d2_161) rfl rfl ?_
    exact k)
  obtain ⟨T4, X4, e4, st4⟩ := gGet X0 hx hZ hown (host := "") (Or.inl (hw _ (List.mem_of_getElem? (i := 34) rfl))) e0 R0 0 3 rfl rfl (g := (mkF m 162 #[.val (.ref ax), .val (.ref ix), .val (.int (Int32.ofNat cnt)), .val (.int (Int32.ofNat sz)), .val (.int (Int32.ofNat cap)), .val (.int (Int32.ofNat i)), s6, s7, s8] [(.ref ax)])) rfl rfl (hb hby d2_162)
  have pre5 : ∀ t, Steps p.tables e below (T4.setTop (mkF m 165 #[.val (.ref ax), .val (.ref ix), .val (.int (Int32.ofNat cnt)), .val (.int (Int32.ofNat sz)), .val (.int (Int32.ofNat cap)), .val (.int (Int32.ofNat i)), s6, s7, s8] [(.ref b4)])) t → Steps p.tables e below (T0.setTop (mkF m 155 #[.val (.ref ax), .val (.ref ix), .val (.int (Int32.ofNat cnt)), .val (.int (Int32.ofNat sz)), .val (.int (Int32.ofNat cap)), .val (.int (Int32.ofNat i)), s6, s7, s8] [])) t := fun t k => pre3 t (st4 t k)
  have pre7 : ∀ t, Steps p.tables e below (T4.setTop (mkF m 169 #[.val (.ref ax), .val (.ref ix), .val (.int (Int32.ofNat cnt)), .val (.int (Int32.ofNat sz)), .val (.int (Int32.ofNat cap)), .val (.int (Int32.ofNat i)), s6, s7, s8] [(.int (Int32.ofNat i)), (.int (Int32.ofNat i)), (.ref b4)])) t → Steps p.tables e below (T0.setTop (mkF m 155 #[.val (.ref ax), .val (.ref ix), .val (.int (Int32.ofNat cnt)), .val (.int (Int32.ofNat sz)), .val (.int (Int32.ofNat cap)), .val (.int (Int32.ofNat i)), s6, s7, s8] [])) t := fun t k => pre5 t (by
    show Steps p.tables e below (T4.setTop (mkF m 165 #[.val (.ref ax), .val (.ref ix), .val (.int (Int32.ofNat cnt)), .val (.int (Int32.ofNat sz)), .val (.int (Int32.ofNat cap)), .val (.int (Int32.ofNat i)), s6, s7, s8] [(.ref b4)])) _
    refine XS.iload X4.here hx rfl (hb hby d2_165) rfl ?_
    refine XS.iload X4.here hx rfl (hb hby d2_167) rfl ?_
    exact k)
  have hb6 : ¬ ((Int32.ofNat i) = (0 : Int32)) := fun q => hz (n_inj (n := 0) q (by omega) (by decide))
  have pre8 : ∀ t, Steps p.tables e below (T4.setTop (mkF m 177 #[.val (.ref ax), .val (.ref ix), .val (.int (Int32.ofNat cnt)), .val (.int (Int32.ofNat sz)), .val (.int (Int32.ofNat cap)), .val (.int (Int32.ofNat i)), s6, s7, s8] [(.ref ax), (.int (Int32.ofNat i)), (.ref b4)])) t → Steps p.tables e below (T0.setTop (mkF m 155 #[.val (.ref ax), .val (.ref ix), .val (.int (Int32.ofNat cnt)), .val (.int (Int32.ofNat sz)), .val (.int (Int32.ofNat cap)), .val (.int (Int32.ofNat i)), s6, s7, s8] [])) t := fun t k => pre7 t (by
    show Steps p.tables e below (T4.setTop (mkF m 169 #[.val (.ref ax), .val (.ref ix), .val (.int (Int32.ofNat cnt)), .val (.int (Int32.ofNat sz)), .val (.int (Int32.ofNat cap)), .val (.int (Int32.ofNat i)), s6, s7, s8] [(.int (Int32.ofNat i)), (.int (Int32.ofNat i)), (.ref b4)])) _
    refine XS.ifYes X4.here hx rfl (pc0 := 169) (pc' := 176) rfl (hb hby d2_169) rfl ((if0 _ _).trans (feq hb6).2) (by decide) (by decide) ?_
    refine XS.aloadN X4.here hx rfl (hb hby d2_176) rfl rfl ?_
    exact k)
  obtain ⟨T9, X9, e9, st9⟩ := gGet X4 hx hZ hown (host := "") (Or.inl (hw _ (List.mem_of_getElem? (i := 36) rfl))) e4 R0 0 4 rfl rfl (g := (mkF m 177 #[.val (.ref ax), .val (.ref ix), .val (.int (Int32.ofNat cnt)), .val (.int (Int32.ofNat sz)), .val (.int (Int32.ofNat cap)), .val (.int (Int32.ofNat i)), s6, s7, s8] [(.ref ax), (.int (Int32.ofNat i)), (.ref b4)])) rfl rfl (hb hby d2_177)
  have pre10 : ∀ t, Steps p.tables e below (T9.setTop (mkF m 180 #[.val (.ref ax), .val (.ref ix), .val (.int (Int32.ofNat cnt)), .val (.int (Int32.ofNat sz)), .val (.int (Int32.ofNat cap)), .val (.int (Int32.ofNat i)), s6, s7, s8] [(.ref b5), (.int (Int32.ofNat i)), (.ref b4)])) t → Steps p.tables e below (T0.setTop (mkF m 155 #[.val (.ref ax), .val (.ref ix), .val (.int (Int32.ofNat cnt)), .val (.int (Int32.ofNat sz)), .val (.int (Int32.ofNat cap)), .val (.int (Int32.ofNat i)), s6, s7, s8] [])) t := fun t k => pre8 t (st9 t k)
  have pre11 : ∀ t, Steps p.tables e below (T9.setTop (mkF m 185 #[.val (.ref ax), .val (.ref ix), .val (.int (Int32.ofNat cnt)), .val (.int (Int32.ofNat sz)), .val (.int (Int32.ofNat cap)), .val (.int (Int32.ofNat i)), s6, s7, s8] [(.int (Int32.ofNat (en.getD (i - 1) 0))), (.int (Int32.ofNat i)), (.ref b4)])) t → Steps p.tables e below (T0.setTop (mkF m 155 #[.val (.ref ax), .val (.ref ix), .val (.int (Int32.ofNat cnt)), .val (.int (Int32.ofNat sz)), .val (.int (Int32.ofNat cap)), .val (.int (Int32.ofNat i)), s6, s7, s8] [])) t := fun t k => pre10 t (by
    show Steps p.tables e below (T9.setTop (mkF m 180 #[.val (.ref ax), .val (.ref ix), .val (.int (Int32.ofNat cnt)), .val (.int (Int32.ofNat sz)), .val (.int (Int32.ofNat cap)), .val (.int (Int32.ofNat i)), s6, s7, s8] [(.ref b5), (.int (Int32.ofNat i)), (.ref b4)])) _
    refine XS.iload X9.here hx rfl (hb hby d2_180) rfl ?_
    refine XS.iconst X9.here hx rfl (hb hby d2_182) ?_
    refine XS.isub X9.here hx rfl (hb hby d2_183) rfl ?_
    change Steps p.tables e below (T9.setTop (mkF m 184 #[.val (.ref ax), .val (.ref ix), .val (.int (Int32.ofNat cnt)), .val (.int (Int32.ofNat sz)), .val (.int (Int32.ofNat cap)), .val (.int (Int32.ofNat i)), s6, s7, s8] [(.int ((Int32.ofNat i) - (1 : Int32))), (.ref b5), (.int (Int32.ofNat i)), (.ref b4)])) _
    rw [n_pred hpr183]
    show Steps p.tables e below (T9.setTop (mkF m 184 #[.val (.ref ax), .val (.ref ix), .val (.int (Int32.ofNat cnt)), .val (.int (Int32.ofNat sz)), .val (.int (Int32.ofNat cap)), .val (.int (Int32.ofNat i)), s6, s7, s8] [(.int (Int32.ofNat (i - 1))), (.ref b5), (.int (Int32.ofNat i)), (.ref b4)])) _
    refine gIald X9 hx hZ e9 R0 2 rfl (j := (Int32.ofNat (i - 1))) (v := (.int (Int32.ofNat (en.getD (i - 1) 0)))) (n_nn hbd184) (nl_at hin184 hbd184) (g := (mkF m 184 #[.val (.ref ax), .val (.ref ix), .val (.int (Int32.ofNat cnt)), .val (.int (Int32.ofNat sz)), .val (.int (Int32.ofNat cap)), .val (.int (Int32.ofNat i)), s6, s7, s8] [(.int (Int32.ofNat (i - 1))), (.ref b5), (.int (Int32.ofNat i)), (.ref b4)])) rfl rfl (hb hby d2_184) _ ?_
    exact k)
  obtain ⟨T12, h12, ls12, X12, e12, N12, R12, st12⟩ := gIst X9 hx hZ e9 N0 R0 1 rfl (j := (Int32.ofNat i)) (n_nn hsb185) (i) (n_ix hsb185) (nl_lt hsn185) (g := (mkF m 185 #[.val (.ref ax), .val (.ref ix), .val (.int (Int32.ofNat cnt)), .val (.int (Int32.ofNat sz)), .val (.int (Int32.ofNat cap)), .val (.int (Int32.ofNat i)), s6, s7, s8] [(.int (Int32.ofNat (en.getD (i - 1) 0))), (.int (Int32.ofNat i)), (.ref b4)])) rfl rfl (hb hby d2_185)
  replace R12 : Rep Z n0 h12 ((ax, Obj "com/example/witgen/witgen/regex/Partition" [("elements", "[I", (.ref b1)), ("location", "[I", (.ref b2)), ("blockOf", "[I", (.ref b3)), ("start", "[I", (.ref b4)), ("end", "[I", (.ref b5)), ("marked", "[I", (.ref b6)), ("touched", "[I", (.ref b7)), ("blocks", "I", (.int (Int32.ofNat cnt)))]) :: (b4, Ar .int (nl (st.set i (en.getD (i - 1) 0)))) :: (b5, Ar .int (nl en)) :: Rst) := by rw [← nl_set st i (en.getD (i - 1) 0)]; exact R12
  have pre13 : ∀ t, Steps p.tables e below (T12.setTop (mkF m 186 #[.val (.ref ax), .val (.ref ix), .val (.int (Int32.ofNat cnt)), .val (.int (Int32.ofNat sz)), .val (.int (Int32.ofNat cap)), .val (.int (Int32.ofNat i)), s6, s7, s8] [])) t → Steps p.tables e below (T0.setTop (mkF m 155 #[.val (.ref ax), .val (.ref ix), .val (.int (Int32.ofNat cnt)), .val (.int (Int32.ofNat sz)), .val (.int (Int32.ofNat cap)), .val (.int (Int32.ofNat i)), s6, s7, s8] [])) t := fun t k => pre11 t (st12 t k)
  have pre14 : ∀ t, Steps p.tables e below (T12.setTop (mkF m 155 #[.val (.ref ax), .val (.ref ix), .val (.int (Int32.ofNat cnt)), .val (.int (Int32.ofNat sz)), .val (.int (Int32.ofNat cap)), .val (.int (Int32.ofNat (i + 1))), s6, s7, s8] [])) t → Steps p.tables e below (T0.setTop (mkF m 155 #[.val (.ref ax), .val (.ref ix), .val (.int (Int32.ofNat cnt)), .val (.int (Int32.ofNat sz)), .val (.int (Int32.ofNat cap)), .val (.int (Int32.ofNat i)), s6, s7, s8] [])) t := fun t k => pre13 t (by
    show Steps p.tables e below (T12.setTop (mkF m 186 #[.val (.ref ax), .val (.ref ix), .val (.int (Int32.ofNat cnt)), .val (.int (Int32.ofNat sz)), .val (.int (Int32.ofNat cap)), .val (.int (Int32.ofNat i)), s6, s7, s8] [])) _
    refine XS.iinc X12.here hx rfl (hb hby d2_186) rfl (l' := #[.val (.ref ax), .val (.ref ix), .val (.int (Int32.ofNat cnt)), .val (.int (Int32.ofNat sz)), .val (.int (Int32.ofNat cap)), .val (.int ((Int32.ofNat i) + (1 : Int32))), s6, s7, s8]) rfl ?_
    change Steps p.tables e below (T12.setTop (mkF m 189 #[.val (.ref ax), .val (.ref ix), .val (.int (Int32.ofNat cnt)), .val (.int (Int32.ofNat sz)), .val (.int (Int32.ofNat cap)), .val (.int ((Int32.ofNat i) + (1 : Int32))), s6, s7, s8] [])) _
    rw [n_one]
    show Steps p.tables e below (T12.setTop (mkF m 189 #[.val (.ref ax), .val (.ref ix), .val (.int (Int32.ofNat cnt)), .val (.int (Int32.ofNat sz)), .val (.int (Int32.ofNat cap)), .val (.int (Int32.ofNat (i + 1))), s6, s7, s8] [])) _
    refine XS.goto X12.here hx rfl (pc0 := 189) (pc' := 155) rfl (hb hby d2_189) (by decide) (by decide) ?_
    exact k)
  exact ⟨T12, h12, _, X12, e12, N12, R12, pre14⟩
set_option maxRecDepth 65536 in
set_option maxHeartbeats 40000000 in
theorem l3_out {p : Program} {l : Launch} {e : Env} {R : Room} {s : State} {m : MethodId} {args : Array Value} {below : List Frame} {meth : Method} {c : Code} {T0 : State} {locs : List Loc} {cells slots : Nat} {Z : State} {a0 : Array Value} {h0 : Heap} {n0 : Nat} {Rst : RL} (ax : Addr) (ix : Addr) (b1 : Addr) (b2 : Addr) (b3 : Addr) (b4 : Addr) (b5 : Addr) (b6 : Addr) (b7 : Addr) (cnt : Nat) (sz : Nat) (cap : Nat) (i : Nat) (s6 : Slot) (s7 : Slot) (s8 : Slot) (st : List Nat) (en : List Nat)
    (X0 : Stand p l e R s m args below meth c T0 locs cells slots) (hx : p.tables.exec = Jvm.exec) (hZ : Z.Warmed39 s.vm) (hw : ∀ d ∈ tables_1, d.before a0 Z = true) (hby : c.code = prog_15_method_1_code) (hml : c.maxLocals = 9) (hown : s.vm.findClass "com/example/witgen/witgen/regex/Partition" = some m.cls) (e0 : T0.heap = h0) (N0 : Fr n0 locs) (R0 : Rep Z n0 h0 ((ax, Obj "com/example/witgen/witgen/regex/Partition" [("elements", "[I", (.ref b1)), ("location", "[I", (.ref b2)), ("blockOf", "[I", (.ref b3)), ("start", "[I", (.ref b4)), ("end", "[I", (.ref b5)), ("marked", "[I", (.ref b6)), ("touched", "[I", (.ref b7)), ("blocks", "I", (.int (Int32.ofNat cnt)))]) :: (b4, Ar .int (nl st)) :: (b5, Ar .int (nl en)) :: Rst)) (hi : cnt ≤ i) (hbd : i < 1000) :
    ∃ (T' : State) (h' : Heap) (locs' : List Loc), Stand p l e R s m args below meth c T' locs' cells slots ∧ T'.heap = h' ∧ Fr n0 locs' ∧ Rep Z n0 h' ((ax, Obj "com/example/witgen/witgen/regex/Partition" [("elements", "[I", (.ref b1)), ("location", "[I", (.ref b2)), ("blockOf", "[I", (.ref b3)), ("start", "[I", (.ref b4)), ("end", "[I", (.ref b5)), ("marked", "[I", (.ref b6)), ("touched", "[I", (.ref b7)), ("blocks", "I", (.int (Int32.ofNat cnt)))]) :: (b4, Ar .int (nl st)) :: (b5, Ar .int (nl en)) :: Rst) ∧ ∀ t, Steps p.tables e below (T'.setTop (mkF m 192 #[.val (.ref ax), .val (.ref ix), .val (.int (Int32.ofNat cnt)), .val (.int (Int32.ofNat sz)), .val (.int (Int32.ofNat cap)), .val (.int (Int32.ofNat i)), s6, s7, s8] [])) t → Steps p.tables e below (T0.setTop (mkF m 155 #[.val (.ref ax), .val (.ref ix), .val (.int (Int32.ofNat cnt)), .val (.int (Int32.ofNat sz)), .val (.int (Int32.ofNat cap)), .val (.int (Int32.ofNat i)), s6, s7, s8] [])) t := by
  have pre0 : ∀ t, Steps p.tables e below (T0.setTop (mkF m 155 #[.val (.ref ax), .val (.ref ix), .val (.int (Int32.ofNat cnt)), .val (.int (Int32.ofNat sz)), .val (.int (Int32.ofNat cap)), .val (.int (Int32.ofNat i)), s6, s7, s8] [])) t → Steps p.tables e below (T0.setTop (mkF m 155 #[.val (.ref ax), .val (.ref ix), .val (.int (Int32.ofNat cnt)), .val (.int (Int32.ofNat sz)), .val (.int (Int32.ofNat cap)), .val (.int (Int32.ofNat i)), s6, s7, s8] [])) t := fun t k => k
  have pre2 : ∀ t, Steps p.tables e below (T0.setTop (mkF m 158 #[.val (.ref ax), .val (.ref ix), .val (.int (Int32.ofNat cnt)), .val (.int (Int32.ofNat sz)), .val (.int (Int32.ofNat cap)), .val (.int (Int32.ofNat i)), s6, s7, s8] [(.int (Int32.ofNat cnt)), (.int (Int32.ofNat i))])) t → Steps p.tables e below (T0.setTop (mkF m 155 #[.val (.ref ax), .val (.ref ix), .val (.int (Int32.ofNat cnt)), .val (.int (Int32.ofNat sz)), .val (.int (Int32.ofNat cap)), .val (.int (Int32.ofNat i)), s6, s7, s8] [])) t := fun t k => pre0 t (by
    show Steps p.tables e below (T0.setTop (mkF m 155 #[.val (.ref ax), .val (.ref ix), .val (.int (Int32.ofNat cnt)), .val (.int (Int32.ofNat sz)), .val (.int (Int32.ofNat cap)), .val (.int (Int32.ofNat i)), s6, s7, s8] [])) _
    refine XS.iload X0.here hx rfl (hb hby d2_155) rfl ?_
    refine XS.iloadN X0.here hx rfl (hb hby d2_157) rfl ?_
    exact k)
  have hb1 : ¬ ((Int32.ofNat i) < (Int32.ofNat cnt)) := n_nlt hi hbd
  have pre3 : ∀ t, Steps p.tables e below (T0.setTop (mkF m 192 #[.val (.ref ax), .val (.ref ix), .val (.int (Int32.ofNat cnt)), .val (.int (Int32.ofNat sz)), .val (.int (Int32.ofNat cap)), .val (.int (Int32.ofNat i)), s6, s7, s8] [])) t → Steps p.tables e below (T0.setTop (mkF m 155 #[.val (.ref ax), .val (.ref ix), .val (.int (Int32.ofNat cnt)), .val (.int (Int32.ofNat sz)), .val (.int (Int32.ofNat cap)), .val (.int (Int32.ofNat i)), s6, s7, s8] [])) t := fun t k => pre2 t (by
    show Steps p.tables e below (T0.setTop (mkF m 158 #[.val (.ref ax), .val (.ref ix), .val (.int (Int32.ofNat cnt)), .val (.int (Int32.ofNat sz)), .val (.int (Int32.ofNat cap)), .val (.int (Int32.ofNat i)), s6, s7, s8] [(.int (Int32.ofNat cnt)), (.int (Int32.ofNat i))])) _
    refine XS.icmpYes X0.here hx rfl (pc0 := 158) (pc' := 192) rfl (hb hby d2_158) rfl (flt hb1).2.1 (by decide) (by decide) ?_
    exact k)
  exact ⟨T0, h0, _, X0, e0, N0, R0, pre3⟩
def s3 (en : List Nat) : Nat → Nat → List Nat → List Nat
  | 0, _, st => st
  | k + 1, i, st => s3 en k (i + 1) (st.set i (if i = 0 then 0 else en.getD (i - 1) 0))
def ok3 (en : List Nat) : Nat → Nat → List Nat → Bool
  | 0, _, _ => true
  | k + 1, i, st => decide (i < st.length) && decide (i < 1000) && decide (i - 1 < en.length) && ok3 en k (i + 1) (st.set i (if i = 0 then 0 else en.getD (i - 1) 0))
theorem l3_loop {p : Program} {l : Launch} {e : Env} {R : Room} {s : State} {m : MethodId} {args : Array Value} {below : List Frame} {meth : Method} {c : Code} {cells slots : Nat} {Z : State} {a0 : Array Value} {n0 : Nat} {Rst : RL} (ax ix : Addr) (b1 b2 b3 b4 b5 b6 b7 : Addr) (cnt sz cap : Nat) (s6 s7 s8 : Slot) (en : List Nat) (hbd : cnt < 1000) (hx : p.tables.exec = Jvm.exec) (hZ : Z.Warmed39 s.vm) (hw : ∀ d ∈ tables_1, d.before a0 Z = true) (hby : c.code = prog_15_method_1_code) (hml : c.maxLocals = 9) (hown : s.vm.findClass "com/example/witgen/witgen/regex/Partition" = some m.cls) :
    ∀ (k i : Nat) (st : List Nat) (T0 : State) (locs : List Loc) (h0 : Heap), i + k = cnt → ok3 en k i st = true → Stand p l e R s m args below meth c T0 locs cells slots → T0.heap = h0 → Fr n0 locs → Rep Z n0 h0 ((ax, Obj "com/example/witgen/witgen/regex/Partition" [("elements", "[I", (.ref b1)), ("location", "[I", (.ref b2)), ("blockOf", "[I", (.ref b3)), ("start", "[I", (.ref b4)), ("end", "[I", (.ref b5)), ("marked", "[I", (.ref b6)), ("touched", "[I", (.ref b7)), ("blocks", "I", (.int (Int32.ofNat cnt)))]) :: (b4, Ar .int (nl st)) :: (b5, Ar .int (nl en)) :: Rst) →
      ∃ (T' : State) (h' : Heap) (locs' : List Loc), Stand p l e R s m args below meth c T' locs' cells slots ∧ T'.heap = h' ∧ Fr n0 locs' ∧ Rep Z n0 h' ((ax, Obj "com/example/witgen/witgen/regex/Partition" [("elements", "[I", (.ref b1)), ("location", "[I", (.ref b2)), ("blockOf", "[I", (.ref b3)), ("start", "[I", (.ref b4)), ("end", "[I", (.ref b5)), ("marked", "[I", (.ref b6)), ("touched", "[I", (.ref b7)), ("blocks", "I", (.int (Int32.ofNat cnt)))]) :: (b4, Ar .int (nl (s3 en k i st))) :: (b5, Ar .int (nl en)) :: Rst) ∧ ∀ t, Steps p.tables e below (T'.setTop (mkF m 192 #[.val (.ref ax), .val (.ref ix), .val (.int (Int32.ofNat cnt)), .val (.int (Int32.ofNat sz)), .val (.int (Int32.ofNat cap)), .val (.int (Int32.ofNat cnt)), s6, s7, s8] [])) t → Steps p.tables e below (T0.setTop (mkF m 155 #[.val (.ref ax), .val (.ref ix), .val (.int (Int32.ofNat cnt)), .val (.int (Int32.ofNat sz)), .val (.int (Int32.ofNat cap)), .val (.int (Int32.ofNat i)), s6, s7, s8] [])) t := by
  intro k
  induction k with
  | zero =>
    intro i st T0 locs h0 hi ok X0 e0 N0 R0
    have hi' : i = cnt := by omega
    subst hi'
    exact l3_out ax ix b1 b2 b3 b4 b5 b6 b7 i sz cap i s6 s7 s8 st en X0 hx hZ hw hby hml hown e0 N0 R0 (Nat.le_refl _) hbd
  | succ k ih =>
    intro i st T0 locs h0 hi ok X0 e0 N0 R0
    simp only [ok3, Bool.and_eq_true, decide_eq_true_eq] at ok
    obtain ⟨⟨⟨a1, a2⟩, a3⟩, a5⟩ := ok
    by_cases hz : i = 0
    · rw [if_pos hz] at a5
      obtain ⟨T1, h1, ls1, X1, e1, N1, R1, st1⟩ := l3_zero ax ix b1 b2 b3 b4 b5 b6 b7 cnt sz cap i s6 s7 s8 st en X0 hx hZ hw hby hml hown e0 N0 R0 (by omega) hbd hz a1 a2
      obtain ⟨T2, h2, ls2, X2, e2, N2, R2, st2⟩ := ih (i + 1) _ T1 ls1 h1 (by omega) a5 X1 e1 N1 R1
      refine ⟨T2, h2, ls2, X2, e2, N2, ?_, fun t q => st1 t (st2 t q)⟩
      rw [s3, if_pos hz]; exact R2
    · rw [if_neg hz] at a5
      obtain ⟨T1, h1, ls1, X1, e1, N1, R1, st1⟩ := l3_turn ax ix b1 b2 b3 b4 b5 b6 b7 cnt sz cap i s6 s7 s8 st en X0 hx hZ hw hby hml hown e0 N0 R0 (by omega) hbd hz (by omega) a3 (by omega) a1 a2
      obtain ⟨T2, h2, ls2, X2, e2, N2, R2, st2⟩ := ih (i + 1) _ T1 ls1 h1 (by omega) a5 X1 e1 N1 R1
      refine ⟨T2, h2, ls2, X2, e2, N2, ?_, fun t q => st1 t (st2 t q)⟩
      rw [s3, if_neg hz]; exact R2
theorem d2_205 : decode prog_15_method_1_code 205 = .ok (.iload 6, 2) := by decide +kernel
theorem d2_207 : decode prog_15_method_1_code 207 = .ok (.iload_n 3, 1) := by decide +kernel
theorem d2_208 : decode prog_15_method_1_code 208 = .ok (.if_icmp .ge 42, 3) := by decide +kernel
theorem d2_211 : decode prog_15_method_1_code 211 = .ok (.aload_n 0, 1) := by decide +kernel
theorem d2_212 : decode prog_15_method_1_code 212 = .ok (.getfield 19, 3) := by decide +kernel
theorem d2_215 : decode prog_15_method_1_code 215 = .ok (.iload 6, 2) := by decide +kernel
theorem d2_217 : decode prog_15_method_1_code 217 = .ok (.aload 5, 2) := by decide +kernel
theorem d2_219 : decode prog_15_method_1_code 219 = .ok (.aload_n 1, 1) := by decide +kernel
theorem d2_220 : decode prog_15_method_1_code 220 = .ok (.iload 6, 2) := by decide +kernel
theorem d2_222 : decode prog_15_method_1_code 222 = .ok (.iaload, 1) := by decide +kernel
theorem d2_223 : decode prog_15_method_1_code 223 = .ok (.dup2, 1) := by decide +kernel
theorem d2_224 : decode prog_15_method_1_code 224 = .ok (.iaload, 1) := by decide +kernel
theorem d2_225 : decode prog_15_method_1_code 225 = .ok (.dup_x2, 1) := by decide +kernel
theorem d2_226 : decode prog_15_method_1_code 226 = .ok (.iconst 1, 1) := by decide +kernel
theorem d2_227 : decode prog_15_method_1_code 227 = .ok (.iadd, 1) := by decide +kernel
theorem d2_228 : decode prog_15_method_1_code 228 = .ok (.iastore, 1) := by decide +kernel
theorem d2_229 : decode prog_15_method_1_code 229 = .ok (.iastore, 1) := by decide +kernel
theorem d2_230 : decode prog_15_method_1_code 230 = .ok (.aload_n 0, 1) := by decide +kernel
theorem d2_231 : decode prog_15_method_1_code 231 = .ok (.getfield 13, 3) := by decide +kernel
theorem d2_234 : decode prog_15_method_1_code 234 = .ok (.aload_n 0, 1) := by decide +kernel
theorem d2_235 : decode prog_15_method_1_code 235 = .ok (.getfield 19, 3) := by decide +kernel
theorem d2_238 : decode prog_15_method_1_code 238 = .ok (.iload 6, 2) := by decide +kernel
theorem d2_240 : decode prog_15_method_1_code 240 = .ok (.iaload, 1) := by decide +kernel
theorem d2_241 : decode prog_15_method_1_code 241 = .ok (.iload 6, 2) := by decide +kernel
theorem d2_243 : decode prog_15_method_1_code 243 = .ok (.iastore, 1) := by decide +kernel
theorem d2_244 : decode prog_15_method_1_code 244 = .ok (.iinc 6 1, 3) := by decide +kernel
theorem d2_247 : decode prog_15_method_1_code 247 = .ok (.goto (-42), 3) := by decide +kernel
set_option maxRecDepth 65536 in
set_option maxHeartbeats 40000000 in
theorem l4_turn {p : Program} {l : Launch} {e : Env} {R : Room} {s : State} {m : MethodId} {args : Array Value} {below : List Frame} {meth : Method} {c : Code} {T0 : State} {locs : List Loc} {cells slots : Nat} {Z : State} {a0 : Array Value} {h0 : Heap} {n0 : Nat} {Rst : RL} (ax : Addr) (ix : Addr) (b1 : Addr) (b2 : Addr) (b3 : Addr) (b4 : Addr) (b5 : Addr) (b6 : Addr) (b7 : Addr) (cnt : Nat) (sz : Nat) (cap : Nat) (nx : Addr) (i : Nat) (s7 : Slot) (s8 : Slot) (el : List Nat) (lo : List Nat) (ns : List Nat) (es : List Nat)
    (X0 : Stand p l e R s m args below meth c T0 locs cells slots) (hx : p.tables.exec = Jvm.exec) (hZ : Z.Warmed39 s.vm) (hw : ∀ d ∈ tables_1, d.before a0 Z = true) (hby : c.code = prog_15_method_1_code) (hml : c.maxLocals = 9) (hown : s.vm.findClass "com/example/witgen/witgen/regex/Partition" = some m.cls) (e0 : T0.heap = h0) (N0 : Fr n0 locs) (R0 : Rep Z n0 h0 ((ax, Obj "com/example/witgen/witgen/regex/Partition" [("elements", "[I", (.ref b1)), ("location", "[I", (.ref b2)), ("blockOf", "[I", (.ref b3)), ("start", "[I", (.ref b4)), ("end", "[I", (.ref b5)), ("marked", "[I", (.ref b6)), ("touched", "[I", (.ref b7)), ("blocks", "I", (.int (Int32.ofNat cnt)))]) :: (b1, Ar .int (nl el)) :: (b2, Ar .int (nl lo)) :: (nx, Ar .int (nl ns)) :: (ix, Ar .int (nl es)) :: Rst)) (hi : i < sz) (hbd : sz < 1000) (hin222 : i < es.length) (hbd222 : i < 1000) (hin224 : (es.getD i 0) < ns.length) (hbd224 : (es.getD i 0) < 1000) (hsn228 : (es.getD i 0) < ns.length) (hsb228 : (es.getD i 0) < 1000) (hsn229 : i < lo.length) (hsb229 : i < 1000) (hin240 : i < (lo.set i (ns.getD (es.getD i 0) 0)).length) (hbd240 : i < 1000) (hsn243 : ((lo.set i (ns.getD (es.getD i 0) 0)).getD i 0) < el.length) (hsb243 : ((lo.set i (ns.getD (es.getD i 0) 0)).getD i 0) < 1000) :
    ∃ (T' : State) (h' : Heap) (locs' : List Loc), Stand p l e R s m args below meth c T' locs' cells slots ∧ T'.heap = h' ∧ Fr n0 locs' ∧ Rep Z n0 h' ((ax, Obj "com/example/witgen/witgen/regex/Partition" [("elements", "[I", (.ref b1)), ("location", "[I", (.ref b2)), ("blockOf", "[I", (.ref b3)), ("start", "[I", (.ref b4)), ("end", "[I", (.ref b5)), ("marked", "[I", (.ref b6)), ("touched", "[I", (.ref b7)), ("blocks", "I", (.int (Int32.ofNat cnt)))]) :: (b1, Ar .int (nl (el.set ((lo.set i (ns.getD (es.getD i 0) 0)).getD i 0) i))) :: (b2, Ar .int (nl (lo.set i (ns.getD (es.getD i 0) 0)))) :: (nx, Ar .int (nl (ns.set (es.getD i 0) ((ns.getD (es.getD i 0) 0) + 1)))) :: (ix, Ar .int (nl es)) :: Rst) ∧ ∀ t, Steps p.tables e below (T'.setTop (mkF m 205 #[.val (.ref ax), .val (.ref ix), .val (.int (Int32.ofNat cnt)), .val (.int (Int32.ofNat sz)), .val (.int (Int32.ofNat cap)), .val (.ref nx), .val (.int (Int32.ofNat (i + 1))), s7, s8] [])) t → Steps p.tables e below (T0.setTop (mkF m 205 #[.val (.ref ax), .val (.ref ix), .val (.int (Int32.ofNat cnt)), .val (.int (Int32.ofNat sz)), .val (.int (Int32.ofNat cap)), .val (.ref nx), .val (.int (Int32.ofNat i)), s7, s8] [])) t := by
  have pre0 : ∀ t, Steps p.tables e below (T0.setTop (mkF m 205 #[.val (.ref ax), .val (.ref ix), .val (.int (Int32.ofNat cnt)), .val (.int (Int32.ofNat sz)), .val (.int (Int32.ofNat cap)), .val (.ref nx), .val (.int (Int32.ofNat i)), s7, s8] [])) t → Steps p.tables e below (T0.setTop (mkF m 205 #[.val (.ref ax), .val (.ref ix), .val (.int (Int32.ofNat cnt)), .val (.int (Int32.ofNat sz)), .val (.int (Int32.ofNat cap)), .val (.ref nx), .val (.int (Int32.ofNat i)), s7, s8] [])) t := fun t k => k
  have pre2 : ∀ t, Steps p.tables e below (T0.setTop (mkF m 208 #[.val (.ref ax), .val (.ref ix), .val (.int (Int32.ofNat cnt)), .val (.int (Int32.ofNat sz)), .val (.int (Int32.ofNat cap)), .val (.ref nx), .val (.int (Int32.ofNat i)), s7, s8] [(.int (Int32.ofNat sz)), (.int (Int32.ofNat i))])) t → Steps p.tables e below (T0.setTop (mkF m 205 #[.val (.ref ax), .val (.ref ix), .val (.int (Int32.ofNat cnt)), .val (.int (Int32.ofNat sz)), .val (.int (Int32.ofNat cap)), .val (.ref nx), .val (.int (Int32.ofNat i)), s7, s8] [])) t := fun t k => pre0 t (by
    show Steps p.tables e below (T0.setTop (mkF m 205 #[.val (.ref ax), .val (.ref ix), .val (.int (Int32.ofNat cnt)), .val (.int (Int32.ofNat sz)), .val (.int (Int32.ofNat cap)), .val (.ref nx), .val (.int (Int32.ofNat i)), s7, s8] [])) _
    refine XS.iload X0.here hx rfl (hb hby d2_205) rfl ?_
    refine XS.iloadN X0.here hx rfl (hb hby d2_207) rfl ?_
    exact k)
  have hb1 : (Int32.ofNat i) < (Int32.ofNat sz) := n_lt hi hbd
  have pre3 : ∀ t, Steps p.tables e below (T0.setTop (mkF m 212 #[.val (.ref ax), .val (.ref ix), .val (.int (Int32.ofNat cnt)), .val (.int (Int32.ofNat sz)), .val (.int (Int32.ofNat cap)), .val (.ref nx), .val (.int (Int32.ofNat i)), s7, s8] [(.ref ax)])) t → Steps p.tables e below (T0.setTop (mkF m 205 #[.val (.ref ax), .val (.ref ix), .val (.int (Int32.ofNat cnt)), .val (.int (Int32.ofNat sz)), .val (.int (Int32.ofNat cap)), .val (.ref nx), .val (.int (Int32.ofNat i)), s7, s8] [])) t := fun t k => pre2 t (by
    show Steps p.tables e below (T0.setTop (mkF m 208 #[.val (.ref ax), .val (.ref ix), .val (.int (Int32.ofNat cnt)), .val (.int (Int32.ofNat sz)), .val (.int (Int32.ofNat cap)), .val (.ref nx), .val (.int (Int32.ofNat i)), s7, s8] [(.int (Int32.ofNat sz)), (.int (Int32.ofNat i))])) _
    refine XS.icmpNo X0.here hx rfl (hb hby d2_208) rfl (tlt hb1).2.1 ?_
    refine XS.aloadN X0.here hx rfl (hb hby d2_211) rfl rfl ?_
    exact k)
  obtain ⟨T4, X4, e4, st4⟩ := gGet X0 hx hZ hown (host := "") (Or.inl (hw _ (List.mem_of_getElem? (i := 21) rfl))) e0 R0 0 1 rfl rfl (g := (mkF m 212 #[.val (.ref ax), .val (.ref ix), .val (.int (Int32.ofNat cnt)), .val (.int (Int32.ofNat sz)), .val (.int (Int32.ofNat cap)), .val (.ref nx), .val (.int (Int32.ofNat i)), s7, s8] [(.ref ax)])) rfl rfl (hb hby d2_212)
  have pre5 : ∀ t, Steps p.tables e below (T4.setTop (mkF m 215 #[.val (.ref ax), .val (.ref ix), .val (.int (Int32.ofNat cnt)), .val (.int (Int32.ofNat sz)), .val (.int (Int32.ofNat cap)), .val (.ref nx), .val (.int (Int32.ofNat i)), s7, s8] [(.ref b2)])) t → Steps p.tables e below (T0.setTop (mkF m 205 #[.val (.ref ax), .val (.ref ix), .val (.int (Int32.ofNat cnt)), .val (.int (Int32.ofNat sz)), .val (.int (Int32.ofNat cap)), .val (.ref nx), .val (.int (Int32.ofNat i)), s7, s8] [])) t := fun t k => pre3 t (st4 t k)
  have pre6 : ∀ t, Steps p.tables e below (T4.setTop (mkF m 228 #[.val (.ref ax), .val (.ref ix), .val (.int (Int32.ofNat cnt)), .val (.int (Int32.ofNat sz)), .val (.int (Int32.ofNat cap)), .val (.ref nx), .val (.int (Int32.ofNat i)), s7, s8] [(.int (Int32.ofNat ((ns.getD (es.getD i 0) 0) + 1))), (.int (Int32.ofNat (es.getD i 0))), (.ref nx), (.int (Int32.ofNat (ns.getD (es.getD i 0) 0))), (.int (Int32.ofNat i)), (.ref b2)])) t → Steps p.tables e below (T0.setTop (mkF m 205 #[.val (.ref ax), .val (.ref ix), .val (.int (Int32.ofNat cnt)), .val (.int (Int32.ofNat sz)), .val (.int (Int32.ofNat cap)), .val (.ref nx), .val (.int (Int32.ofNat i)), s7, s8] [])) t := fun t k => pre5 t (by
    show Steps p.tables e below (T4.setTop (mkF m 215 #[.val (.ref ax), .val (.ref ix), .val (.int (Int32.ofNat cnt)), .val (.int (Int32.ofNat sz)), .val (.int (Int32.ofNat cap)), .val (.ref nx), .val (.int (Int32.ofNat i)), s7, s8] [(.ref b2)])) _
    refine XS.iload X4.here hx rfl (hb hby d2_215) rfl ?_
    refine XS.aload X4.here hx rfl (hb hby d2_217) rfl rfl ?_
    refine XS.aloadN X4.here hx rfl (hb hby d2_219) rfl rfl ?_
    refine XS.iload X4.here hx rfl (hb hby d2_220) rfl ?_
    refine gIald X4 hx hZ e4 R0 4 rfl (j := (Int32.ofNat i)) (v := (.int (Int32.ofNat (es.getD i 0)))) (n_nn hbd222) (nl_at hin222 hbd222) (g := (mkF m 222 #[.val (.ref ax), .val (.ref ix), .val (.int (Int32.ofNat cnt)), .val (.int (Int32.ofNat sz)), .val (.int (Int32.ofNat cap)), .val (.ref nx), .val (.int (Int32.ofNat i)), s7, s8] [(.int (Int32.ofNat i)), (.ref ix), (.ref nx), (.int (Int32.ofNat i)), (.ref b2)])) rfl rfl (hb hby d2_222) _ ?_
    show Steps p.tables e below (T4.setTop (mkF m 223 #[.val (.ref ax), .val (.ref ix), .val (.int (Int32.ofNat cnt)), .val (.int (Int32.ofNat sz)), .val (.int (Int32.ofNat cap)), .val (.ref nx), .val (.int (Int32.ofNat i)), s7, s8] [(.int (Int32.ofNat (es.getD i 0))), (.ref nx), (.int (Int32.ofNat i)), (.ref b2)])) _
    jvm_step X4.here [X4.here.top, hx, (hb hby d2_223), Value.category]
    show Steps p.tables e below (T4.setTop (mkF m 224 #[.val (.ref ax), .val (.ref ix), .val (.int (Int32.ofNat cnt)), .val (.int (Int32.ofNat sz)), .val (.int (Int32.ofNat cap)), .val (.ref nx), .val (.int (Int32.ofNat i)), s7, s8] [(.int (Int32.ofNat (es.getD i 0))), (.ref nx), (.int (Int32.ofNat (es.getD i 0))), (.ref nx), (.int (Int32.ofNat i)), (.ref b2)])) _
    refine gIald X4 hx hZ e4 R0 3 rfl (j := (Int32.ofNat (es.getD i 0))) (v := (.int (Int32.ofNat (ns.getD (es.getD i 0) 0)))) (n_nn hbd224) (nl_at hin224 hbd224) (g := (mkF m 224 #[.val (.ref ax), .val (.ref ix), .val (.int (Int32.ofNat cnt)), .val (.int (Int32.ofNat sz)), .val (.int (Int32.ofNat cap)), .val (.ref nx), .val (.int (Int32.ofNat i)), s7, s8] [(.int (Int32.ofNat (es.getD i 0))), (.ref nx), (.int (Int32.ofNat (es.getD i 0))), (.ref nx), (.int (Int32.ofNat i)), (.ref b2)])) rfl rfl (hb hby d2_224) _ ?_
    show Steps p.tables e below (T4.setTop (mkF m 225 #[.val (.ref ax), .val (.ref ix), .val (.int (Int32.ofNat cnt)), .val (.int (Int32.ofNat sz)), .val (.int (Int32.ofNat cap)), .val (.ref nx), .val (.int (Int32.ofNat i)), s7, s8] [(.int (Int32.ofNat (ns.getD (es.getD i 0) 0))), (.int (Int32.ofNat (es.getD i 0))), (.ref nx), (.int (Int32.ofNat i)), (.ref b2)])) _
    jvm_step X4.here [X4.here.top, hx, (hb hby d2_225), Value.category]
    show Steps p.tables e below (T4.setTop (mkF m 226 #[.val (.ref ax), .val (.ref ix), .val (.int (Int32.ofNat cnt)), .val (.int (Int32.ofNat sz)), .val (.int (Int32.ofNat cap)), .val (.ref nx), .val (.int (Int32.ofNat i)), s7, s8] [(.int (Int32.ofNat (ns.getD (es.getD i 0) 0))), (.int (Int32.ofNat (es.getD i 0))), (.ref nx), (.int (Int32.ofNat (ns.getD (es.getD i 0) 0))), (.int (Int32.ofNat i)), (.ref b2)])) _
    refine XS.iconst X4.here hx rfl (hb hby d2_226) ?_
    refine XS.iadd X4.here hx rfl (hb hby d2_227) rfl ?_
    change Steps p.tables e below (T4.setTop (mkF m 228 #[.val (.ref ax), .val (.ref ix), .val (.int (Int32.ofNat cnt)), .val (.int (Int32.ofNat sz)), .val (.int (Int32.ofNat cap)), .val (.ref nx), .val (.int (Int32.ofNat i)), s7, s8] [(.int ((Int32.ofNat (ns.getD (es.getD i 0) 0)) + (1 : Int32))), (.int (Int32.ofNat (es.getD i 0))), (.ref nx), (.int (Int32.ofNat (ns.getD (es.getD i 0) 0))), (.int (Int32.ofNat i)), (.ref b2)])) _
    rw [n_one]
    exact k)
  obtain ⟨T7, h7, ls7, X7, e7, N7, R7, st7⟩ := gIst X4 hx hZ e4 N0 R0 3 rfl (j := (Int32.ofNat (es.getD i 0))) (n_nn hsb228) ((es.getD i 0)) (n_ix hsb228) (nl_lt hsn228) (g := (mkF m 228 #[.val (.ref ax), .val (.ref ix), .val (.int (Int32.ofNat cnt)), .val (.int (Int32.ofNat sz)), .val (.int (Int32.ofNat cap)), .val (.ref nx), .val (.int (Int32.ofNat i)), s7, s8] [(.int (Int32.ofNat ((ns.getD (es.getD i 0) 0) + 1))), (.int (Int32.ofNat (es.getD i 0))), (.ref nx), (.int (Int32.ofNat (ns.getD (es.getD i 0) 0))), (.int (Int32.ofNat i)), (.ref b2)])) rfl rfl (hb hby d2_228)
  replace R7 : Rep Z n0 h7 ((ax, Obj "com/example/witgen/witgen/regex/Partition" [("elements", "[I", (.ref b1)), ("location", "[I", (.ref b2)), ("blockOf", "[I", (.ref b3)), ("start", "[I", (.ref b4)), ("end", "[I", (.ref b5)), ("marked", "[I", (.ref b6)), ("touched", "[I", (.ref b7)), ("blocks", "I", (.int (Int32.ofNat cnt)))]) :: (b1, Ar .int (nl el)) :: (b2, Ar .int (nl lo)) :: (nx, Ar .int (nl (ns.set (es.getD i 0) ((ns.getD (es.getD i 0) 0) + 1)))) :: (ix, Ar .int (nl es)) :: Rst) := by rw [← nl_set ns (es.getD i 0) ((ns.getD (es.getD i 0) 0) + 1)]; exact R7
  have pre8 : ∀ t, Steps p.tables e below (T7.setTop (mkF m 229 #[.val (.ref ax), .val (.ref ix), .val (.int (Int32.ofNat cnt)), .val (.int (Int32.ofNat sz)), .val (.int (Int32.ofNat cap)), .val (.ref nx), .val (.int (Int32.ofNat i)), s7, s8] [(.int (Int32.ofNat (ns.getD (es.getD i 0) 0))), (.int (Int32.ofNat i)), (.ref b2)])) t → Steps p.tables e below (T0.setTop (mkF m 205 #[.val (.ref ax), .val (.ref ix), .val (.int (Int32.ofNat cnt)), .val (.int (Int32.ofNat sz)), .val (.int (Int32.ofNat cap)), .val (.ref nx), .val (.int (Int32.ofNat i)), s7, s8] [])) t := fun t k => pre6 t (st7 t k)
  obtain ⟨T9, h9, ls9, X9, e9, N9, R9, st9⟩ := gIst X7 hx hZ e7 N7 R7 2 rfl (j := (Int32.ofNat i)) (n_nn hsb229) (i) (n_ix hsb229) (nl_lt hsn229) (g := (mkF m 229 #[.val (.ref ax), .val (.ref ix), .val (.int (Int32.ofNat cnt)), .val (.int (Int32.ofNat sz)), .val (.int (Int32.ofNat cap)), .val (.ref nx), .val (.int (Int32.ofNat i)), s7, s8] [(.int (Int32.ofNat (ns.getD (es.getD i 0) 0))), (.int (Int32.ofNat i)), (.ref b2)])) rfl rfl (hb hby d2_229)
  replace R9 : Rep Z n0 h9 ((ax, Obj "com/example/witgen/witgen/regex/Partition" [("elements", "[I", (.ref b1)), ("location", "[I", (.ref b2)), ("blockOf", "[I", (.ref b3)), ("start", "[I", (.ref b4)), ("end", "[I", (.ref b5)), ("marked", "[I", (.ref b6)), ("touched", "[I", (.ref b7)), ("blocks", "I", (.int (Int32.ofNat cnt)))]) :: (b1, Ar .int (nl el)) :: (b2, Ar .int (nl (lo.set i (ns.getD (es.getD i 0) 0)))) :: (nx, Ar .int (nl (ns.set (es.getD i 0) ((ns.getD (es.getD i 0) 0) + 1)))) :: (ix, Ar .int (nl es)) :: Rst) := by rw [← nl_set lo i (ns.getD (es.getD i 0) 0)]; exact R9
  have pre10 : ∀ t, Steps p.tables e below (T9.setTop (mkF m 230 #[.val (.ref ax), .val (.ref ix), .val (.int (Int32.ofNat cnt)), .val (.int (Int32.ofNat sz)), .val (.int (Int32.ofNat cap)), .val (.ref nx), .val (.int (Int32.ofNat i)), s7, s8] [])) t → Steps p.tables e below (T0.setTop (mkF m 205 #[.val (.ref ax), .val (.ref ix), .val (.int (Int32.ofNat cnt)), .val (.int (Int32.ofNat sz)), .val (.int (Int32.ofNat cap)), .val (.ref nx), .val (.int (Int32.ofNat i)), s7, s8] [])) t := fun t k => pre8 t (st9 t k)
  have pre11 : ∀ t, Steps p.tables e below (T9.setTop (mkF m 231 #[.val (.ref ax), .val (.ref ix), .val (.int (Int32.ofNat cnt)), .val (.int (Int32.ofNat sz)), .val (.int (Int32.ofNat cap)), .val (.ref nx), .val (.int (Int32.ofNat i)), s7, s8] [(.ref ax)])) t → Steps p.tables e below (T0.setTop (mkF m 205 #[.val (.ref ax), .val (.ref ix), .val (.int (Int32.ofNat cnt)), .val (.int (Int32.ofNat sz)), .val (.int (Int32.ofNat cap)), .val (.ref nx), .val (.int (Int32.ofNat i)), s7, s8] [])) t := fun t k => pre10 t (by
    show Steps p.tables e below (T9.setTop (mkF m 230 #[.val (.ref ax), .val (.ref ix), .val (.int (Int32.ofNat cnt)), .val (.int (Int32.ofNat sz)), .val (.int (Int32.ofNat cap)), .val (.ref nx), .val (.int (Int32.ofNat i)), s7, s8] [])) _
    refine XS.aloadN X9.here hx rfl (hb hby d2_230) rfl rfl ?_
    exact k)
  obtain ⟨T12, X12, e12, st12⟩ := gGet X9 hx hZ hown (host := "") (Or.inl (hw _ (List.mem_of_getElem? (i := 19) rfl))) e9 R9 0 0 rfl rfl (g := (mkF m 231 #[.val (.ref ax), .val (.ref ix), .val (.int (Int32.ofNat cnt)), .val (.int (Int32.ofNat sz)), .val (.int (Int32.ofNat cap)), .val (.ref nx), .val (.int (Int32.ofNat i)), s7, s8] [(.ref ax)])) rfl rfl (hb hby d2_231)
  have pre13 : ∀ t, Steps p.tables e below (T12.setTop (mkF m 234 #[.val (.ref ax), .val (.ref ix), .val (.int (Int32.ofNat cnt)), .val (.int (Int32.ofNat sz)), .val (.int (Int32.ofNat cap)), .val (.ref nx), .val (.int (Int32.ofNat i)), s7, s8] [(.ref b1)])) t → Steps p.tables e below (T0.setTop (mkF m 205 #[.val (.ref ax), .val (.ref ix), .val (.int (Int32.ofNat cnt)), .val (.int (Int32.ofNat sz)), .val (.int (Int32.ofNat cap)), .val (.ref nx), .val (.int (Int32.ofNat i)), s7, s8] [])) t := fun t k => pre11 t (st12 t k)
  have pre14 : ∀ t, Steps p.tables e below (T12.setTop (mkF m 235 #[.val (.ref ax), .val (.ref ix), .val (.int (Int32.ofNat cnt)), .val (.int (Int32.ofNat sz)), .val (.int (Int32.ofNat cap)), .val (.ref nx), .val (.int (Int32.ofNat i)), s7, s8] [(.ref ax), (.ref b1)])) t → Steps p.tables e below (T0.setTop (mkF m 205 #[.val (.ref ax), .val (.ref ix), .val (.int (Int32.ofNat cnt)), .val (.int (Int32.ofNat sz)), .val (.int (Int32.ofNat cap)), .val (.ref nx), .val (.int (Int32.ofNat i)), s7, s8] [])) t := fun t k => pre13 t (by
    show Steps p.tables e below (T12.setTop (mkF m 234 #[.val (.ref ax), .val (.ref ix), .val (.int (Int32.ofNat cnt)), .val (.int (Int32.ofNat sz)), .val (.int (Int32.ofNat cap)), .val (.ref nx), .val (.int (Int32.ofNat i)), s7, s8] [(.ref b1)])) _
    refine XS.aloadN X12.here hx rfl (hb hby d2_234) rfl rfl ?_
    exact k)
  obtain ⟨T15, X15, e15, st15⟩ := gGet X12 hx hZ hown (host := "") (Or.inl (hw _ (List.mem_of_getElem? (i := 21) rfl))) e12 R9 0 1 rfl rfl (g := (mkF m 235 #[.val (.ref ax), .val (.ref ix), .val (.int (Int32.ofNat cnt)), .val (.int (Int32.ofNat sz)), .val (.int (Int32.ofNat cap)), .val (.ref nx), .val (.int (Int32.ofNat i)), s7, s8] [(.ref ax), (.ref b1)])) rfl rfl (hb hby d2_235)
  have pre16 : ∀ t, Steps p.tables e below (T15.setTop (mkF m 238 #[.val (.ref ax), .val (.ref ix), .val (.int (Int32.ofNat cnt)), .val (.int (Int32.ofNat sz)), .val (.int (Int32.ofNat cap)), .val (.ref nx), .val (.int (Int32.ofNat i)), s7, s8] [(.ref b2), (.ref b1)])) t → Steps p.tables e below (T0.setTop (mkF m 205 #[.val (.ref ax), .val (.ref ix), .val (.int (Int32.ofNat cnt)), .val (.int (Int32.ofNat sz)), .val (.int (Int32.ofNat cap)), .val (.ref nx), .val (.int (Int32.ofNat i)), s7, s8] [])) t := fun t k => pre14 t (st15 t k)
  have pre17 : ∀ t, Steps p.tables e below (T15.setTop (mkF m 243 #[.val (.ref ax), .val (.ref ix), .val (.int (Int32.ofNat cnt)), .val (.int (Int32.ofNat sz)), .val (.int (Int32.ofNat cap)), .val (.ref nx), .val (.int (Int32.ofNat i)), s7, s8] [(.int (Int32.ofNat i)), (.int (Int32.ofNat ((lo.set i (ns.getD (es.getD i 0) 0)).getD i 0))), (.ref b1)])) t → Steps p.tables e below (T0.setTop (mkF m 205 #[.val (.ref ax), .val (.ref ix), .val (.int (Int32.ofNat cnt)), .val (.int (Int32.ofNat sz)), .val (.int (Int32.ofNat cap)), .val (.ref nx), .val (.int (Int32.ofNat i)), s7, s8] [])) t := fun t k => pre16 t (by
    show Steps p.tables e below (T15.setTop (mkF m 238 #[.val (.ref ax), .val (.ref ix), .val (.int (Int32.ofNat cnt)), .val (.int (Int32.ofNat sz)), .val (.int (Int32.ofNat cap)), .val (.ref nx), .val (.int (Int32.ofNat i)), s7, s8] [(.ref b2), (.ref b1)])) _
    refine XS.iload X15.here hx rfl (hb hby d2_238) rfl ?_
    refine gIald X15 hx hZ e15 R9 2 rfl (j := (Int32.ofNat i)) (v := (.int (Int32.ofNat ((lo.set i (ns.getD (es.getD i 0) 0)).getD i 0)))) (n_nn hbd240) (nl_at hin240 hbd240) (g := (mkF m 240 #[.val (.ref ax), .val (.ref ix), .val (.int (Int32.ofNat cnt)), .val (.int (Int32.ofNat sz)), .val (.int (Int32.ofNat cap)), .val (.ref nx), .val (.int (Int32.ofNat i)), s7, s8] [(.int (Int32.ofNat i)), (.ref b2), (.ref b1)])) rfl rfl (hb hby d2_240) _ ?_
    refine XS.iload X15.here hx rfl (hb hby d2_241) rfl ?_
    exact k)
  obtain ⟨T18, h18, ls18, X18, e18, N18, R18, st18⟩ := gIst X15 hx hZ e15 N9 R9 1 rfl (j := (Int32.ofNat ((lo.set i (ns.getD (es.getD i 0) 0)).getD i 0))) (n_nn hsb243) (((lo.set i (ns.getD (es.getD i 0) 0)).getD i 0)) (n_ix hsb243) (nl_lt hsn243) (g := (mkF m 243 #[.val (.ref ax), .val (.ref ix), .val (.int (Int32.ofNat cnt)), .val (.int (Int32.ofNat sz)), .val (.int (Int32.ofNat cap)), .val (.ref nx), .val (.int (Int32.ofNat i)), s7, s8] [(.int (Int32.ofNat i)), (.int (Int32.ofNat ((lo.set i (ns.getD (es.getD i 0) 0)).getD i 0))), (.ref b1)])) rfl rfl (hb hby d2_243)
  replace R18 : Rep Z n0 h18 ((ax, Obj "com/example/witgen/witgen/regex/Partition" [("elements", "[I", (.ref b1)), ("location", "[I", (.ref b2)), ("blockOf", "[I", (.ref b3)), ("start", "[I", (.ref b4)), ("end", "[I", (.ref b5)), ("marked", "[I", (.ref b6)), ("touched", "[I", (.ref b7)), ("blocks", "I", (.int (Int32.ofNat cnt)))]) :: (b1, Ar .int (nl (el.set ((lo.set i (ns.getD (es.getD i 0) 0)).getD i 0) i))) :: (b2, Ar .int (nl (lo.set i (ns.getD (es.getD i 0) 0)))) :: (nx, Ar .int (nl (ns.set (es.getD i 0) ((ns.getD (es.getD i 0) 0) + 1)))) :: (ix, Ar .int (nl es)) :: Rst) := by rw [← nl_set el ((lo.set i (ns.getD (es.getD i 0) 0)).getD i 0) i]; exact R18
  have pre19 : ∀ t, Steps p.tables e below (T18.setTop (mkF m 244 #[.val (.ref ax), .val (.ref ix), .val (.int (Int32.ofNat cnt)), .val (.int (Int32.ofNat sz)), .val (.int (Int32.ofNat cap)), .val (.ref nx), .val (.int (Int32.ofNat i)), s7, s8] [])) t → Steps p.tables e below (T0.setTop (mkF m 205 #[.val (.ref ax), .val (.ref ix), .val (.int (Int32.ofNat cnt)), .val (.int (Int32.ofNat sz)), .val (.int (Int32.ofNat cap)), .val (.ref nx), .val (.int (Int32.ofNat i)), s7, s8] [])) t := fun t k => pre17 t (st18 t k)
  have pre20 : ∀ t, Steps p.tables e below (T18.setTop (mkF m 205 #[.val (.ref ax), .val (.ref ix), .val (.int (Int32.ofNat cnt)), .val (.int (Int32.ofNat sz)), .val (.int (Int32.ofNat cap)), .val (.ref nx), .val (.int (Int32.ofNat (i + 1))), s7, s8] [])) t → Steps p.tables e below (T0.setTop (mkF m 205 #[.val (.ref ax), .val (.ref ix), .val (.int (Int32.ofNat cnt)), .val (.int (Int32.ofNat sz)), .val (.int (Int32.ofNat cap)), .val (.ref nx), .val (.int (Int32.ofNat i)), s7, s8] [])) t := fun t k => pre19 t (by
    show Steps p.tables e below (T18.setTop (mkF m 244 #[.val (.ref ax), .val (.ref ix), .val (.int (Int32.ofNat cnt)), .val (.int (Int32.ofNat sz)), .val (.int (Int32.ofNat cap)), .val (.ref nx), .val (.int (Int32.ofNat i)), s7, s8] [])) _
    refine XS.iinc X18.here hx rfl (hb hby d2_244) rfl (l' := #[.val (.ref ax), .val (.ref ix), .val (.int (Int32.ofNat cnt)), .val (.int (Int32.ofNat sz)), .val (.int (Int32.ofNat cap)), .val (.ref nx), .val (.int ((Int32.ofNat i) + (1 : Int32))), s7, s8]) rfl ?_
    change Steps p.tables e below (T18.setTop (mkF m 247 #[.val (.ref ax), .val (.ref ix), .val (.int (Int32.ofNat cnt)), .val (.int (Int32.ofNat sz)), .val (.int (Int32.ofNat cap)), .val (.ref nx), .val (.int ((Int32.ofNat i) + (1 : Int32))), s7, s8] [])) _
    rw [n_one]
    show Steps p.tables e below (T18.setTop (mkF m 247 #[.val (.ref ax), .val (.ref ix), .val (.int (Int32.ofNat cnt)), .val (.int (Int32.ofNat sz)), .val (.int (Int32.ofNat cap)), .val (.ref nx), .val (.int (Int32.ofNat (i + 1))), s7, s8] [])) _
    refine XS.goto X18.here hx rfl (pc0 := 247) (pc' := 205) rfl (hb hby d2_247) (by decide) (by decide) ?_
    exact k)
  exact ⟨T18, h18, _, X18, e18, N18, R18, pre20⟩
set_option maxRecDepth 65536 in
set_option maxHeartbeats 40000000 in
theorem l4_out {p : Program} {l : Launch} {e : Env} {R : Room} {s : State} {m : MethodId} {args : Array Value} {below : List Frame} {meth : Method} {c : Code} {T0 : State} {locs : List Loc} {cells slots : Nat} {Z : State} {a0 : Array Value} {h0 : Heap} {n0 : Nat} {Rst : RL} (ax : Addr) (ix : Addr) (b1 : Addr) (b2 : Addr) (b3 : Addr) (b4 : Addr) (b5 : Addr) (b6 : Addr) (b7 : Addr) (cnt : Nat) (sz : Nat) (cap : Nat) (nx : Addr) (i : Nat) (s7 : Slot) (s8 : Slot) (el : List Nat) (lo : List Nat) (ns : List Nat) (es : List Nat)
    (X0 : Stand p l e R s m args below meth c T0 locs cells slots) (hx : p.tables.exec = Jvm.exec) (hZ : Z.Warmed39 s.vm) (hw : ∀ d ∈ tables_1, d.before a0 Z = true) (hby : c.code = prog_15_method_1_code) (hml : c.maxLocals = 9) (hown : s.vm.findClass "com/example/witgen/witgen/regex/Partition" = some m.cls) (e0 : T0.heap = h0) (N0 : Fr n0 locs) (R0 : Rep Z n0 h0 ((ax, Obj "com/example/witgen/witgen/regex/Partition" [("elements", "[I", (.ref b1)), ("location", "[I", (.ref b2)), ("blockOf", "[I", (.ref b3)), ("start", "[I", (.ref b4)), ("end", "[I", (.ref b5)), ("marked", "[I", (.ref b6)), ("touched", "[I", (.ref b7)), ("blocks", "I", (.int (Int32.ofNat cnt)))]) :: (b1, Ar .int (nl el)) :: (b2, Ar .int (nl lo)) :: (nx, Ar .int (nl ns)) :: (ix, Ar .int (nl es)) :: Rst)) (hi : sz ≤ i) (hbd : i < 1000) :
    ∃ (T' : State) (h' : Heap) (locs' : List Loc), Stand p l e R s m args below meth c T' locs' cells slots ∧ T'.heap = h' ∧ Fr n0 locs' ∧ Rep Z n0 h' ((ax, Obj "com/example/witgen/witgen/regex/Partition" [("elements", "[I", (.ref b1)), ("location", "[I", (.ref b2)), ("blockOf", "[I", (.ref b3)), ("start", "[I", (.ref b4)), ("end", "[I", (.ref b5)), ("marked", "[I", (.ref b6)), ("touched", "[I", (.ref b7)), ("blocks", "I", (.int (Int32.ofNat cnt)))]) :: (b1, Ar .int (nl el)) :: (b2, Ar .int (nl lo)) :: (nx, Ar .int (nl ns)) :: (ix, Ar .int (nl es)) :: Rst) ∧ ∀ t, Steps p.tables e below (T'.setTop (mkF m 250 #[.val (.ref ax), .val (.ref ix), .val (.int (Int32.ofNat cnt)), .val (.int (Int32.ofNat sz)), .val (.int (Int32.ofNat cap)), .val (.ref nx), .val (.int (Int32.ofNat i)), s7, s8] [])) t → Steps p.tables e below (T0.setTop (mkF m 205 #[.val (.ref ax), .val (.ref ix), .val (.int (Int32.ofNat cnt)), .val (.int (Int32.ofNat sz)), .val (.int (Int32.ofNat cap)), .val (.ref nx), .val (.int (Int32.ofNat i)), s7, s8] [])) t := by
  have pre0 : ∀ t, Steps p.tables e below (T0.setTop (mkF m 205 #[.val (.ref ax), .val (.ref ix), .val (.int (Int32.ofNat cnt)), .val (.int (Int32.ofNat sz)), .val (.int (Int32.ofNat cap)), .val (.ref nx), .val (.int (Int32.ofNat i)), s7, s8] [])) t → Steps p.tables e below (T0.setTop (mkF m 205 #[.val (.ref ax), .val (.ref ix), .val (.int (Int32.ofNat cnt)), .val (.int (Int32.ofNat sz)), .val (.int (Int32.ofNat cap)), .val (.ref nx), .val (.int (Int32.ofNat i)), s7, s8] [])) t := fun t k => k
  have pre2 : ∀ t, Steps p.tables e below (T0.setTop (mkF m 208 #[.val (.ref ax), .val (.ref ix), .val (.int (Int32.ofNat cnt)), .val (.int (Int32.ofNat sz)), .val (.int (Int32.ofNat cap)), .val (.ref nx), .val (.int (Int32.ofNat i)), s7, s8] [(.int (Int32.ofNat sz)), (.int (Int32.ofNat i))])) t → Steps p.tables e below (T0.setTop (mkF m 205 #[.val (.ref ax), .val (.ref ix), .val (.int (Int32.ofNat cnt)), .val (.int (Int32.ofNat sz)), .val (.int (Int32.ofNat cap)), .val (.ref nx), .val (.int (Int32.ofNat i)), s7, s8] [])) t := fun t k => pre0 t (by
    show Steps p.tables e below (T0.setTop (mkF m 205 #[.val (.ref ax), .val (.ref ix), .val (.int (Int32.ofNat cnt)), .val (.int (Int32.ofNat sz)), .val (.int (Int32.ofNat cap)), .val (.ref nx), .val (.int (Int32.ofNat i)), s7, s8] [])) _
    refine XS.iload X0.here hx rfl (hb hby d2_205) rfl ?_
    refine XS.iloadN X0.here hx rfl (hb hby d2_207) rfl ?_
    exact k)
  have hb1 : ¬ ((Int32.ofNat i) < (Int32.ofNat sz)) := n_nlt hi hbd
  have pre3 : ∀ t, Steps p.tables e below (T0.setTop (mkF m 250 #[.val (.ref ax), .val (.ref ix), .val (.int (Int32.ofNat cnt)), .val (.int (Int32.ofNat sz)), .val (.int (Int32.ofNat cap)), .val (.ref nx), .val (.int (Int32.ofNat i)), s7, s8] [])) t → Steps p.tables e below (T0.setTop (mkF m 205 #[.val (.ref ax), .val (.ref ix), .val (.int (Int32.ofNat cnt)), .val (.int (Int32.ofNat sz)), .val (.int (Int32.ofNat cap)), .val (.ref nx), .val (.int (Int32.ofNat i)), s7, s8] [])) t := fun t k => pre2 t (by
    show Steps p.tables e below (T0.setTop (mkF m 208 #[.val (.ref ax), .val (.ref ix), .val (.int (Int32.ofNat cnt)), .val (.int (Int32.ofNat sz)), .val (.int (Int32.ofNat cap)), .val (.ref nx), .val (.int (Int32.ofNat i)), s7, s8] [(.int (Int32.ofNat sz)), (.int (Int32.ofNat i))])) _
    refine XS.icmpYes X0.here hx rfl (pc0 := 208) (pc' := 250) rfl (hb hby d2_208) rfl (flt hb1).2.1 (by decide) (by decide) ?_
    exact k)
  exact ⟨T0, h0, _, X0, e0, N0, R0, pre3⟩
def s4 (es : List Nat) : Nat → Nat → List Nat → List Nat → List Nat → List Nat × List Nat × List Nat
  | 0, _, el, lo, ns => (el, lo, ns)
  | k + 1, i, el, lo, ns => s4 es k (i + 1) (el.set ((lo.set i (ns.getD (es.getD i 0) 0)).getD i 0) i) (lo.set i (ns.getD (es.getD i 0) 0)) (ns.set (es.getD i 0) (ns.getD (es.getD i 0) 0 + 1))
def ok4 (es : List Nat) : Nat → Nat → List Nat → List Nat → List Nat → Bool
  | 0, _, _, _, _ => true
  | k + 1, i, el, lo, ns => decide (i < es.length) && decide (i < 1000) && decide (es.getD i 0 < ns.length) && decide (es.getD i 0 < 1000) && decide (i < lo.length) && decide (i < (lo.set i (ns.getD (es.getD i 0) 0)).length) && decide ((lo.set i (ns.getD (es.getD i 0) 0)).getD i 0 < el.length) && decide ((lo.set i (ns.getD (es.getD i 0) 0)).getD i 0 < 1000) && ok4 es k (i + 1) (el.set ((lo.set i (ns.getD (es.getD i 0) 0)).getD i 0) i) (lo.set i (ns.getD (es.getD i 0) 0)) (ns.set (es.getD i 0) (ns.getD (es.getD i 0) 0 + 1))
theorem l4_loop {p : Program} {l : Launch} {e : Env} {R : Room} {s : State} {m : MethodId} {args : Array Value} {below : List Frame} {meth : Method} {c : Code} {cells slots : Nat} {Z : State} {a0 : Array Value} {n0 : Nat} {Rst : RL} (ax ix : Addr) (b1 b2 b3 b4 b5 b6 b7 : Addr) (cnt sz cap : Nat) (nx : Addr) (s7 s8 : Slot) (es : List Nat) (hbd : sz < 1000) (hx : p.tables.exec = Jvm.exec) (hZ : Z.Warmed39 s.vm) (hw : ∀ d ∈ tables_1, d.before a0 Z = true) (hby : c.code = prog_15_method_1_code) (hml : c.maxLocals = 9) (hown : s.vm.findClass "com/example/witgen/witgen/regex/Partition" = some m.cls) :
    ∀ (k i : Nat) (el lo ns : List Nat) (T0 : State) (locs : List Loc) (h0 : Heap), i + k = sz → ok4 es k i el lo ns = true → Stand p l e R s m args below meth c T0 locs cells slots → T0.heap = h0 → Fr n0 locs → Rep Z n0 h0 ((ax, Obj "com/example/witgen/witgen/regex/Partition" [("elements", "[I", (.ref b1)), ("location", "[I", (.ref b2)), ("blockOf", "[I", (.ref b3)), ("start", "[I", (.ref b4)), ("end", "[I", (.ref b5)), ("marked", "[I", (.ref b6)), ("touched", "[I", (.ref b7)), ("blocks", "I", (.int (Int32.ofNat cnt)))]) :: (b1, Ar .int (nl el)) :: (b2, Ar .int (nl lo)) :: (nx, Ar .int (nl ns)) :: (ix, Ar .int (nl es)) :: Rst) →
      ∃ (T' : State) (h' : Heap) (locs' : List Loc), Stand p l e R s m args below meth c T' locs' cells slots ∧ T'.heap = h' ∧ Fr n0 locs' ∧ Rep Z n0 h' ((ax, Obj "com/example/witgen/witgen/regex/Partition" [("elements", "[I", (.ref b1)), ("location", "[I", (.ref b2)), ("blockOf", "[I", (.ref b3)), ("start", "[I", (.ref b4)), ("end", "[I", (.ref b5)), ("marked", "[I", (.ref b6)), ("touched", "[I", (.ref b7)), ("blocks", "I", (.int (Int32.ofNat cnt)))]) :: (b1, Ar .int (nl (s4 es k i el lo ns).1)) :: (b2, Ar .int (nl (s4 es k i el lo ns).2.1)) :: (nx, Ar .int (nl (s4 es k i el lo ns).2.2)) :: (ix, Ar .int (nl es)) :: Rst) ∧ ∀ t, Steps p.tables e below (T'.setTop (mkF m 250 #[.val (.ref ax), .val (.ref ix), .val (.int (Int32.ofNat cnt)), .val (.int (Int32.ofNat sz)), .val (.int (Int32.ofNat cap)), .val (.ref nx), .val (.int (Int32.ofNat sz)), s7, s8] [])) t → Steps p.tables e below (T0.setTop (mkF m 205 #[.val (.ref ax), .val (.ref ix), .val (.int (Int32.ofNat cnt)), .val (.int (Int32.ofNat sz)), .val (.int (Int32.ofNat cap)), .val (.ref nx), .val (.int (Int32.ofNat i)), s7, s8] [])) t := by
  intro k
  induction k with
  | zero =>
    intro i el lo ns T0 locs h0 hi ok X0 e0 N0 R0
    have hi' : i = sz := by omega
    subst hi'
    exact l4_out ax ix b1 b2 b3 b4 b5 b6 b7 cnt i cap nx i s7 s8 el lo ns es X0 hx hZ hw hby hml hown e0 N0 R0 (Nat.le_refl _) hbd
  | succ k ih =>
    intro i el lo ns T0 locs h0 hi ok X0 e0 N0 R0
    simp only [ok4, Bool.and_eq_true, decide_eq_true_eq] at ok
    obtain ⟨⟨⟨⟨⟨⟨⟨⟨a1, a2⟩, a3⟩, a4⟩, a6⟩, a7⟩, a8⟩, a9⟩, a5⟩ := ok
    obtain ⟨T1, h1, ls1, X1, e1, N1, R1, st1⟩ := l4_turn ax ix b1 b2 b3 b4 b5 b6 b7 cnt sz cap nx i s7 s8 el lo ns es X0 hx hZ hw hby hml hown e0 N0 R0 (by omega) hbd a1 a2 a3 a4 a3 a4 a6 a2 a7 a2 a8 a9
    obtain ⟨T2, h2, ls2, X2, e2, N2, R2, st2⟩ := ih (i + 1) _ _ _ T1 ls1 h1 (by omega) a5 X1 e1 N1 R1
    exact ⟨T2, h2, ls2, X2, e2, N2, R2, fun t q => st1 t (st2 t q)⟩
def pN (es : List Nat) (cnt : Nat) : Nat := max es.length cnt
def pE1 (es : List Nat) (cnt : Nat) : List Nat := s1 es es.length 0 (List.replicate (max es.length cnt) 0)
def pEn (es : List Nat) (cnt : Nat) : List Nat := s2 (cnt - 1) 1 (pE1 es cnt)
def pSt (es : List Nat) (cnt : Nat) : List Nat := s3 (pEn es cnt) cnt 0 (List.replicate (max es.length cnt) 0)
def pS4 (es : List Nat) (cnt : Nat) : List Nat × List Nat × List Nat := s4 es es.length 0 (List.replicate es.length 0) (List.replicate es.length 0) ((pSt es cnt).take cnt)
def okC (es : List Nat) (cnt : Nat) : Bool := ok1 es es.length 0 (List.replicate (max es.length cnt) 0) && ok2 (cnt - 1) 1 (pE1 es cnt) && ok3 (pEn es cnt) cnt 0 (List.replicate (max es.length cnt) 0) && ok4 es es.length 0 (List.replicate es.length 0) (List.replicate es.length 0) ((pSt es cnt).take cnt) && decide (cnt ≤ (pSt es cnt).length) && decide ((pSt es cnt).length ≤ 8)
theorem okC.parts {es : List Nat} {cnt : Nat} (h : okC es cnt = true) : ok1 es es.length 0 (List.replicate (max es.length cnt) 0) = true ∧ ok2 (cnt - 1) 1 (pE1 es cnt) = true ∧ ok3 (pEn es cnt) cnt 0 (List.replicate (max es.length cnt) 0) = true ∧ ok4 es es.length 0 (List.replicate es.length 0) (List.replicate es.length 0) ((pSt es cnt).take cnt) = true ∧ cnt ≤ (pSt es cnt).length ∧ (pSt es cnt).length ≤ 8 := by
  simp only [okC, Bool.and_eq_true, decide_eq_true_eq] at h
  exact ⟨h.1.1.1.1.1, h.1.1.1.1.2, h.1.1.1.2, h.1.1.2, h.1.2, h.2⟩
theorem d2_0 : decode prog_15_method_1_code 0 = .ok (.aload_n 0, 1) := by decide +kernel
theorem d2_1 : decode prog_15_method_1_code 1 = .ok (.invokespecial 1, 3) := by decide +kernel
theorem d2_4 : decode prog_15_method_1_code 4 = .ok (.aload_n 1, 1) := by decide +kernel
theorem d2_5 : decode prog_15_method_1_code 5 = .ok (.arraylength, 1) := by decide +kernel
theorem d2_6 : decode prog_15_method_1_code 6 = .ok (.istore_n 3, 1) := by decide +kernel
theorem d2_7 : decode prog_15_method_1_code 7 = .ok (.iload_n 3, 1) := by decide +kernel
theorem d2_8 : decode prog_15_method_1_code 8 = .ok (.iload_n 2, 1) := by decide +kernel
theorem d2_9 : decode prog_15_method_1_code 9 = .ok (.invokestatic 7, 3) := by decide +kernel
theorem d2_12 : decode prog_15_method_1_code 12 = .ok (.istore 4, 2) := by decide +kernel
theorem d2_14 : decode prog_15_method_1_code 14 = .ok (.aload_n 0, 1) := by decide +kernel
theorem d2_15 : decode prog_15_method_1_code 15 = .ok (.iload_n 3, 1) := by decide +kernel
theorem d2_16 : decode prog_15_method_1_code 16 = .ok (.newarray .int, 2) := by decide +kernel
theorem d2_18 : decode prog_15_method_1_code 18 = .ok (.putfield 13, 3) := by decide +kernel
theorem d2_21 : decode prog_15_method_1_code 21 = .ok (.aload_n 0, 1) := by decide +kernel
theorem d2_22 : decode prog_15_method_1_code 22 = .ok (.iload_n 3, 1) := by decide +kernel
theorem d2_23 : decode prog_15_method_1_code 23 = .ok (.newarray .int, 2) := by decide +kernel
theorem d2_25 : decode prog_15_method_1_code 25 = .ok (.putfield 19, 3) := by decide +kernel
theorem d2_28 : decode prog_15_method_1_code 28 = .ok (.aload_n 0, 1) := by decide +kernel
theorem d2_29 : decode prog_15_method_1_code 29 = .ok (.aload_n 1, 1) := by decide +kernel
theorem d2_30 : decode prog_15_method_1_code 30 = .ok (.invokevirtual 22, 3) := by decide +kernel
theorem d2_33 : decode prog_15_method_1_code 33 = .ok (.checkcast 23, 3) := by decide +kernel
theorem d2_36 : decode prog_15_method_1_code 36 = .ok (.putfield 27, 3) := by decide +kernel
theorem d2_39 : decode prog_15_method_1_code 39 = .ok (.aload_n 0, 1) := by decide +kernel
theorem d2_40 : decode prog_15_method_1_code 40 = .ok (.iload 4, 2) := by decide +kernel
theorem d2_42 : decode prog_15_method_1_code 42 = .ok (.newarray .int, 2) := by decide +kernel
theorem d2_44 : decode prog_15_method_1_code 44 = .ok (.putfield 30, 3) := by decide +kernel
theorem d2_47 : decode prog_15_method_1_code 47 = .ok (.aload_n 0, 1) := by decide +kernel
theorem d2_48 : decode prog_15_method_1_code 48 = .ok (.iload 4, 2) := by decide +kernel
theorem d2_50 : decode prog_15_method_1_code 50 = .ok (.newarray .int, 2) := by decide +kernel
theorem d2_52 : decode prog_15_method_1_code 52 = .ok (.putfield 33, 3) := by decide +kernel
theorem d2_55 : decode prog_15_method_1_code 55 = .ok (.aload_n 0, 1) := by decide +kernel
theorem d2_56 : decode prog_15_method_1_code 56 = .ok (.iload 4, 2) := by decide +kernel
theorem d2_58 : decode prog_15_method_1_code 58 = .ok (.newarray .int, 2) := by decide +kernel
theorem d2_60 : decode prog_15_method_1_code 60 = .ok (.putfield 36, 3) := by decide +kernel
theorem d2_63 : decode prog_15_method_1_code 63 = .ok (.aload_n 0, 1) := by decide +kernel
theorem d2_64 : decode prog_15_method_1_code 64 = .ok (.iload 4, 2) := by decide +kernel
theorem d2_66 : decode prog_15_method_1_code 66 = .ok (.newarray .int, 2) := by decide +kernel
theorem d2_68 : decode prog_15_method_1_code 68 = .ok (.putfield 39, 3) := by decide +kernel
theorem d2_71 : decode prog_15_method_1_code 71 = .ok (.aload_n 0, 1) := by decide +kernel
theorem d2_72 : decode prog_15_method_1_code 72 = .ok (.iload_n 2, 1) := by decide +kernel
theorem d2_73 : decode prog_15_method_1_code 73 = .ok (.putfield 42, 3) := by decide +kernel
theorem d2_76 : decode prog_15_method_1_code 76 = .ok (.aload_n 1, 1) := by decide +kernel
theorem d2_77 : decode prog_15_method_1_code 77 = .ok (.astore 5, 2) := by decide +kernel
theorem d2_79 : decode prog_15_method_1_code 79 = .ok (.aload 5, 2) := by decide +kernel
theorem d2_81 : decode prog_15_method_1_code 81 = .ok (.arraylength, 1) := by decide +kernel
theorem d2_82 : decode prog_15_method_1_code 82 = .ok (.istore 6, 2) := by decide +kernel
theorem d2_84 : decode prog_15_method_1_code 84 = .ok (.iconst 0, 1) := by decide +kernel
theorem d2_85 : decode prog_15_method_1_code 85 = .ok (.istore 7, 2) := by decide +kernel
theorem d2_118 : decode prog_15_method_1_code 118 = .ok (.iconst 1, 1) := by decide +kernel
theorem d2_119 : decode prog_15_method_1_code 119 = .ok (.istore 5, 2) := by decide +kernel
theorem d2_152 : decode prog_15_method_1_code 152 = .ok (.iconst 0, 1) := by decide +kernel
theorem d2_153 : decode prog_15_method_1_code 153 = .ok (.istore 5, 2) := by decide +kernel
theorem d2_192 : decode prog_15_method_1_code 192 = .ok (.aload_n 0, 1) := by decide +kernel
theorem d2_193 : decode prog_15_method_1_code 193 = .ok (.getfield 30, 3) := by decide +kernel
theorem d2_196 : decode prog_15_method_1_code 196 = .ok (.iload_n 2, 1) := by decide +kernel
theorem d2_197 : decode prog_15_method_1_code 197 = .ok (.invokestatic 46, 3) := by decide +kernel
theorem pd__28_5bII_29_5bI : parseMethodDescriptor "([II)[I" = some ⟨[(.array .int), .int], some (.array .int)⟩ := by decide +kernel
theorem d2_200 : decode prog_15_method_1_code 200 = .ok (.astore 5, 2) := by decide +kernel
theorem d2_202 : decode prog_15_method_1_code 202 = .ok (.iconst 0, 1) := by decide +kernel
theorem d2_203 : decode prog_15_method_1_code 203 = .ok (.istore 6, 2) := by decide +kernel
theorem d2_250 : decode prog_15_method_1_code 250 = .ok (.return_, 1) := by decide +kernel
theorem pn_com_example_witgen_witgen_regex_Partition : plainName "com/example/witgen/witgen/regex/Partition" = true := by first | (simp [plainName, overriddenIn]; done) | decide +kernel
theorem ef_2 (m : MethodId) (x0 : Addr) (x1 : Addr) (x2 : Nat) : entryFrame m #[(.ref x0), (.ref x1), (.int (Int32.ofNat x2))] 9 = mkF m 0 #[.val (.ref x0), .val (.ref x1), .val (.int (Int32.ofNat x2)), .unset, .unset, .unset, .unset, .unset, .unset] [] := by first | (simp [entryFrame, mkF, argsToLocals, Value.category]; done) | rfl
def Q2 (Z : State) (ax : Addr) (ix : Addr) (cnt : Nat) (u1 : Value) (u2 : Value) (u3 : Value) (u4 : Value) (u5 : Value) (u6 : Value) (u7 : Value) (u9 : Value) (es : List Nat) (n0 : Nat) (Rst : RL) (v : Option Value) (h : Heap) (L : List Loc) : Prop := ∃ b1 : Addr, ∃ b2 : Addr, ∃ b3 : Addr, ∃ b4 : Addr, ∃ b5 : Addr, ∃ b6 : Addr, ∃ b7 : Addr, v = none ∧ Fr n0 L ∧ Rep Z n0 h ((ax, Obj "com/example/witgen/witgen/regex/Partition" [("elements", "[I", (.ref b1)), ("location", "[I", (.ref b2)), ("blockOf", "[I", (.ref b3)), ("start", "[I", (.ref b4)), ("end", "[I", (.ref b5)), ("marked", "[I", (.ref b6)), ("touched", "[I", (.ref b7)), ("blocks", "I", (.int (Int32.ofNat cnt)))]) :: (b1, Ar .int (nl (pS4 es cnt).1)) :: (b2, Ar .int (nl (pS4 es cnt).2.1)) :: (b3, Ar .int (nl es)) :: (b4, Ar .int (nl (pSt es cnt))) :: (b5, Ar .int (nl (pEn es cnt))) :: (b6, Ar .int (nl (List.replicate (max es.length cnt) 0))) :: (b7, Ar .int (nl (List.replicate (max es.length cnt) 0))) :: (ix, Ar .int (nl es)) :: Rst)
set_option maxRecDepth 65536 in
set_option maxHeartbeats 40000000 in
theorem rm2 (l : Launch) (Z : State) (a0 : Array Value) (hw : ∀ d ∈ tables_1, d.before a0 Z = true) (ws : List Jvm.Cond) (ax : Addr) (ix : Addr) (cnt : Nat) (u1 : Value) (u2 : Value) (u3 : Value) (u4 : Value) (u5 : Value) (u6 : Value) (u7 : Value) (u9 : Value) (es : List Nat) (h0 : Heap) (n0 : Nat) (Rst : RL) (R0 : Rep Z n0 h0 ((ax, Obj "com/example/witgen/witgen/regex/Partition" [("elements", "[I", u1), ("location", "[I", u2), ("blockOf", "[I", u3), ("start", "[I", u4), ("end", "[I", u5), ("marked", "[I", u6), ("touched", "[I", u7), ("blocks", "I", u9)]) :: (ix, Ar .int (nl es)) :: Rst)) (hl : es.length ≤ 4) (hc : cnt ≤ 8) (hc1 : 1 ≤ cnt) (hok0 : okC es cnt = true) :
    MetFree l (⟨"com/example/witgen/witgen/regex/Partition", "<init>", "([II)V"⟩ : MethodName) (head1 (Jvm.Cond.code (⟨"com/example/witgen/witgen/regex/Partition", "<init>", "([II)V"⟩ : MethodName) prog_15_method_1_code 9 none :: ws) ({ frames := 2, cells := 8, slots := 52, locals := 32 } : Room)) (fun a U => a = #[(.ref ax), (.ref ix), (.int (Int32.ofNat cnt))] ∧ Z.Warmed39 U.vm ∧ U.heap = h0) (fun _ _ _ _ _ => True) (fun _ U o U' => ∃ v L, o = .returned v ∧ Q2 Z ax ix cnt u1 u2 u3 u4 u5 u6 u7 u9 es n0 Rst v U'.heap L ∧ FrameEnd U o U' L ({ frames := 2, cells := 8, slots := 52, locals := 32 } : Room).cells ({ frames := 2, cells := 8, slots := 52, locals := 32 } : Room).slots) := by
  refine MetFree.of_bodySF (plainFor_of_name pn_com_example_witgen_witgen_regex_Partition) hisR ?_
  intro p e s m args below meth c s₁ Bd hml0 hP hK
  obtain ⟨rfl, hZ, hh⟩ := hP
  have hx := Bd.exec
  have hby := Bd.bytes
  have hml : c.maxLocals = 9 := hml0
  have hown : s.vm.findClass "com/example/witgen/witgen/regex/Partition" = some m.cls := findClass_of_methodNamed Bd.named
  have hnm := (name_of_methodNamed Bd.named Bd.method).1
  have X0 : Stand p l e ({ frames := 2, cells := 8, slots := 52, locals := 32 } : Room) s m #[(.ref ax), (.ref ix), (.int (Int32.ofNat cnt))] below meth c s₁ [] 0 0 := Stand.of_body Bd
  have e0 : s₁.heap = h0 := by rw [← hh, Bd.state]; rfl
  have N0 := Fr.nil n0
  have pre0 : ∀ t, Steps p.tables e below (s₁.setTop (mkF m 0 #[.val (.ref ax), .val (.ref ix), .val (.int (Int32.ofNat cnt)), .unset, .unset, .unset, .unset, .unset, .unset] [])) t → Steps p.tables e below (s₁.setTop (entryFrame m #[(.ref ax), (.ref ix), (.int (Int32.ofNat cnt))] 9)) t := fun t k => castTop (ef_2 m ax ix cnt) k
  have hok := (okC.parts hok0)
  have pre1 : ∀ t, Steps p.tables e below (s₁.setTop (mkF m 1 #[.val (.ref ax), .val (.ref ix), .val (.int (Int32.ofNat cnt)), .unset, .unset, .unset, .unset, .unset, .unset] [(.ref ax)])) t → Steps p.tables e below (s₁.setTop (entryFrame m #[(.ref ax), (.ref ix), (.int (Int32.ofNat cnt))] 9)) t := fun t k => pre0 t (by
    show Steps p.tables e below (s₁.setTop (mkF m 0 #[.val (.ref ax), .val (.ref ix), .val (.int (Int32.ofNat cnt)), .unset, .unset, .unset, .unset, .unset, .unset] [])) _
    refine XS.aloadN X0.here hx rfl (hb hby d2_0) rfl rfl ?_
    exact k)
  obtain ⟨T2, X2, e2, st2⟩ := initO X0 hx hZ hown (hw _ (List.mem_of_getElem? (i := 12) rfl)) (hw _ (List.mem_of_getElem? (i := 13) rfl)) (hw _ (List.mem_of_getElem? (i := 14) rfl)) e0 (g := (mkF m 1 #[.val (.ref ax), .val (.ref ix), .val (.int (Int32.ofNat cnt)), .unset, .unset, .unset, .unset, .unset, .unset] [(.ref ax)])) rfl (by rw [hml]; rfl) rfl (hb hby d2_1) (by decide) (W := 0) (by show 2 * 0 + _ ≤ _; exact Nat.le_of_eq rfl) (by decide)
  have pre3 : ∀ t, Steps p.tables e below (T2.setTop (mkF m 4 #[.val (.ref ax), .val (.ref ix), .val (.int (Int32.ofNat cnt)), .unset, .unset, .unset, .unset, .unset, .unset] [])) t → Steps p.tables e below (s₁.setTop (entryFrame m #[(.ref ax), (.ref ix), (.int (Int32.ofNat cnt))] 9)) t := fun t k => pre1 t (st2 t k)
  have pre4 : ∀ t, Steps p.tables e below (T2.setTop (mkF m 9 #[.val (.ref ax), .val (.ref ix), .val (.int (Int32.ofNat cnt)), .val (.int (Int32.ofNat es.length)), .unset, .unset, .unset, .unset, .unset] [(.int (Int32.ofNat cnt)), (.int (Int32.ofNat es.length))])) t → Steps p.tables e below (s₁.setTop (entryFrame m #[(.ref ax), (.ref ix), (.int (Int32.ofNat cnt))] 9)) t := fun t k => pre3 t (by
    show Steps p.tables e below (T2.setTop (mkF m 4 #[.val (.ref ax), .val (.ref ix), .val (.int (Int32.ofNat cnt)), .unset, .unset, .unset, .unset, .unset, .unset] [])) _
    refine XS.aloadN X2.here hx rfl (hb hby d2_4) rfl rfl ?_
    refine gLen X2 hx hZ e2 R0 1 rfl (g := (mkF m 5 #[.val (.ref ax), .val (.ref ix), .val (.int (Int32.ofNat cnt)), .unset, .unset, .unset, .unset, .unset, .unset] [(.ref ix)])) rfl rfl (hb hby d2_5) (z := (Int32.ofNat es.length)) (by rw [nl_len]) _ ?_
    refine XS.istoreN X2.here hx rfl (hb hby d2_6) rfl (l' := #[.val (.ref ax), .val (.ref ix), .val (.int (Int32.ofNat cnt)), .val (.int (Int32.ofNat es.length)), .unset, .unset, .unset, .unset, .unset]) rfl ?_
    refine XS.iloadN X2.here hx rfl (hb hby d2_7) rfl ?_
    refine XS.iloadN X2.here hx rfl (hb hby d2_8) rfl ?_
    exact k)
  obtain ⟨_, _, ⟨T5, L5, k5, n5⟩, -, X5, ⟨Lc5, hQ5, l5, y5, z5⟩, st5⟩ := Jvm.LawKit.callS X2 hx (y := (⟨"java/lang/Math", "max", "(II)I"⟩ : MethodName)) hown (mvT hZ (hw _ (List.mem_of_getElem? (i := 15) rfl))) (mvT hZ (hw _ (List.mem_of_getElem? (i := 16) rfl))) (mvT hZ (hw _ (List.mem_of_getElem? (i := 17) rfl))) (mvT hZ (hw _ (List.mem_of_getElem? (i := 18) rfl))) (by decide) (backOf (W := 0) (rm4 l Z a0 hw [] (Int32.ofNat es.length) (Int32.ofNat cnt)  h0 n0 _ R0 ) hZ (hw _ (List.mem_of_getElem? (i := 18) rfl)) (hw _ (List.mem_of_getElem? (i := 17) rfl)) (by decide) (by decide)) (g := (mkF m 9 #[.val (.ref ax), .val (.ref ix), .val (.int (Int32.ofNat cnt)), .val (.int (Int32.ofNat es.length)), .unset, .unset, .unset, .unset, .unset] [(.int (Int32.ofNat cnt)), (.int (Int32.ofNat es.length))])) rfl (by rw [hml]; rfl) (argsL := [(.int (Int32.ofNat es.length)), (.int (Int32.ofNat cnt))]) (rest := []) (lenOf pd__28II_29I rfl) rfl (by show 2 * 0 + _ ≤ _; exact Nat.le_of_eq rfl) (hb hby d2_9) (fun _ _ => ⟨rfl, e2, (by decide : 0 + 0 ≤ _), (by decide : 0 + 0 ≤ _)⟩)
  dsimp only [Pt.U, Pt.locs, Pt.cells, Pt.slots] at X5 l5 y5 z5 st5 hQ5
  subst y5 z5
  obtain ⟨rfl, N5q, R5⟩ := hQ5
  have N5 : Fr n0 L5 := by rw [l5]; exact Fr.app N0 N5q
  replace R5 : Rep Z n0 T5.heap ((ax, Obj "com/example/witgen/witgen/regex/Partition" [("elements", "[I", u1), ("location", "[I", u2), ("blockOf", "[I", u3), ("start", "[I", u4), ("end", "[I", u5), ("marked", "[I", u6), ("touched", "[I", u7), ("blocks", "I", u9)]) :: (ix, Ar .int (nl es)) :: Rst) := R5
  have pre6 : ∀ t, Steps p.tables e below (T5.setTop (mkF m 12 #[.val (.ref ax), .val (.ref ix), .val (.int (Int32.ofNat cnt)), .val (.int (Int32.ofNat es.length)), .unset, .unset, .unset, .unset, .unset] [(.int (F4 (Int32.ofNat es.length) (Int32.ofNat cnt)))])) t → Steps p.tables e below (s₁.setTop (entryFrame m #[(.ref ax), (.ref ix), (.int (Int32.ofNat cnt))] 9)) t := fun t k => pre4 t (st5 t k)
  rw [own_max (by omega) (by omega)] at pre6
  have pre7 : ∀ t, Steps p.tables e below (T5.setTop (mkF m 16 #[.val (.ref ax), .val (.ref ix), .val (.int (Int32.ofNat cnt)), .val (.int (Int32.ofNat es.length)), .val (.int (Int32.ofNat (max es.length cnt))), .unset, .unset, .unset, .unset] [(.int (Int32.ofNat es.length)), (.ref ax)])) t → Steps p.tables e below (s₁.setTop (entryFrame m #[(.ref ax), (.ref ix), (.int (Int32.ofNat cnt))] 9)) t := fun t k => pre6 t (by
    show Steps p.tables e below (T5.setTop (mkF m 12 #[.val (.ref ax), .val (.ref ix), .val (.int (Int32.ofNat cnt)), .val (.int (Int32.ofNat es.length)), .unset, .unset, .unset, .unset, .unset] [(.int (Int32.ofNat (max es.length cnt)))])) _
    refine XS.istore X5.here hx rfl (hb hby d2_12) rfl (l' := #[.val (.ref ax), .val (.ref ix), .val (.int (Int32.ofNat cnt)), .val (.int (Int32.ofNat es.length)), .val (.int (Int32.ofNat (max es.length cnt))), .unset, .unset, .unset, .unset]) rfl ?_
    refine XS.aloadN X5.here hx rfl (hb hby d2_14) rfl rfl ?_
    refine XS.iloadN X5.here hx rfl (hb hby d2_15) rfl ?_
    exact k)
  obtain ⟨T8, h8, b8, X8, e8, R8, st8⟩ := gNewP X5 hx hZ (hw _ (List.mem_of_getElem? (i := 5) rfl)) rfl R5 (g := (mkF m 16 #[.val (.ref ax), .val (.ref ix), .val (.int (Int32.ofNat cnt)), .val (.int (Int32.ofNat es.length)), .val (.int (Int32.ofNat (max es.length cnt))), .unset, .unset, .unset, .unset] [(.int (Int32.ofNat es.length)), (.ref ax)])) rfl (hb hby d2_16) rfl (n_nn (by omega)) 4 (by rw [n_ix (by omega)]; omega) (by decide) (by decide) (by decide) (vs := (nl (List.replicate es.length 0))) (by rw [n_ix (by omega)]; exact n_rep _)
  replace R8 : Rep Z n0 h8 ((b8, Ar .int (nl (List.replicate es.length 0))) :: (ax, Obj "com/example/witgen/witgen/regex/Partition" [("elements", "[I", u1), ("location", "[I", u2), ("blockOf", "[I", u3), ("start", "[I", u4), ("end", "[I", u5), ("marked", "[I", u6), ("touched", "[I", u7), ("blocks", "I", u9)]) :: (ix, Ar .int (nl es)) :: Rst) := R8
  have pre9 : ∀ t, Steps p.tables e below (T8.setTop (mkF m 18 #[.val (.ref ax), .val (.ref ix), .val (.int (Int32.ofNat cnt)), .val (.int (Int32.ofNat es.length)), .val (.int (Int32.ofNat (max es.length cnt))), .unset, .unset, .unset, .unset] [(.ref b8), (.ref ax)])) t → Steps p.tables e below (s₁.setTop (entryFrame m #[(.ref ax), (.ref ix), (.int (Int32.ofNat cnt))] 9)) t := fun t k => pre7 t (st8 t k)
  obtain ⟨T10, h10, ls10, X10, e10, N10, R10, st10⟩ := gPut X8 hx hZ hown (host := "") (Or.inl (hw _ (List.mem_of_getElem? (i := 19) rfl))) e8 N5 R8 1 0 rfl rfl (Or.inr ⟨(hw _ (List.mem_of_getElem? (i := 20) rfl)), rfl, hnm⟩) (hw _ (List.mem_of_getElem? (i := 7) rfl)) (ty := (.array .int)) (by decide) rfl rfl (g := (mkF m 18 #[.val (.ref ax), .val (.ref ix), .val (.int (Int32.ofNat cnt)), .val (.int (Int32.ofNat es.length)), .val (.int (Int32.ofNat (max es.length cnt))), .unset, .unset, .unset, .unset] [(.ref b8), (.ref ax)])) rfl rfl (hb hby d2_18)
  replace R10 : Rep Z n0 h10 ((b8, Ar .int (nl (List.replicate es.length 0))) :: (ax, Obj "com/example/witgen/witgen/regex/Partition" [("elements", "[I", (.ref b8)), ("location", "[I", u2), ("blockOf", "[I", u3), ("start", "[I", u4), ("end", "[I", u5), ("marked", "[I", u6), ("touched", "[I", u7), ("blocks", "I", u9)]) :: (ix, Ar .int (nl es)) :: Rst) := R10
  have pre11 : ∀ t, Steps p.tables e below (T10.setTop (mkF m 21 #[.val (.ref ax), .val (.ref ix), .val (.int (Int32.ofNat cnt)), .val (.int (Int32.ofNat es.length)), .val (.int (Int32.ofNat (max es.length cnt))), .unset, .unset, .unset, .unset] [])) t → Steps p.tables e below (s₁.setTop (entryFrame m #[(.ref ax), (.ref ix), (.int (Int32.ofNat cnt))] 9)) t := fun t k => pre9 t (st10 t k)
  have pre12 : ∀ t, Steps p.tables e below (T10.setTop (mkF m 23 #[.val (.ref ax), .val (.ref ix), .val (.int (Int32.ofNat cnt)), .val (.int (Int32.ofNat es.length)), .val (.int (Int32.ofNat (max es.length cnt))), .unset, .unset, .unset, .unset] [(.int (Int32.ofNat es.length)), (.ref ax)])) t → Steps p.tables e below (s₁.setTop (entryFrame m #[(.ref ax), (.ref ix), (.int (Int32.ofNat cnt))] 9)) t := fun t k => pre11 t (by
    show Steps p.tables e below (T10.setTop (mkF m 21 #[.val (.ref ax), .val (.ref ix), .val (.int (Int32.ofNat cnt)), .val (.int (Int32.ofNat es.length)), .val (.int (Int32.ofNat (max es.length cnt))), .unset, .unset, .unset, .unset] [])) _
    refine XS.aloadN X10.here hx rfl (hb hby d2_21) rfl rfl ?_
    refine XS.iloadN X10.here hx rfl (hb hby d2_22) rfl ?_
    exact k)
  obtain ⟨T13, h13, b13, X13, e13, R13, st13⟩ := gNewP X10 hx hZ (hw _ (List.mem_of_getElem? (i := 5) rfl)) e10 R10 (g := (mkF m 23 #[.val (.ref ax), .val (.ref ix), .val (.int (Int32.ofNat cnt)), .val (.int (Int32.ofNat es.length)), .val (.int (Int32.ofNat (max es.length cnt))), .unset, .unset, .unset, .unset] [(.int (Int32.ofNat es.length)), (.ref ax)])) rfl (hb hby d2_23) rfl (n_nn (by omega)) 4 (by rw [n_ix (by omega)]; omega) (by decide) (by decide) (by decide) (vs := (nl (List.replicate es.length 0))) (by rw [n_ix (by omega)]; exact n_rep _)
  replace R13 : Rep Z n0 h13 ((b13, Ar .int (nl (List.replicate es.length 0))) :: (b8, Ar .int (nl (List.replicate es.length 0))) :: (ax, Obj "com/example/witgen/witgen/regex/Partition" [("elements", "[I", (.ref b8)), ("location", "[I", u2), ("blockOf", "[I", u3), ("start", "[I", u4), ("end", "[I", u5), ("marked", "[I", u6), ("touched", "[I", u7), ("blocks", "I", u9)]) :: (ix, Ar .int (nl es)) :: Rst) := R13
  have pre14 : ∀ t, Steps p.tables e below (T13.setTop (mkF m 25 #[.val (.ref ax), .val (.ref ix), .val (.int (Int32.ofNat cnt)), .val (.int (Int32.ofNat es.length)), .val (.int (Int32.ofNat (max es.length cnt))), .unset, .unset, .unset, .unset] [(.ref b13), (.ref ax)])) t → Steps p.tables e below (s₁.setTop (entryFrame m #[(.ref ax), (.ref ix), (.int (Int32.ofNat cnt))] 9)) t := fun t k => pre12 t (st13 t k)
  obtain ⟨T15, h15, ls15, X15, e15, N15, R15, st15⟩ := gPut X13 hx hZ hown (host := "") (Or.inl (hw _ (List.mem_of_getElem? (i := 21) rfl))) e13 N10 R13 2 1 rfl rfl (Or.inr ⟨(hw _ (List.mem_of_getElem? (i := 22) rfl)), rfl, hnm⟩) (hw _ (List.mem_of_getElem? (i := 7) rfl)) (ty := (.array .int)) (by decide) rfl rfl (g := (mkF m 25 #[.val (.ref ax), .val (.ref ix), .val (.int (Int32.ofNat cnt)), .val (.int (Int32.ofNat es.length)), .val (.int (Int32.ofNat (max es.length cnt))), .unset, .unset, .unset, .unset] [(.ref b13), (.ref ax)])) rfl rfl (hb hby d2_25)
  replace R15 : Rep Z n0 h15 ((b13, Ar .int (nl (List.replicate es.length 0))) :: (b8, Ar .int (nl (List.replicate es.length 0))) :: (ax, Obj "com/example/witgen/witgen/regex/Partition" [("elements", "[I", (.ref b8)), ("location", "[I", (.ref b13)), ("blockOf", "[I", u3), ("start", "[I", u4), ("end", "[I", u5), ("marked", "[I", u6), ("touched", "[I", u7), ("blocks", "I", u9)]) :: (ix, Ar .int (nl es)) :: Rst) := R15
  have pre16 : ∀ t, Steps p.tables e below (T15.setTop (mkF m 28 #[.val (.ref ax), .val (.ref ix), .val (.int (Int32.ofNat cnt)), .val (.int (Int32.ofNat es.length)), .val (.int (Int32.ofNat (max es.length cnt))), .unset, .unset, .unset, .unset] [])) t → Steps p.tables e below (s₁.setTop (entryFrame m #[(.ref ax), (.ref ix), (.int (Int32.ofNat cnt))] 9)) t := fun t k => pre14 t (st15 t k)
  have pre17 : ∀ t, Steps p.tables e below (T15.setTop (mkF m 30 #[.val (.ref ax), .val (.ref ix), .val (.int (Int32.ofNat cnt)), .val (.int (Int32.ofNat es.length)), .val (.int (Int32.ofNat (max es.length cnt))), .unset, .unset, .unset, .unset] [(.ref ix), (.ref ax)])) t → Steps p.tables e below (s₁.setTop (entryFrame m #[(.ref ax), (.ref ix), (.int (Int32.ofNat cnt))] 9)) t := fun t k => pre16 t (by
    show Steps p.tables e below (T15.setTop (mkF m 28 #[.val (.ref ax), .val (.ref ix), .val (.int (Int32.ofNat cnt)), .val (.int (Int32.ofNat es.length)), .val (.int (Int32.ofNat (max es.length cnt))), .unset, .unset, .unset, .unset] [])) _
    refine XS.aloadN X15.here hx rfl (hb hby d2_28) rfl rfl ?_
    refine XS.aloadN X15.here hx rfl (hb hby d2_29) rfl rfl ?_
    exact k)
  obtain ⟨T18, h18, b18, X18, e18, R18, E18, st18⟩ := gClone X15 hx hZ hown (hw _ (List.mem_of_getElem? (i := 23) rfl)) (hw _ (List.mem_of_getElem? (i := 24) rfl)) (hw _ (List.mem_of_getElem? (i := 28) rfl)) (hw _ (List.mem_of_getElem? (i := 26) rfl)) (hw _ (List.mem_of_getElem? (i := 27) rfl)) (hw _ (List.mem_of_getElem? (i := 29) rfl)) e15 R15 3 rfl (show _ = "[I" from rfl) (g := (mkF m 30 #[.val (.ref ax), .val (.ref ix), .val (.int (Int32.ofNat cnt)), .val (.int (Int32.ofNat es.length)), .val (.int (Int32.ofNat (max es.length cnt))), .unset, .unset, .unset, .unset] [(.ref ix), (.ref ax)])) rfl (by rw [hml]; rfl) rfl (hb hby d2_30) (by decide) (W := 1) 4 (by show 2 * 0 + _ ≤ _; exact Nat.le_of_eq rfl) (by decide) (by rw [nl_len]; omega) (by decide) (by decide)
  have pre19 : ∀ t, Steps p.tables e below (T18.setTop (mkF m 33 #[.val (.ref ax), .val (.ref ix), .val (.int (Int32.ofNat cnt)), .val (.int (Int32.ofNat es.length)), .val (.int (Int32.ofNat (max es.length cnt))), .unset, .unset, .unset, .unset] [(.ref b18), (.ref ax)])) t → Steps p.tables e below (s₁.setTop (entryFrame m #[(.ref ax), (.ref ix), (.int (Int32.ofNat cnt))] 9)) t := fun t k => pre17 t (st18 t k)
  obtain ⟨T20, X20, e20, st20⟩ := gCast X18 hx hZ hown (hw _ (List.mem_of_getElem? (i := 30) rfl)) e18 E18 (g := (mkF m 33 #[.val (.ref ax), .val (.ref ix), .val (.int (Int32.ofNat cnt)), .val (.int (Int32.ofNat es.length)), .val (.int (Int32.ofNat (max es.length cnt))), .unset, .unset, .unset, .unset] [(.ref b18), (.ref ax)])) rfl rfl (hb hby d2_33)
  have pre21 : ∀ t, Steps p.tables e below (T20.setTop (mkF m 36 #[.val (.ref ax), .val (.ref ix), .val (.int (Int32.ofNat cnt)), .val (.int (Int32.ofNat es.length)), .val (.int (Int32.ofNat (max es.length cnt))), .unset, .unset, .unset, .unset] [(.ref b18), (.ref ax)])) t → Steps p.tables e below (s₁.setTop (entryFrame m #[(.ref ax), (.ref ix), (.int (Int32.ofNat cnt))] 9)) t := fun t k => pre19 t (st20 t k)
  obtain ⟨T22, h22, ls22, X22, e22, N22, R22, st22⟩ := gPut X20 hx hZ hown (host := "") (Or.inl (hw _ (List.mem_of_getElem? (i := 32) rfl))) e20 N15 R18 3 2 rfl rfl (Or.inr ⟨(hw _ (List.mem_of_getElem? (i := 33) rfl)), rfl, hnm⟩) (hw _ (List.mem_of_getElem? (i := 7) rfl)) (ty := (.array .int)) (by decide) rfl rfl (g := (mkF m 36 #[.val (.ref ax), .val (.ref ix), .val (.int (Int32.ofNat cnt)), .val (.int (Int32.ofNat es.length)), .val (.int (Int32.ofNat (max es.length cnt))), .unset, .unset, .unset, .unset] [(.ref b18), (.ref ax)])) rfl rfl (hb hby d2_36)
  replace R22 : Rep Z n0 h22 ((b18, Ar .int (nl es)) :: (b13, Ar .int (nl (List.replicate es.length 0))) :: (b8, Ar .int (nl (List.replicate es.length 0))) :: (ax, Obj "com/example/witgen/witgen/regex/Partition" [("elements", "[I", (.ref b8)), ("location", "[I", (.ref b13)), ("blockOf", "[I", (.ref b18)), ("start", "[I", u4), ("end", "[I", u5), ("marked", "[I", u6), ("touched", "[I", u7), ("blocks", "I", u9)]) :: (ix, Ar .int (nl es)) :: Rst) := R22
  have pre23 : ∀ t, Steps p.tables e below (T22.setTop (mkF m 39 #[.val (.ref ax), .val (.ref ix), .val (.int (Int32.ofNat cnt)), .val (.int (Int32.ofNat es.length)), .val (.int (Int32.ofNat (max es.length cnt))), .unset, .unset, .unset, .unset] [])) t → Steps p.tables e below (s₁.setTop (entryFrame m #[(.ref ax), (.ref ix), (.int (Int32.ofNat cnt))] 9)) t := fun t k => pre21 t (st22 t k)
  have pre24 : ∀ t, Steps p.tables e below (T22.setTop (mkF m 42 #[.val (.ref ax), .val (.ref ix), .val (.int (Int32.ofNat cnt)), .val (.int (Int32.ofNat es.length)), .val (.int (Int32.ofNat (max es.length cnt))), .unset, .unset, .unset, .unset] [(.int (Int32.ofNat (max es.length cnt))), (.ref ax)])) t → Steps p.tables e below (s₁.setTop (entryFrame m #[(.ref ax), (.ref ix), (.int (Int32.ofNat cnt))] 9)) t := fun t k => pre23 t (by
    show Steps p.tables e below (T22.setTop (mkF m 39 #[.val (.ref ax), .val (.ref ix), .val (.int (Int32.ofNat cnt)), .val (.int (Int32.ofNat es.length)), .val (.int (Int32.ofNat (max es.length cnt))), .unset, .unset, .unset, .unset] [])) _
    refine XS.aloadN X22.here hx rfl (hb hby d2_39) rfl rfl ?_
    refine XS.iload X22.here hx rfl (hb hby d2_40) rfl ?_
    exact k)
  obtain ⟨T25, h25, b25, X25, e25, R25, st25⟩ := gNewP X22 hx hZ (hw _ (List.mem_of_getElem? (i := 5) rfl)) e22 R22 (g := (mkF m 42 #[.val (.ref ax), .val (.ref ix), .val (.int (Int32.ofNat cnt)), .val (.int (Int32.ofNat es.length)), .val (.int (Int32.ofNat (max es.length cnt))), .unset, .unset, .unset, .unset] [(.int (Int32.ofNat (max es.length cnt))), (.ref ax)])) rfl (hb hby d2_42) rfl (n_nn (by omega)) 8 (by rw [n_ix (by omega)]; omega) (by decide) (by decide) (by decide) (vs := (nl (List.replicate (max es.length cnt) 0))) (by rw [n_ix (by omega)]; exact n_rep _)
  replace R25 : Rep Z n0 h25 ((b25, Ar .int (nl (List.replicate (max es.length cnt) 0))) :: (b18, Ar .int (nl es)) :: (b13, Ar .int (nl (List.replicate es.length 0))) :: (b8, Ar .int (nl (List.replicate es.length 0))) :: (ax, Obj "com/example/witgen/witgen/regex/Partition" [("elements", "[I", (.ref b8)), ("location", "[I", (.ref b13)), ("blockOf", "[I", (.ref b18)), ("start", "[I", u4), ("end", "[I", u5), ("marked", "[I", u6), ("touched", "[I", u7), ("blocks", "I", u9)]) :: (ix, Ar .int (nl es)) :: Rst) := R25
  have pre26 : ∀ t, Steps p.tables e below (T25.setTop (mkF m 44 #[.val (.ref ax), .val (.ref ix), .val (.int (Int32.ofNat cnt)), .val (.int (Int32.ofNat es.length)), .val (.int (Int32.ofNat (max es.length cnt))), .unset, .unset, .unset, .unset] [(.ref b25), (.ref ax)])) t → Steps p.tables e below (s₁.setTop (entryFrame m #[(.ref ax), (.ref ix), (.int (Int32.ofNat cnt))] 9)) t := fun t k => pre24 t (st25 t k)
  obtain ⟨T27, h27, ls27, X27, e27, N27, R27, st27⟩ := gPut X25 hx hZ hown (host := "") (Or.inl (hw _ (List.mem_of_getElem? (i := 34) rfl))) e25 N22 R25 4 3 rfl rfl (Or.inr ⟨(hw _ (List.mem_of_getElem? (i := 35) rfl)), rfl, hnm⟩) (hw _ (List.mem_of_getElem? (i := 7) rfl)) (ty := (.array .int)) (by decide) rfl rfl (g := (mkF m 44 #[.val (.ref ax), .val (.ref ix), .val (.int (Int32.ofNat cnt)), .val (.int (Int32.ofNat es.length)), .val (.int (Int32.ofNat (max es.length cnt))), .unset, .unset, .unset, .unset] [(.ref b25), (.ref ax)])) rfl rfl (hb hby d2_44)
  replace R27 : Rep Z n0 h27 ((b25, Ar .int (nl (List.replicate (max es.length cnt) 0))) :: (b18, Ar .int (nl es)) :: (b13, Ar .int (nl (List.replicate es.length 0))) :: (b8, Ar .int (nl (List.replicate es.length 0))) :: (ax, Obj "com/example/witgen/witgen/regex/Partition" [("elements", "[I", (.ref b8)), ("location", "[I", (.ref b13)), ("blockOf", "[I", (.ref b18)), ("start", "[I", (.ref b25)), ("end", "[I", u5), ("marked", "[I", u6), ("touched", "[I", u7), ("blocks", "I", u9)]) :: (ix, Ar .int (nl es)) :: Rst) := R27
  have pre28 : ∀ t, Steps p.tables e below (T27.setTop (mkF m 47 #[.val (.ref ax), .val (.ref ix), .val (.int (Int32.ofNat cnt)), .val (.int (Int32.ofNat es.length)), .val (.int (Int32.ofNat (max es.length cnt))), .unset, .unset, .unset, .unset] [])) t → Steps p.tables e below (s₁.setTop (entryFrame m #[(.ref ax), (.ref ix), (.int (Int32.ofNat cnt))] 9)) t := fun t k => pre26 t (st27 t k)
  have pre29 : ∀ t, Steps p.tables e below (T27.setTop (mkF m 50 #[.val (.ref ax), .val (.ref ix), .val (.int (Int32.ofNat cnt)), .val (.int (Int32.ofNat es.length)), .val (.int (Int32.ofNat (max es.length cnt))), .unset, .unset, .unset, .unset] [(.int (Int32.ofNat (max es.length cnt))), (.ref ax)])) t → Steps p.tables e below (s₁.setTop (entryFrame m #[(.ref ax), (.ref ix), (.int (Int32.ofNat cnt))] 9)) t := fun t k => pre28 t (by
    show Steps p.tables e below (T27.setTop (mkF m 47 #[.val (.ref ax), .val (.ref ix), .val (.int (Int32.ofNat cnt)), .val (.int (Int32.ofNat es.length)), .val (.int (Int32.ofNat (max es.length cnt))), .unset, .unset, .unset, .unset] [])) _
    refine XS.aloadN X27.here hx rfl (hb hby d2_47) rfl rfl ?_
    refine XS.iload X27.here hx rfl (hb hby d2_48) rfl ?_
    exact k)
  obtain ⟨T30, h30, b30, X30, e30, R30, st30⟩ := gNewP X27 hx hZ (hw _ (List.mem_of_getElem? (i := 5) rfl)) e27 R27 (g := (mkF m 50 #[.val (.ref ax), .val (.ref ix), .val (.int (Int32.ofNat cnt)), .val (.int (Int32.ofNat es.length)), .val (.int (Int32.ofNat (max es.length cnt))), .unset, .unset, .unset, .unset] [(.int (Int32.ofNat (max es.length cnt))), (.ref ax)])) rfl (hb hby d2_50) rfl (n_nn (by omega)) 8 (by rw [n_ix (by omega)]; omega) (by decide) (by decide) (by decide) (vs := (nl (List.replicate (max es.length cnt) 0))) (by rw [n_ix (by omega)]; exact n_rep _)
  replace R30 : Rep Z n0 h30 ((b30, Ar .int (nl (List.replicate (max es.length cnt) 0))) :: (b25, Ar .int (nl (List.replicate (max es.length cnt) 0))) :: (b18, Ar .int (nl es)) :: (b13, Ar .int (nl (List.replicate es.length 0))) :: (b8, Ar .int (nl (List.replicate es.length 0))) :: (ax, Obj "com/example/witgen/witgen/regex/Partition" [("elements", "[I", (.ref b8)), ("location", "[I", (.ref b13)), ("blockOf", "[I", (.ref b18)), ("start", "[I", (.ref b25)), ("end", "[I", u5), ("marked", "[I", u6), ("touched", "[I", u7), ("blocks", "I", u9)]) :: (ix, Ar .int (nl es)) :: Rst) := R30
  have pre31 : ∀ t, Steps p.tables e below (T30.setTop (mkF m 52 #[.val (.ref ax), .val (.ref ix), .val (.int (Int32.ofNat cnt)), .val (.int (Int32.ofNat es.length)), .val (.int (Int32.ofNat (max es.length cnt))), .unset, .unset, .unset, .unset] [(.ref b30), (.ref ax)])) t → Steps p.tables e below (s₁.setTop (entryFrame m #[(.ref ax), (.ref ix), (.int (Int32.ofNat cnt))] 9)) t := fun t k => pre29 t (st30 t k)
  obtain ⟨T32, h32, ls32, X32, e32, N32, R32, st32⟩ := gPut X30 hx hZ hown (host := "") (Or.inl (hw _ (List.mem_of_getElem? (i := 36) rfl))) e30 N27 R30 5 4 rfl rfl (Or.inr ⟨(hw _ (List.mem_of_getElem? (i := 37) rfl)), rfl, hnm⟩) (hw _ (List.mem_of_getElem? (i := 7) rfl)) (ty := (.array .int)) (by decide) rfl rfl (g := (mkF m 52 #[.val (.ref ax), .val (.ref ix), .val (.int (Int32.ofNat cnt)), .val (.int (Int32.ofNat es.length)), .val (.int (Int32.ofNat (max es.length cnt))), .unset, .unset, .unset, .unset] [(.ref b30), (.ref ax)])) rfl rfl (hb hby d2_52)
  replace R32 : Rep Z n0 h32 ((b30, Ar .int (nl (List.replicate (max es.length cnt) 0))) :: (b25, Ar .int (nl (List.replicate (max es.length cnt) 0))) :: (b18, Ar .int (nl es)) :: (b13, Ar .int (nl (List.replicate es.length 0))) :: (b8, Ar .int (nl (List.replicate es.length 0))) :: (ax, Obj "com/example/witgen/witgen/regex/Partition" [("elements", "[I", (.ref b8)), ("location", "[I", (.ref b13)), ("blockOf", "[I", (.ref b18)), ("start", "[I", (.ref b25)), ("end", "[I", (.ref b30)), ("marked", "[I", u6), ("touched", "[I", u7), ("blocks", "I", u9)]) :: (ix, Ar .int (nl es)) :: Rst) := R32
  have pre33 : ∀ t, Steps p.tables e below (T32.setTop (mkF m 55 #[.val (.ref ax), .val (.ref ix), .val (.int (Int32.ofNat cnt)), .val (.int (Int32.ofNat es.length)), .val (.int (Int32.ofNat (max es.length cnt))), .unset, .unset, .unset, .unset] [])) t → Steps p.tables e below (s₁.setTop (entryFrame m #[(.ref ax), (.ref ix), (.int (Int32.ofNat cnt))] 9)) t := fun t k => pre31 t (st32 t k)
  have pre34 : ∀ t, Steps p.tables e below (T32.setTop (mkF m 58 #[.val (.ref ax), .val (.ref ix), .val (.int (Int32.ofNat cnt)), .val (.int (Int32.ofNat es.length)), .val (.int (Int32.ofNat (max es.length cnt))), .unset, .unset, .unset, .unset] [(.int (Int32.ofNat (max es.length cnt))), (.ref ax)])) t → Steps p.tables e below (s₁.setTop (entryFrame m #[(.ref ax), (.ref ix), (.int (Int32.ofNat cnt))] 9)) t := fun t k => pre33 t (by
    show Steps p.tables e below (T32.setTop (mkF m 55 #[.val (.ref ax), .val (.ref ix), .val (.int (Int32.ofNat cnt)), .val (.int (Int32.ofNat es.length)), .val (.int (Int32.ofNat (max es.length cnt))), .unset, .unset, .unset, .unset] [])) _
    refine XS.aloadN X32.here hx rfl (hb hby d2_55) rfl rfl ?_
    refine XS.iload X32.here hx rfl (hb hby d2_56) rfl ?_
    exact k)
  obtain ⟨T35, h35, b35, X35, e35, R35, st35⟩ := gNewP X32 hx hZ (hw _ (List.mem_of_getElem? (i := 5) rfl)) e32 R32 (g := (mkF m 58 #[.val (.ref ax), .val (.ref ix), .val (.int (Int32.ofNat cnt)), .val (.int (Int32.ofNat es.length)), .val (.int (Int32.ofNat (max es.length cnt))), .unset, .unset, .unset, .unset] [(.int (Int32.ofNat (max es.length cnt))), (.ref ax)])) rfl (hb hby d2_58) rfl (n_nn (by omega)) 8 (by rw [n_ix (by omega)]; omega) (by decide) (by decide) (by decide) (vs := (nl (List.replicate (max es.length cnt) 0))) (by rw [n_ix (by omega)]; exact n_rep _)
  replace R35 : Rep Z n0 h35 ((b35, Ar .int (nl (List.replicate (max es.length cnt) 0))) :: (b30, Ar .int (nl (List.replicate (max es.length cnt) 0))) :: (b25, Ar .int (nl (List.replicate (max es.length cnt) 0))) :: (b18, Ar .int (nl es)) :: (b13, Ar .int (nl (List.replicate es.length 0))) :: (b8, Ar .int (nl (List.replicate es.length 0))) :: (ax, Obj "com/example/witgen/witgen/regex/Partition" [("elements", "[I", (.ref b8)), ("location", "[I", (.ref b13)), ("blockOf", "[I", (.ref b18)), ("start", "[I", (.ref b25)), ("end", "[I", (.ref b30)), ("marked", "[I", u6), ("touched", "[I", u7), ("blocks", "I", u9)]) :: (ix, Ar .int (nl es)) :: Rst) := R35
  have pre36 : ∀ t, Steps p.tables e below (T35.setTop (mkF m 60 #[.val (.ref ax), .val (.ref ix), .val (.int (Int32.ofNat cnt)), .val (.int (Int32.ofNat es.length)), .val (.int (Int32.ofNat (max es.length cnt))), .unset, .unset, .unset, .unset] [(.ref b35), (.ref ax)])) t → Steps p.tables e below (s₁.setTop (entryFrame m #[(.ref ax), (.ref ix), (.int (Int32.ofNat cnt))] 9)) t := fun t k => pre34 t (st35 t k)
  obtain ⟨T37, h37, ls37, X37, e37, N37, R37, st37⟩ := gPut X35 hx hZ hown (host := "") (Or.inl (hw _ (List.mem_of_getElem? (i := 38) rfl))) e35 N32 R35 6 5 rfl rfl (Or.inr ⟨(hw _ (List.mem_of_getElem? (i := 39) rfl)), rfl, hnm⟩) (hw _ (List.mem_of_getElem? (i := 7) rfl)) (ty := (.array .int)) (by decide) rfl rfl (g := (mkF m 60 #[.val (.ref ax), .val (.ref ix), .val (.int (Int32.ofNat cnt)), .val (.int (Int32.ofNat es.length)), .val (.int (Int32.ofNat (max es.length cnt))), .unset, .unset, .unset, .unset] [(.ref b35), (.ref ax)])) rfl rfl (hb hby d2_60)
  replace R37 : Rep Z n0 h37 ((b35, Ar .int (nl (List.replicate (max es.length cnt) 0))) :: (b30, Ar .int (nl (List.replicate (max es.length cnt) 0))) :: (b25, Ar .int (nl (List.replicate (max es.length cnt) 0))) :: (b18, Ar .int (nl es)) :: (b13, Ar .int (nl (List.replicate es.length 0))) :: (b8, Ar .int (nl (List.replicate es.length 0))) :: (ax, Obj "com/example/witgen/witgen/regex/Partition" [("elements", "[I", (.ref b8)), ("location", "[I", (.ref b13)), ("blockOf", "[I", (.ref b18)), ("start", "[I", (.ref b25)), ("end", "[I", (.ref b30)), ("marked", "[I", (.ref b35)), ("touched", "[I", u7), ("blocks", "I", u9)]) :: (ix, Ar .int (nl es)) :: Rst) := R37
  have pre38 : ∀ t, Steps p.tables e below (T37.setTop (mkF m 63 #[.val (.ref ax), .val (.ref ix), .val (.int (Int32.ofNat cnt)), .val (.int (Int32.ofNat es.length)), .val (.int (Int32.ofNat (max es.length cnt))), .unset, .unset, .unset, .unset] [])) t → Steps p.tables e below (s₁.setTop (entryFrame m #[(.ref ax), (.ref ix), (.int (Int32.ofNat cnt))] 9)) t := fun t k => pre36 t (st37 t k)
  have pre39 : ∀ t, Steps p.tables e below (T37.setTop (mkF m 66 #[.val (.ref ax), .val (.ref ix), .val (.int (Int32.ofNat cnt)), .val (.int (Int32.ofNat es.length)), .val (.int (Int32.ofNat (max es.length cnt))), .unset, .unset, .unset, .unset] [(.int (Int32.ofNat (max es.length cnt))), (.ref ax)])) t → Steps p.tables e below (s₁.setTop (entryFrame m #[(.ref ax), (.ref ix), (.int (Int32.ofNat cnt))] 9)) t := fun t k => pre38 t (by
    show Steps p.tables e below (T37.setTop (mkF m 63 #[.val (.ref ax), .val (.ref ix), .val (.int (Int32.ofNat cnt)), .val (.int (Int32.ofNat es.length)), .val (.int (Int32.ofNat (max es.length cnt))), .unset, .unset, .unset, .unset] [])) _
    refine XS.aloadN X37.here hx rfl (hb hby d2_63) rfl rfl ?_
    refine XS.iload X37.here hx rfl (hb hby d2_64) rfl ?_
    exact k)
  obtain ⟨T40, h40, b40, X40, e40, R40, st40⟩ := gNewP X37 hx hZ (hw _ (List.mem_of_getElem? (i := 5) rfl)) e37 R37 (g := (mkF m 66 #[.val (.ref ax), .val (.ref ix), .val (.int (Int32.ofNat cnt)), .val (.int (Int32.ofNat es.length)), .val (.int (Int32.ofNat (max es.length cnt))), .unset, .unset, .unset, .unset] [(.int (Int32.ofNat (max es.length cnt))), (.ref ax)])) rfl (hb hby d2_66) rfl (n_nn (by omega)) 8 (by rw [n_ix (by omega)]; omega) (by decide) (by decide) (by decide) (vs := (nl (List.replicate (max es.length cnt) 0))) (by rw [n_ix (by omega)]; exact n_rep _)
  replace R40 : Rep Z n0 h40 ((b40, Ar .int (nl (List.replicate (max es.length cnt) 0))) :: (b35, Ar .int (nl (List.replicate (max es.length cnt) 0))) :: (b30, Ar .int (nl (List.replicate (max es.length cnt) 0))) :: (b25, Ar .int (nl (List.replicate (max es.length cnt) 0))) :: (b18, Ar .int (nl es)) :: (b13, Ar .int (nl (List.replicate es.length 0))) :: (b8, Ar .int (nl (List.replicate es.length 0))) :: (ax, Obj "com/example/witgen/witgen/regex/Partition" [("elements", "[I", (.ref b8)), ("location", "[I", (.ref b13)), ("blockOf", "[I", (.ref b18)), ("start", "[I", (.ref b25)), ("end", "[I", (.ref b30)), ("marked", "[I", (.ref b35)), ("touched", "[I", u7), ("blocks", "I", u9)]) :: (ix, Ar .int (nl es)) :: Rst) := R40
  have pre41 : ∀ t, Steps p.tables e below (T40.setTop (mkF m 68 #[.val (.ref ax), .val (.ref ix), .val (.int (Int32.ofNat cnt)), .val (.int (Int32.ofNat es.length)), .val (.int (Int32.ofNat (max es.length cnt))), .unset, .unset, .unset, .unset] [(.ref b40), (.ref ax)])) t → Steps p.tables e below (s₁.setTop (entryFrame m #[(.ref ax), (.ref ix), (.int (Int32.ofNat cnt))] 9)) t := fun t k => pre39 t (st40 t k)
  obtain ⟨T42, h42, ls42, X42, e42, N42, R42, st42⟩ := gPut X40 hx hZ hown (host := "") (Or.inl (hw _ (List.mem_of_getElem? (i := 40) rfl))) e40 N37 R40 7 6 rfl rfl (Or.inr ⟨(hw _ (List.mem_of_getElem? (i := 41) rfl)), rfl, hnm⟩) (hw _ (List.mem_of_getElem? (i := 7) rfl)) (ty := (.array .int)) (by decide) rfl rfl (g := (mkF m 68 #[.val (.ref ax), .val (.ref ix), .val (.int (Int32.ofNat cnt)), .val (.int (Int32.ofNat es.length)), .val (.int (Int32.ofNat (max es.length cnt))), .unset, .unset, .unset, .unset] [(.ref b40), (.ref ax)])) rfl rfl (hb hby d2_68)
  replace R42 : Rep Z n0 h42 ((b40, Ar .int (nl (List.replicate (max es.length cnt) 0))) :: (b35, Ar .int (nl (List.replicate (max es.length cnt) 0))) :: (b30, Ar .int (nl (List.replicate (max es.length cnt) 0))) :: (b25, Ar .int (nl (List.replicate (max es.length cnt) 0))) :: (b18, Ar .int (nl es)) :: (b13, Ar .int (nl (List.replicate es.length 0))) :: (b8, Ar .int (nl (List.replicate es.length 0))) :: (ax, Obj "com/example/witgen/witgen/regex/Partition" [("elements", "[I", (.ref b8)), ("location", "[I", (.ref b13)), ("blockOf", "[I", (.ref b18)), ("start", "[I", (.ref b25)), ("end", "[I", (.ref b30)), ("marked", "[I", (.ref b35)), ("touched", "[I", (.ref b40)), ("blocks", "I", u9)]) :: (ix, Ar .int (nl es)) :: Rst) := R42
  have pre43 : ∀ t, Steps p.tables e below (T42.setTop (mkF m 71 #[.val (.ref ax), .val (.ref ix), .val (.int (Int32.ofNat cnt)), .val (.int (Int32.ofNat es.length)), .val (.int (Int32.ofNat (max es.length cnt))), .unset, .unset, .unset, .unset] [])) t → Steps p.tables e below (s₁.setTop (entryFrame m #[(.ref ax), (.ref ix), (.int (Int32.ofNat cnt))] 9)) t := fun t k => pre41 t (st42 t k)
  have pre44 : ∀ t, Steps p.tables e below (T42.setTop (mkF m 73 #[.val (.ref ax), .val (.ref ix), .val (.int (Int32.ofNat cnt)), .val (.int (Int32.ofNat es.length)), .val (.int (Int32.ofNat (max es.length cnt))), .unset, .unset, .unset, .unset] [(.int (Int32.ofNat cnt)), (.ref ax)])) t → Steps p.tables e below (s₁.setTop (entryFrame m #[(.ref ax), (.ref ix), (.int (Int32.ofNat cnt))] 9)) t := fun t k => pre43 t (by
    show Steps p.tables e below (T42.setTop (mkF m 71 #[.val (.ref ax), .val (.ref ix), .val (.int (Int32.ofNat cnt)), .val (.int (Int32.ofNat es.length)), .val (.int (Int32.ofNat (max es.length cnt))), .unset, .unset, .unset, .unset] [])) _
    refine XS.aloadN X42.here hx rfl (hb hby d2_71) rfl rfl ?_
    refine XS.iloadN X42.here hx rfl (hb hby d2_72) rfl ?_
    exact k)
  obtain ⟨T45, h45, ls45, X45, e45, N45, R45, st45⟩ := gPut X42 hx hZ hown (host := "") (Or.inl (hw _ (List.mem_of_getElem? (i := 42) rfl))) e42 N42 R42 7 7 rfl rfl (Or.inl (hw _ (List.mem_of_getElem? (i := 43) rfl))) (hw _ (List.mem_of_getElem? (i := 7) rfl)) (ty := .int) (by decide) rfl rfl (g := (mkF m 73 #[.val (.ref ax), .val (.ref ix), .val (.int (Int32.ofNat cnt)), .val (.int (Int32.ofNat es.length)), .val (.int (Int32.ofNat (max es.length cnt))), .unset, .unset, .unset, .unset] [(.int (Int32.ofNat cnt)), (.ref ax)])) rfl rfl (hb hby d2_73)
  replace R45 : Rep Z n0 h45 ((b40, Ar .int (nl (List.replicate (max es.length cnt) 0))) :: (b35, Ar .int (nl (List.replicate (max es.length cnt) 0))) :: (b30, Ar .int (nl (List.replicate (max es.length cnt) 0))) :: (b25, Ar .int (nl (List.replicate (max es.length cnt) 0))) :: (b18, Ar .int (nl es)) :: (b13, Ar .int (nl (List.replicate es.length 0))) :: (b8, Ar .int (nl (List.replicate es.length 0))) :: (ax, Obj "com/example/witgen/witgen/regex/Partition" [("elements", "[I", (.ref b8)), ("location", "[I", (.ref b13)), ("blockOf", "[I", (.ref b18)), ("start", "[I", (.ref b25)), ("end", "[I", (.ref b30)), ("marked", "[I", (.ref b35)), ("touched", "[I", (.ref b40)), ("blocks", "I", (.int (Int32.ofNat cnt)))]) :: (ix, Ar .int (nl es)) :: Rst) := R45
  have pre46 : ∀ t, Steps p.tables e below (T45.setTop (mkF m 76 #[.val (.ref ax), .val (.ref ix), .val (.int (Int32.ofNat cnt)), .val (.int (Int32.ofNat es.length)), .val (.int (Int32.ofNat (max es.length cnt))), .unset, .unset, .unset, .unset] [])) t → Steps p.tables e below (s₁.setTop (entryFrame m #[(.ref ax), (.ref ix), (.int (Int32.ofNat cnt))] 9)) t := fun t k => pre44 t (st45 t k)
  have pre47 : ∀ t, Steps p.tables e below (T45.setTop (mkF m 87 #[.val (.ref ax), .val (.ref ix), .val (.int (Int32.ofNat cnt)), .val (.int (Int32.ofNat es.length)), .val (.int (Int32.ofNat (max es.length cnt))), .val (.ref ix), .val (.int (Int32.ofNat es.length)), .val (.int (0 : Int32)), .unset] [])) t → Steps p.tables e below (s₁.setTop (entryFrame m #[(.ref ax), (.ref ix), (.int (Int32.ofNat cnt))] 9)) t := fun t k => pre46 t (by
    show Steps p.tables e below (T45.setTop (mkF m 76 #[.val (.ref ax), .val (.ref ix), .val (.int (Int32.ofNat cnt)), .val (.int (Int32.ofNat es.length)), .val (.int (Int32.ofNat (max es.length cnt))), .unset, .unset, .unset, .unset] [])) _
    refine XS.aloadN X45.here hx rfl (hb hby d2_76) rfl rfl ?_
    refine XS.astore X45.here hx rfl (hb hby d2_77) rfl rfl (l' := #[.val (.ref ax), .val (.ref ix), .val (.int (Int32.ofNat cnt)), .val (.int (Int32.ofNat es.length)), .val (.int (Int32.ofNat (max es.length cnt))), .val (.ref ix), .unset, .unset, .unset]) rfl ?_
    refine XS.aload X45.here hx rfl (hb hby d2_79) rfl rfl ?_
    refine gLen X45 hx hZ e45 R45 8 rfl (g := (mkF m 81 #[.val (.ref ax), .val (.ref ix), .val (.int (Int32.ofNat cnt)), .val (.int (Int32.ofNat es.length)), .val (.int (Int32.ofNat (max es.length cnt))), .val (.ref ix), .unset, .unset, .unset] [(.ref ix)])) rfl rfl (hb hby d2_81) (z := (Int32.ofNat es.length)) (by rw [nl_len]) _ ?_
    refine XS.istore X45.here hx rfl (hb hby d2_82) rfl (l' := #[.val (.ref ax), .val (.ref ix), .val (.int (Int32.ofNat cnt)), .val (.int (Int32.ofNat es.length)), .val (.int (Int32.ofNat (max es.length cnt))), .val (.ref ix), .val (.int (Int32.ofNat es.length)), .unset, .unset]) rfl ?_
    refine XS.iconst X45.here hx rfl (hb hby d2_84) ?_
    refine XS.istore X45.here hx rfl (hb hby d2_85) rfl (l' := #[.val (.ref ax), .val (.ref ix), .val (.int (Int32.ofNat cnt)), .val (.int (Int32.ofNat es.length)), .val (.int (Int32.ofNat (max es.length cnt))), .val (.ref ix), .val (.int (Int32.ofNat es.length)), .val (.int (0 : Int32)), .unset]) rfl ?_
    exact k)
  have R48 : Rep Z n0 h45 ((ix, Ar .int (nl es)) :: (b40, Ar .int (nl (List.replicate (max es.length cnt) 0))) :: (b35, Ar .int (nl (List.replicate (max es.length cnt) 0))) :: (b30, Ar .int (nl (List.replicate (max es.length cnt) 0))) :: (b25, Ar .int (nl (List.replicate (max es.length cnt) 0))) :: (b18, Ar .int (nl es)) :: (b13, Ar .int (nl (List.replicate es.length 0))) :: (b8, Ar .int (nl (List.replicate es.length 0))) :: (ax, Obj "com/example/witgen/witgen/regex/Partition" [("elements", "[I", (.ref b8)), ("location", "[I", (.ref b13)), ("blockOf", "[I", (.ref b18)), ("start", "[I", (.ref b25)), ("end", "[I", (.ref b30)), ("marked", "[I", (.ref b35)), ("touched", "[I", (.ref b40)), ("blocks", "I", (.int (Int32.ofNat cnt)))]) :: Rst) := R45.front 8 rfl rfl
  have R49 : Rep Z n0 h45 ((b30, Ar .int (nl (List.replicate (max es.length cnt) 0))) :: (ix, Ar .int (nl es)) :: (b40, Ar .int (nl (List.replicate (max es.length cnt) 0))) :: (b35, Ar .int (nl (List.replicate (max es.length cnt) 0))) :: (b25, Ar .int (nl (List.replicate (max es.length cnt) 0))) :: (b18, Ar .int (nl es)) :: (b13, Ar .int (nl (List.replicate es.length 0))) :: (b8, Ar .int (nl (List.replicate es.length 0))) :: (ax, Obj "com/example/witgen/witgen/regex/Partition" [("elements", "[I", (.ref b8)), ("location", "[I", (.ref b13)), ("blockOf", "[I", (.ref b18)), ("start", "[I", (.ref b25)), ("end", "[I", (.ref b30)), ("marked", "[I", (.ref b35)), ("touched", "[I", (.ref b40)), ("blocks", "I", (.int (Int32.ofNat cnt)))]) :: Rst) := R48.front 3 rfl rfl
  have R50 : Rep Z n0 h45 ((ax, Obj "com/example/witgen/witgen/regex/Partition" [("elements", "[I", (.ref b8)), ("location", "[I", (.ref b13)), ("blockOf", "[I", (.ref b18)), ("start", "[I", (.ref b25)), ("end", "[I", (.ref b30)), ("marked", "[I", (.ref b35)), ("touched", "[I", (.ref b40)), ("blocks", "I", (.int (Int32.ofNat cnt)))]) :: (b30, Ar .int (nl (List.replicate (max es.length cnt) 0))) :: (ix, Ar .int (nl es)) :: (b40, Ar .int (nl (List.replicate (max es.length cnt) 0))) :: (b35, Ar .int (nl (List.replicate (max es.length cnt) 0))) :: (b25, Ar .int (nl (List.replicate (max es.length cnt) 0))) :: (b18, Ar .int (nl es)) :: (b13, Ar .int (nl (List.replicate es.length 0))) :: (b8, Ar .int (nl (List.replicate es.length 0))) :: Rst) := R49.front 8 rfl rfl
  obtain ⟨s851, T51, h51, ls51, o851, X51, e51, N51, R51, st51⟩ := l1_loop ax ix b8 b13 b18 b25 b30 b35 b40 cnt es.length (max es.length cnt) es (by omega) hx hZ hw hby hml hown es.length 0 .unset (List.replicate (max es.length cnt) 0) _ _ _ (by omega) hok.1 One1.u X45 e45 N45 R50
  replace R51 : Rep Z n0 h51 ((ax, Obj "com/example/witgen/witgen/regex/Partition" [("elements", "[I", (.ref b8)), ("location", "[I", (.ref b13)), ("blockOf", "[I", (.ref b18)), ("start", "[I", (.ref b25)), ("end", "[I", (.ref b30)), ("marked", "[I", (.ref b35)), ("touched", "[I", (.ref b40)), ("blocks", "I", (.int (Int32.ofNat cnt)))]) :: (b30, Ar .int (nl (pE1 es cnt))) :: (ix, Ar .int (nl es)) :: (b40, Ar .int (nl (List.replicate (max es.length cnt) 0))) :: (b35, Ar .int (nl (List.replicate (max es.length cnt) 0))) :: (b25, Ar .int (nl (List.replicate (max es.length cnt) 0))) :: (b18, Ar .int (nl es)) :: (b13, Ar .int (nl (List.replicate es.length 0))) :: (b8, Ar .int (nl (List.replicate es.length 0))) :: Rst) := R51
  have pre52 : ∀ t, Steps p.tables e below (T51.setTop (mkF m 118 #[.val (.ref ax), .val (.ref ix), .val (.int (Int32.ofNat cnt)), .val (.int (Int32.ofNat es.length)), .val (.int (Int32.ofNat (max es.length cnt))), .val (.ref ix), .val (.int (Int32.ofNat es.length)), .val (.int (Int32.ofNat es.length)), s851] [])) t → Steps p.tables e below (s₁.setTop (entryFrame m #[(.ref ax), (.ref ix), (.int (Int32.ofNat cnt))] 9)) t := fun t k => pre47 t (st51 t k)
  have pre53 : ∀ t, Steps p.tables e below (T51.setTop (mkF m 121 #[.val (.ref ax), .val (.ref ix), .val (.int (Int32.ofNat cnt)), .val (.int (Int32.ofNat es.length)), .val (.int (Int32.ofNat (max es.length cnt))), .val (.int (1 : Int32)), .val (.int (Int32.ofNat es.length)), .val (.int (Int32.ofNat es.length)), s851] [])) t → Steps p.tables e below (s₁.setTop (entryFrame m #[(.ref ax), (.ref ix), (.int (Int32.ofNat cnt))] 9)) t := fun t k => pre52 t (by
    show Steps p.tables e below (T51.setTop (mkF m 118 #[.val (.ref ax), .val (.ref ix), .val (.int (Int32.ofNat cnt)), .val (.int (Int32.ofNat es.length)), .val (.int (Int32.ofNat (max es.length cnt))), .val (.ref ix), .val (.int (Int32.ofNat es.length)), .val (.int (Int32.ofNat es.length)), s851] [])) _
    refine XS.iconst X51.here hx rfl (hb hby d2_118) ?_
    refine XS.istore X51.here hx rfl (hb hby d2_119) rfl (l' := #[.val (.ref ax), .val (.ref ix), .val (.int (Int32.ofNat cnt)), .val (.int (Int32.ofNat es.length)), .val (.int (Int32.ofNat (max es.length cnt))), .val (.int (1 : Int32)), .val (.int (Int32.ofNat es.length)), .val (.int (Int32.ofNat es.length)), s851]) rfl ?_
    exact k)
  obtain ⟨T54, h54, ls54, X54, e54, N54, R54, st54⟩ := l2_loop ax ix b8 b13 b18 b25 b30 b35 b40 cnt es.length (max es.length cnt) (.val (.int (Int32.ofNat es.length))) (.val (.int (Int32.ofNat es.length))) (s851) (by omega) hx hZ hw hby hml hown (cnt - 1) 1 (pE1 es cnt) _ _ _ (by omega) hok.2.1 X51 e51 N51 R51
  replace R54 : Rep Z n0 h54 ((ax, Obj "com/example/witgen/witgen/regex/Partition" [("elements", "[I", (.ref b8)), ("location", "[I", (.ref b13)), ("blockOf", "[I", (.ref b18)), ("start", "[I", (.ref b25)), ("end", "[I", (.ref b30)), ("marked", "[I", (.ref b35)), ("touched", "[I", (.ref b40)), ("blocks", "I", (.int (Int32.ofNat cnt)))]) :: (b30, Ar .int (nl (pEn es cnt))) :: (ix, Ar .int (nl es)) :: (b40, Ar .int (nl (List.replicate (max es.length cnt) 0))) :: (b35, Ar .int (nl (List.replicate (max es.length cnt) 0))) :: (b25, Ar .int (nl (List.replicate (max es.length cnt) 0))) :: (b18, Ar .int (nl es)) :: (b13, Ar .int (nl (List.replicate es.length 0))) :: (b8, Ar .int (nl (List.replicate es.length 0))) :: Rst) := R54
  have pre55 : ∀ t, Steps p.tables e below (T54.setTop (mkF m 152 #[.val (.ref ax), .val (.ref ix), .val (.int (Int32.ofNat cnt)), .val (.int (Int32.ofNat es.length)), .val (.int (Int32.ofNat (max es.length cnt))), .val (.int (Int32.ofNat cnt)), .val (.int (Int32.ofNat es.length)), .val (.int (Int32.ofNat es.length)), s851] [])) t → Steps p.tables e below (s₁.setTop (entryFrame m #[(.ref ax), (.ref ix), (.int (Int32.ofNat cnt))] 9)) t := fun t k => pre53 t (st54 t k)
  have pre56 : ∀ t, Steps p.tables e below (T54.setTop (mkF m 155 #[.val (.ref ax), .val (.ref ix), .val (.int (Int32.ofNat cnt)), .val (.int (Int32.ofNat es.length)), .val (.int (Int32.ofNat (max es.length cnt))), .val (.int (0 : Int32)), .val (.int (Int32.ofNat es.length)), .val (.int (Int32.ofNat es.length)), s851] [])) t → Steps p.tables e below (s₁.setTop (entryFrame m #[(.ref ax), (.ref ix), (.int (Int32.ofNat cnt))] 9)) t := fun t k => pre55 t (by
    show Steps p.tables e below (T54.setTop (mkF m 152 #[.val (.ref ax), .val (.ref ix), .val (.int (Int32.ofNat cnt)), .val (.int (Int32.ofNat es.length)), .val (.int (Int32.ofNat (max es.length cnt))), .val (.int (Int32.ofNat cnt)), .val (.int (Int32.ofNat es.length)), .val (.int (Int32.ofNat es.length)), s851] [])) _
    refine XS.iconst X54.here hx rfl (hb hby d2_152) ?_
    refine XS.istore X54.here hx rfl (hb hby d2_153) rfl (l' := #[.val (.ref ax), .val (.ref ix), .val (.int (Int32.ofNat cnt)), .val (.int (Int32.ofNat es.length)), .val (.int (Int32.ofNat (max es.length cnt))), .val (.int (0 : Int32)), .val (.int (Int32.ofNat es.length)), .val (.int (Int32.ofNat es.length)), s851]) rfl ?_
    exact k)
  have R57 : Rep Z n0 h54 ((b30, Ar .int (nl (pEn es cnt))) :: (ax, Obj "com/example/witgen/witgen/regex/Partition" [("elements", "[I", (.ref b8)), ("location", "[I", (.ref b13)), ("blockOf", "[I", (.ref b18)), ("start", "[I", (.ref b25)), ("end", "[I", (.ref b30)), ("marked", "[I", (.ref b35)), ("touched", "[I", (.ref b40)), ("blocks", "I", (.int (Int32.ofNat cnt)))]) :: (ix, Ar .int (nl es)) :: (b40, Ar .int (nl (List.replicate (max es.length cnt) 0))) :: (b35, Ar .int (nl (List.replicate (max es.length cnt) 0))) :: (b25, Ar .int (nl (List.replicate (max es.length cnt) 0))) :: (b18, Ar .int (nl es)) :: (b13, Ar .int (nl (List.replicate es.length 0))) :: (b8, Ar .int (nl (List.replicate es.length 0))) :: Rst) := R54.front 1 rfl rfl
  have R58 : Rep Z n0 h54 ((b25, Ar .int (nl (List.replicate (max es.length cnt) 0))) :: (b30, Ar .int (nl (pEn es cnt))) :: (ax, Obj "com/example/witgen/witgen/regex/Partition" [("elements", "[I", (.ref b8)), ("location", "[I", (.ref b13)), ("blockOf", "[I", (.ref b18)), ("start", "[I", (.ref b25)), ("end", "[I", (.ref b30)), ("marked", "[I", (.ref b35)), ("touched", "[I", (.ref b40)), ("blocks", "I", (.int (Int32.ofNat cnt)))]) :: (ix, Ar .int (nl es)) :: (b40, Ar .int (nl (List.replicate (max es.length cnt) 0))) :: (b35, Ar .int (nl (List.replicate (max es.length cnt) 0))) :: (b18, Ar .int (nl es)) :: (b13, Ar .int (nl (List.replicate es.length 0))) :: (b8, Ar .int (nl (List.replicate es.length 0))) :: Rst) := R57.front 5 rfl rfl
  have R59 : Rep Z n0 h54 ((ax, Obj "com/example/witgen/witgen/regex/Partition" [("elements", "[I", (.ref b8)), ("location", "[I", (.ref b13)), ("blockOf", "[I", (.ref b18)), ("start", "[I", (.ref b25)), ("end", "[I", (.ref b30)), ("marked", "[I", (.ref b35)), ("touched", "[I", (.ref b40)), ("blocks", "I", (.int (Int32.ofNat cnt)))]) :: (b25, Ar .int (nl (List.replicate (max es.length cnt) 0))) :: (b30, Ar .int (nl (pEn es cnt))) :: (ix, Ar .int (nl es)) :: (b40, Ar .int (nl (List.replicate (max es.length cnt) 0))) :: (b35, Ar .int (nl (List.replicate (max es.length cnt) 0))) :: (b18, Ar .int (nl es)) :: (b13, Ar .int (nl (List.replicate es.length 0))) :: (b8, Ar .int (nl (List.replicate es.length 0))) :: Rst) := R58.front 2 rfl rfl
  obtain ⟨T60, h60, ls60, X60, e60, N60, R60, st60⟩ := l3_loop ax ix b8 b13 b18 b25 b30 b35 b40 cnt es.length (max es.length cnt) (.val (.int (Int32.ofNat es.length))) (.val (.int (Int32.ofNat es.length))) (s851) (pEn es cnt) (by omega) hx hZ hw hby hml hown cnt 0 (List.replicate (max es.length cnt) 0) _ _ _ (by omega) hok.2.2.1 X54 e54 N54 R59
  replace R60 : Rep Z n0 h60 ((ax, Obj "com/example/witgen/witgen/regex/Partition" [("elements", "[I", (.ref b8)), ("location", "[I", (.ref b13)), ("blockOf", "[I", (.ref b18)), ("start", "[I", (.ref b25)), ("end", "[I", (.ref b30)), ("marked", "[I", (.ref b35)), ("touched", "[I", (.ref b40)), ("blocks", "I", (.int (Int32.ofNat cnt)))]) :: (b25, Ar .int (nl (pSt es cnt))) :: (b30, Ar .int (nl (pEn es cnt))) :: (ix, Ar .int (nl es)) :: (b40, Ar .int (nl (List.replicate (max es.length cnt) 0))) :: (b35, Ar .int (nl (List.replicate (max es.length cnt) 0))) :: (b18, Ar .int (nl es)) :: (b13, Ar .int (nl (List.replicate es.length 0))) :: (b8, Ar .int (nl (List.replicate es.length 0))) :: Rst) := R60
  have pre61 : ∀ t, Steps p.tables e below (T60.setTop (mkF m 192 #[.val (.ref ax), .val (.ref ix), .val (.int (Int32.ofNat cnt)), .val (.int (Int32.ofNat es.length)), .val (.int (Int32.ofNat (max es.length cnt))), .val (.int (Int32.ofNat cnt)), .val (.int (Int32.ofNat es.length)), .val (.int (Int32.ofNat es.length)), s851] [])) t → Steps p.tables e below (s₁.setTop (entryFrame m #[(.ref ax), (.ref ix), (.int (Int32.ofNat cnt))] 9)) t := fun t k => pre56 t (st60 t k)
  have pre62 : ∀ t, Steps p.tables e below (T60.setTop (mkF m 193 #[.val (.ref ax), .val (.ref ix), .val (.int (Int32.ofNat cnt)), .val (.int (Int32.ofNat es.length)), .val (.int (Int32.ofNat (max es.length cnt))), .val (.int (Int32.ofNat cnt)), .val (.int (Int32.ofNat es.length)), .val (.int (Int32.ofNat es.length)), s851] [(.ref ax)])) t → Steps p.tables e below (s₁.setTop (entryFrame m #[(.ref ax), (.ref ix), (.int (Int32.ofNat cnt))] 9)) t := fun t k => pre61 t (by
    show Steps p.tables e below (T60.setTop (mkF m 192 #[.val (.ref ax), .val (.ref ix), .val (.int (Int32.ofNat cnt)), .val (.int (Int32.ofNat es.length)), .val (.int (Int32.ofNat (max es.length cnt))), .val (.int (Int32.ofNat cnt)), .val (.int (Int32.ofNat es.length)), .val (.int (Int32.ofNat es.length)), s851] [])) _
    refine XS.aloadN X60.here hx rfl (hb hby d2_192) rfl rfl ?_
    exact k)
  obtain ⟨T63, X63, e63, st63⟩ := gGet X60 hx hZ hown (host := "") (Or.inl (hw _ (List.mem_of_getElem? (i := 34) rfl))) e60 R60 0 3 rfl rfl (g := (mkF m 193 #[.val (.ref ax), .val (.ref ix), .val (.int (Int32.ofNat cnt)), .val (.int (Int32.ofNat es.length)), .val (.int (Int32.ofNat (max es.length cnt))), .val (.int (Int32.ofNat cnt)), .val (.int (Int32.ofNat es.length)), .val (.int (Int32.ofNat es.length)), s851] [(.ref ax)])) rfl rfl (hb hby d2_193)
  have pre64 : ∀ t, Steps p.tables e below (T63.setTop (mkF m 196 #[.val (.ref ax), .val (.ref ix), .val (.int (Int32.ofNat cnt)), .val (.int (Int32.ofNat es.length)), .val (.int (Int32.ofNat (max es.length cnt))), .val (.int (Int32.ofNat cnt)), .val (.int (Int32.ofNat es.length)), .val (.int (Int32.ofNat es.length)), s851] [(.ref b25)])) t → Steps p.tables e below (s₁.setTop (entryFrame m #[(.ref ax), (.ref ix), (.int (Int32.ofNat cnt))] 9)) t := fun t k => pre62 t (st63 t k)
  have pre65 : ∀ t, Steps p.tables e below (T63.setTop (mkF m 197 #[.val (.ref ax), .val (.ref ix), .val (.int (Int32.ofNat cnt)), .val (.int (Int32.ofNat es.length)), .val (.int (Int32.ofNat (max es.length cnt))), .val (.int (Int32.ofNat cnt)), .val (.int (Int32.ofNat es.length)), .val (.int (Int32.ofNat es.length)), s851] [(.int (Int32.ofNat cnt)), (.ref b25)])) t → Steps p.tables e below (s₁.setTop (entryFrame m #[(.ref ax), (.ref ix), (.int (Int32.ofNat cnt))] 9)) t := fun t k => pre64 t (by
    show Steps p.tables e below (T63.setTop (mkF m 196 #[.val (.ref ax), .val (.ref ix), .val (.int (Int32.ofNat cnt)), .val (.int (Int32.ofNat es.length)), .val (.int (Int32.ofNat (max es.length cnt))), .val (.int (Int32.ofNat cnt)), .val (.int (Int32.ofNat es.length)), .val (.int (Int32.ofNat es.length)), s851] [(.ref b25)])) _
    refine XS.iloadN X63.here hx rfl (hb hby d2_196) rfl ?_
    exact k)
  have R67 : Rep Z n0 h60 ((b25, Ar .int (nl (pSt es cnt))) :: (ax, Obj "com/example/witgen/witgen/regex/Partition" [("elements", "[I", (.ref b8)), ("location", "[I", (.ref b13)), ("blockOf", "[I", (.ref b18)), ("start", "[I", (.ref b25)), ("end", "[I", (.ref b30)), ("marked", "[I", (.ref b35)), ("touched", "[I", (.ref b40)), ("blocks", "I", (.int (Int32.ofNat cnt)))]) :: (b30, Ar .int (nl (pEn es cnt))) :: (ix, Ar .int (nl es)) :: (b40, Ar .int (nl (List.replicate (max es.length cnt) 0))) :: (b35, Ar .int (nl (List.replicate (max es.length cnt) 0))) :: (b18, Ar .int (nl es)) :: (b13, Ar .int (nl (List.replicate es.length 0))) :: (b8, Ar .int (nl (List.replicate es.length 0))) :: Rst) := R60.front 1 rfl rfl
  obtain ⟨_, _, ⟨T66, L66, k66, n66⟩, -, X66, ⟨Lc66, hQ66, l66, y66, z66⟩, st66⟩ := Jvm.LawKit.callS X63 hx (y := (⟨"java/util/Arrays", "copyOf", "([II)[I"⟩ : MethodName)) hown (mvT hZ (hw _ (List.mem_of_getElem? (i := 44) rfl))) (mvT hZ (hw _ (List.mem_of_getElem? (i := 45) rfl))) (mvT hZ (hw _ (List.mem_of_getElem? (i := 46) rfl))) (mvT hZ (hw _ (List.mem_of_getElem? (i := 47) rfl))) (by decide) (backOf (W := 0) (rm5 l Z a0 hw [] b25 cnt _ h60 n0 _ R67 (hok.2.2.2.2.1) (hok.2.2.2.2.2)) hZ (hw _ (List.mem_of_getElem? (i := 47) rfl)) (hw _ (List.mem_of_getElem? (i := 46) rfl)) (by decide) (by decide)) (g := (mkF m 197 #[.val (.ref ax), .val (.ref ix), .val (.int (Int32.ofNat cnt)), .val (.int (Int32.ofNat es.length)), .val (.int (Int32.ofNat (max es.length cnt))), .val (.int (Int32.ofNat cnt)), .val (.int (Int32.ofNat es.length)), .val (.int (Int32.ofNat es.length)), s851] [(.int (Int32.ofNat cnt)), (.ref b25)])) rfl (by rw [hml]; rfl) (argsL := [(.ref b25), (.int (Int32.ofNat cnt))]) (rest := []) (lenOf pd__28_5bII_29_5bI rfl) rfl (by show 2 * 0 + _ ≤ _; exact Nat.le_of_eq rfl) (hb hby d2_197) (fun _ _ => ⟨rfl, e63, (by decide : 7 + 1 ≤ _), (by decide : 44 + 8 ≤ _)⟩)
  dsimp only [Pt.U, Pt.locs, Pt.cells, Pt.slots] at X66 l66 y66 z66 st66 hQ66
  subst y66 z66
  obtain ⟨bx66, rfl, N66q, R66⟩ := hQ66
  have N66 : Fr n0 L66 := by rw [l66]; exact Fr.app N60 N66q
  replace R66 : Rep Z n0 T66.heap ((bx66, Ar .int (nl ((pSt es cnt).take cnt))) :: (b25, Ar .int (nl (pSt es cnt))) :: (ax, Obj "com/example/witgen/witgen/regex/Partition" [("elements", "[I", (.ref b8)), ("location", "[I", (.ref b13)), ("blockOf", "[I", (.ref b18)), ("start", "[I", (.ref b25)), ("end", "[I", (.ref b30)), ("marked", "[I", (.ref b35)), ("touched", "[I", (.ref b40)), ("blocks", "I", (.int (Int32.ofNat cnt)))]) :: (b30, Ar .int (nl (pEn es cnt))) :: (ix, Ar .int (nl es)) :: (b40, Ar .int (nl (List.replicate (max es.length cnt) 0))) :: (b35, Ar .int (nl (List.replicate (max es.length cnt) 0))) :: (b18, Ar .int (nl es)) :: (b13, Ar .int (nl (List.replicate es.length 0))) :: (b8, Ar .int (nl (List.replicate es.length 0))) :: Rst) := R66
  have pre68 : ∀ t, Steps p.tables e below (T66.setTop (mkF m 200 #[.val (.ref ax), .val (.ref ix), .val (.int (Int32.ofNat cnt)), .val (.int (Int32.ofNat es.length)), .val (.int (Int32.ofNat (max es.length cnt))), .val (.int (Int32.ofNat cnt)), .val (.int (Int32.ofNat es.length)), .val (.int (Int32.ofNat es.length)), s851] [(.ref bx66)])) t → Steps p.tables e below (s₁.setTop (entryFrame m #[(.ref ax), (.ref ix), (.int (Int32.ofNat cnt))] 9)) t := fun t k => pre65 t (st66 t k)
  have pre69 : ∀ t, Steps p.tables e below (T66.setTop (mkF m 205 #[.val (.ref ax), .val (.ref ix), .val (.int (Int32.ofNat cnt)), .val (.int (Int32.ofNat es.length)), .val (.int (Int32.ofNat (max es.length cnt))), .val (.ref bx66), .val (.int (0 : Int32)), .val (.int (Int32.ofNat es.length)), s851] [])) t → Steps p.tables e below (s₁.setTop (entryFrame m #[(.ref ax), (.ref ix), (.int (Int32.ofNat cnt))] 9)) t := fun t k => pre68 t (by
    show Steps p.tables e below (T66.setTop (mkF m 200 #[.val (.ref ax), .val (.ref ix), .val (.int (Int32.ofNat cnt)), .val (.int (Int32.ofNat es.length)), .val (.int (Int32.ofNat (max es.length cnt))), .val (.int (Int32.ofNat cnt)), .val (.int (Int32.ofNat es.length)), .val (.int (Int32.ofNat es.length)), s851] [(.ref bx66)])) _
    refine XS.astore X66.here hx rfl (hb hby d2_200) rfl rfl (l' := #[.val (.ref ax), .val (.ref ix), .val (.int (Int32.ofNat cnt)), .val (.int (Int32.ofNat es.length)), .val (.int (Int32.ofNat (max es.length cnt))), .val (.ref bx66), .val (.int (Int32.ofNat es.length)), .val (.int (Int32.ofNat es.length)), s851]) rfl ?_
    refine XS.iconst X66.here hx rfl (hb hby d2_202) ?_
    refine XS.istore X66.here hx rfl (hb hby d2_203) rfl (l' := #[.val (.ref ax), .val (.ref ix), .val (.int (Int32.ofNat cnt)), .val (.int (Int32.ofNat es.length)), .val (.int (Int32.ofNat (max es.length cnt))), .val (.ref bx66), .val (.int (0 : Int32)), .val (.int (Int32.ofNat es.length)), s851]) rfl ?_
    exact k)
  have R70 : Rep Z n0 T66.heap ((ix, Ar .int (nl es)) :: (bx66, Ar .int (nl ((pSt es cnt).take cnt))) :: (b25, Ar .int (nl (pSt es cnt))) :: (ax, Obj "com/example/witgen/witgen/regex/Partition" [("elements", "[I", (.ref b8)), ("location", "[I", (.ref b13)), ("blockOf", "[I", (.ref b18)), ("start", "[I", (.ref b25)), ("end", "[I", (.ref b30)), ("marked", "[I", (.ref b35)), ("touched", "[I", (.ref b40)), ("blocks", "I", (.int (Int32.ofNat cnt)))]) :: (b30, Ar .int (nl (pEn es cnt))) :: (b40, Ar .int (nl (List.replicate (max es.length cnt) 0))) :: (b35, Ar .int (nl (List.replicate (max es.length cnt) 0))) :: (b18, Ar .int (nl es)) :: (b13, Ar .int (nl (List.replicate es.length 0))) :: (b8, Ar .int (nl (List.replicate es.length 0))) :: Rst) := R66.front 4 rfl rfl
  have R71 : Rep Z n0 T66.heap ((bx66, Ar .int (nl ((pSt es cnt).take cnt))) :: (ix, Ar .int (nl es)) :: (b25, Ar .int (nl (pSt es cnt))) :: (ax, Obj "com/example/witgen/witgen/regex/Partition" [("elements", "[I", (.ref b8)), ("location", "[I", (.ref b13)), ("blockOf", "[I", (.ref b18)), ("start", "[I", (.ref b25)), ("end", "[I", (.ref b30)), ("marked", "[I", (.ref b35)), ("touched", "[I", (.ref b40)), ("blocks", "I", (.int (Int32.ofNat cnt)))]) :: (b30, Ar .int (nl (pEn es cnt))) :: (b40, Ar .int (nl (List.replicate (max es.length cnt) 0))) :: (b35, Ar .int (nl (List.replicate (max es.length cnt) 0))) :: (b18, Ar .int (nl es)) :: (b13, Ar .int (nl (List.replicate es.length 0))) :: (b8, Ar .int (nl (List.replicate es.length 0))) :: Rst) := R70.front 1 rfl rfl
  have R72 : Rep Z n0 T66.heap ((b13, Ar .int (nl (List.replicate es.length 0))) :: (bx66, Ar .int (nl ((pSt es cnt).take cnt))) :: (ix, Ar .int (nl es)) :: (b25, Ar .int (nl (pSt es cnt))) :: (ax, Obj "com/example/witgen/witgen/regex/Partition" [("elements", "[I", (.ref b8)), ("location", "[I", (.ref b13)), ("blockOf", "[I", (.ref b18)), ("start", "[I", (.ref b25)), ("end", "[I", (.ref b30)), ("marked", "[I", (.ref b35)), ("touched", "[I", (.ref b40)), ("blocks", "I", (.int (Int32.ofNat cnt)))]) :: (b30, Ar .int (nl (pEn es cnt))) :: (b40, Ar .int (nl (List.replicate (max es.length cnt) 0))) :: (b35, Ar .int (nl (List.replicate (max es.length cnt) 0))) :: (b18, Ar .int (nl es)) :: (b8, Ar .int (nl (List.replicate es.length 0))) :: Rst) := R71.front 8 rfl rfl
  have R73 : Rep Z n0 T66.heap ((b8, Ar .int (nl (List.replicate es.length 0))) :: (b13, Ar .int (nl (List.replicate es.length 0))) :: (bx66, Ar .int (nl ((pSt es cnt).take cnt))) :: (ix, Ar .int (nl es)) :: (b25, Ar .int (nl (pSt es cnt))) :: (ax, Obj "com/example/witgen/witgen/regex/Partition" [("elements", "[I", (.ref b8)), ("location", "[I", (.ref b13)), ("blockOf", "[I", (.ref b18)), ("start", "[I", (.ref b25)), ("end", "[I", (.ref b30)), ("marked", "[I", (.ref b35)), ("touched", "[I", (.ref b40)), ("blocks", "I", (.int (Int32.ofNat cnt)))]) :: (b30, Ar .int (nl (pEn es cnt))) :: (b40, Ar .int (nl (List.replicate (max es.length cnt) 0))) :: (b35, Ar .int (nl (List.replicate (max es.length cnt) 0))) :: (b18, Ar .int (nl es)) :: Rst) := R72.front 9 rfl rfl
  have R74 : Rep Z n0 T66.heap ((ax, Obj "com/example/witgen/witgen/regex/Partition" [("elements", "[I", (.ref b8)), ("location", "[I", (.ref b13)), ("blockOf", "[I", (.ref b18)), ("start", "[I", (.ref b25)), ("end", "[I", (.ref b30)), ("marked", "[I", (.ref b35)), ("touched", "[I", (.ref b40)), ("blocks", "I", (.int (Int32.ofNat cnt)))]) :: (b8, Ar .int (nl (List.replicate es.length 0))) :: (b13, Ar .int (nl (List.replicate es.length 0))) :: (bx66, Ar .int (nl ((pSt es cnt).take cnt))) :: (ix, Ar .int (nl es)) :: (b25, Ar .int (nl (pSt es cnt))) :: (b30, Ar .int (nl (pEn es cnt))) :: (b40, Ar .int (nl (List.replicate (max es.length cnt) 0))) :: (b35, Ar .int (nl (List.replicate (max es.length cnt) 0))) :: (b18, Ar .int (nl es)) :: Rst) := R73.front 5 rfl rfl
  obtain ⟨T75, h75, ls75, X75, e75, N75, R75, st75⟩ := l4_loop ax ix b8 b13 b18 b25 b30 b35 b40 cnt es.length (max es.length cnt) bx66 (.val (.int (Int32.ofNat es.length))) (s851) es (by omega) hx hZ hw hby hml hown es.length 0 (List.replicate es.length 0) (List.replicate es.length 0) ((pSt es cnt).take cnt) _ _ _ (by omega) hok.2.2.2.1 X66 rfl N66 R74
  replace R75 : Rep Z n0 h75 ((ax, Obj "com/example/witgen/witgen/regex/Partition" [("elements", "[I", (.ref b8)), ("location", "[I", (.ref b13)), ("blockOf", "[I", (.ref b18)), ("start", "[I", (.ref b25)), ("end", "[I", (.ref b30)), ("marked", "[I", (.ref b35)), ("touched", "[I", (.ref b40)), ("blocks", "I", (.int (Int32.ofNat cnt)))]) :: (b8, Ar .int (nl (pS4 es cnt).1)) :: (b13, Ar .int (nl (pS4 es cnt).2.1)) :: (bx66, Ar .int (nl (pS4 es cnt).2.2)) :: (ix, Ar .int (nl es)) :: (b25, Ar .int (nl (pSt es cnt))) :: (b30, Ar .int (nl (pEn es cnt))) :: (b40, Ar .int (nl (List.replicate (max es.length cnt) 0))) :: (b35, Ar .int (nl (List.replicate (max es.length cnt) 0))) :: (b18, Ar .int (nl es)) :: Rst) := R75
  have pre76 : ∀ t, Steps p.tables e below (T75.setTop (mkF m 250 #[.val (.ref ax), .val (.ref ix), .val (.int (Int32.ofNat cnt)), .val (.int (Int32.ofNat es.length)), .val (.int (Int32.ofNat (max es.length cnt))), .val (.ref bx66), .val (.int (Int32.ofNat es.length)), .val (.int (Int32.ofNat es.length)), s851] [])) t → Steps p.tables e below (s₁.setTop (entryFrame m #[(.ref ax), (.ref ix), (.int (Int32.ofNat cnt))] 9)) t := fun t k => pre69 t (st75 t k)
  obtain ⟨fs, hr, hrun, hended, hW, hsame⟩ := X75.leave (v := none) (fun _ => rfl)
  refine ⟨_, _, pre76 _ ?_, hrun, hended, _, _, rfl, ?_, ⟨_, rfl⟩, hW, hsame.mono (by decide) (by decide)⟩
  · show Steps p.tables e below (T75.setTop (mkF m 250 #[.val (.ref ax), .val (.ref ix), .val (.int (Int32.ofNat cnt)), .val (.int (Int32.ofNat es.length)), .val (.int (Int32.ofNat (max es.length cnt))), .val (.ref bx66), .val (.int (Int32.ofNat es.length)), .val (.int (Int32.ofNat es.length)), s851] [])) _
    exact X75.returnOut hx Bd.returns (hb hby d2_250) hr
  · show Q2 Z ax ix cnt u1 u2 u3 u4 u5 u6 u7 u9 es n0 Rst _ T75.heap _
    rw [e75]
    have R77 : Rep Z n0 h75 ((ix, Ar .int (nl es)) :: (ax, Obj "com/example/witgen/witgen/regex/Partition" [("elements", "[I", (.ref b8)), ("location", "[I", (.ref b13)), ("blockOf", "[I", (.ref b18)), ("start", "[I", (.ref b25)), ("end", "[I", (.ref b30)), ("marked", "[I", (.ref b35)), ("touched", "[I", (.ref b40)), ("blocks", "I", (.int (Int32.ofNat cnt)))]) :: (b8, Ar .int (nl (pS4 es cnt).1)) :: (b13, Ar .int (nl (pS4 es cnt).2.1)) :: (bx66, Ar .int (nl (pS4 es cnt).2.2)) :: (b25, Ar .int (nl (pSt es cnt))) :: (b30, Ar .int (nl (pEn es cnt))) :: (b40, Ar .int (nl (List.replicate (max es.length cnt) 0))) :: (b35, Ar .int (nl (List.replicate (max es.length cnt) 0))) :: (b18, Ar .int (nl es)) :: Rst) := R75.front 4 rfl rfl
    have R78 : Rep Z n0 h75 ((b40, Ar .int (nl (List.replicate (max es.length cnt) 0))) :: (ix, Ar .int (nl es)) :: (ax, Obj "com/example/witgen/witgen/regex/Partition" [("elements", "[I", (.ref b8)), ("location", "[I", (.ref b13)), ("blockOf", "[I", (.ref b18)), ("start", "[I", (.ref b25)), ("end", "[I", (.ref b30)), ("marked", "[I", (.ref b35)), ("touched", "[I", (.ref b40)), ("blocks", "I", (.int (Int32.ofNat cnt)))]) :: (b8, Ar .int (nl (pS4 es cnt).1)) :: (b13, Ar .int (nl (pS4 es cnt).2.1)) :: (bx66, Ar .int (nl (pS4 es cnt).2.2)) :: (b25, Ar .int (nl (pSt es cnt))) :: (b30, Ar .int (nl (pEn es cnt))) :: (b35, Ar .int (nl (List.replicate (max es.length cnt) 0))) :: (b18, Ar .int (nl es)) :: Rst) := R77.front 7 rfl rfl
    have R79 : Rep Z n0 h75 ((b35, Ar .int (nl (List.replicate (max es.length cnt) 0))) :: (b40, Ar .int (nl (List.replicate (max es.length cnt) 0))) :: (ix, Ar .int (nl es)) :: (ax, Obj "com/example/witgen/witgen/regex/Partition" [("elements", "[I", (.ref b8)), ("location", "[I", (.ref b13)), ("blockOf", "[I", (.ref b18)), ("start", "[I", (.ref b25)), ("end", "[I", (.ref b30)), ("marked", "[I", (.ref b35)), ("touched", "[I", (.ref b40)), ("blocks", "I", (.int (Int32.ofNat cnt)))]) :: (b8, Ar .int (nl (pS4 es cnt).1)) :: (b13, Ar .int (nl (pS4 es cnt).2.1)) :: (bx66, Ar .int (nl (pS4 es cnt).2.2)) :: (b25, Ar .int (nl (pSt es cnt))) :: (b30, Ar .int (nl (pEn es cnt))) :: (b18, Ar .int (nl es)) :: Rst) := R78.front 8 rfl rfl
    have R80 : Rep Z n0 h75 ((b30, Ar .int (nl (pEn es cnt))) :: (b35, Ar .int (nl (List.replicate (max es.length cnt) 0))) :: (b40, Ar .int (nl (List.replicate (max es.length cnt) 0))) :: (ix, Ar .int (nl es)) :: (ax, Obj "com/example/witgen/witgen/regex/Partition" [("elements", "[I", (.ref b8)), ("location", "[I", (.ref b13)), ("blockOf", "[I", (.ref b18)), ("start", "[I", (.ref b25)), ("end", "[I", (.ref b30)), ("marked", "[I", (.ref b35)), ("touched", "[I", (.ref b40)), ("blocks", "I", (.int (Int32.ofNat cnt)))]) :: (b8, Ar .int (nl (pS4 es cnt).1)) :: (b13, Ar .int (nl (pS4 es cnt).2.1)) :: (bx66, Ar .int (nl (pS4 es cnt).2.2)) :: (b25, Ar .int (nl (pSt es cnt))) :: (b18, Ar .int (nl es)) :: Rst) := R79.front 8 rfl rfl
    have R81 : Rep Z n0 h75 ((b25, Ar .int (nl (pSt es cnt))) :: (b30, Ar .int (nl (pEn es cnt))) :: (b35, Ar .int (nl (List.replicate (max es.length cnt) 0))) :: (b40, Ar .int (nl (List.replicate (max es.length cnt) 0))) :: (ix, Ar .int (nl es)) :: (ax, Obj "com/example/witgen/witgen/regex/Partition" [("elements", "[I", (.ref b8)), ("location", "[I", (.ref b13)), ("blockOf", "[I", (.ref b18)), ("start", "[I", (.ref b25)), ("end", "[I", (.ref b30)), ("marked", "[I", (.ref b35)), ("touched", "[I", (.ref b40)), ("blocks", "I", (.int (Int32.ofNat cnt)))]) :: (b8, Ar .int (nl (pS4 es cnt).1)) :: (b13, Ar .int (nl (pS4 es cnt).2.1)) :: (bx66, Ar .int (nl (pS4 es cnt).2.2)) :: (b18, Ar .int (nl es)) :: Rst) := R80.front 8 rfl rfl
    have R82 : Rep Z n0 h75 ((b18, Ar .int (nl es)) :: (b25, Ar .int (nl (pSt es cnt))) :: (b30, Ar .int (nl (pEn es cnt))) :: (b35, Ar .int (nl (List.replicate (max es.length cnt) 0))) :: (b40, Ar .int (nl (List.replicate (max es.length cnt) 0))) :: (ix, Ar .int (nl es)) :: (ax, Obj "com/example/witgen/witgen/regex/Partition" [("elements", "[I", (.ref b8)), ("location", "[I", (.ref b13)), ("blockOf", "[I", (.ref b18)), ("start", "[I", (.ref b25)), ("end", "[I", (.ref b30)), ("marked", "[I", (.ref b35)), ("touched", "[I", (.ref b40)), ("blocks", "I", (.int (Int32.ofNat cnt)))]) :: (b8, Ar .int (nl (pS4 es cnt).1)) :: (b13, Ar .int (nl (pS4 es cnt).2.1)) :: (bx66, Ar .int (nl (pS4 es cnt).2.2)) :: Rst) := R81.front 9 rfl rfl
    have R83 : Rep Z n0 h75 ((b13, Ar .int (nl (pS4 es cnt).2.1)) :: (b18, Ar .int (nl es)) :: (b25, Ar .int (nl (pSt es cnt))) :: (b30, Ar .int (nl (pEn es cnt))) :: (b35, Ar .int (nl (List.replicate (max es.length cnt) 0))) :: (b40, Ar .int (nl (List.replicate (max es.length cnt) 0))) :: (ix, Ar .int (nl es)) :: (ax, Obj "com/example/witgen/witgen/regex/Partition" [("elements", "[I", (.ref b8)), ("location", "[I", (.ref b13)), ("blockOf", "[I", (.ref b18)), ("start", "[I", (.ref b25)), ("end", "[I", (.ref b30)), ("marked", "[I", (.ref b35)), ("touched", "[I", (.ref b40)), ("blocks", "I", (.int (Int32.ofNat cnt)))]) :: (b8, Ar .int (nl (pS4 es cnt).1)) :: (bx66, Ar .int (nl (pS4 es cnt).2.2)) :: Rst) := R82.front 8 rfl rfl
    have R84 : Rep Z n0 h75 ((b8, Ar .int (nl (pS4 es cnt).1)) :: (b13, Ar .int (nl (pS4 es cnt).2.1)) :: (b18, Ar .int (nl es)) :: (b25, Ar .int (nl (pSt es cnt))) :: (b30, Ar .int (nl (pEn es cnt))) :: (b35, Ar .int (nl (List.replicate (max es.length cnt) 0))) :: (b40, Ar .int (nl (List.replicate (max es.length cnt) 0))) :: (ix, Ar .int (nl es)) :: (ax, Obj "com/example/witgen/witgen/regex/Partition" [("elements", "[I", (.ref b8)), ("location", "[I", (.ref b13)), ("blockOf", "[I", (.ref b18)), ("start", "[I", (.ref b25)), ("end", "[I", (.ref b30)), ("marked", "[I", (.ref b35)), ("touched", "[I", (.ref b40)), ("blocks", "I", (.int (Int32.ofNat cnt)))]) :: (bx66, Ar .int (nl (pS4 es cnt).2.2)) :: Rst) := R83.front 8 rfl rfl
    have R85 : Rep Z n0 h75 ((ax, Obj "com/example/witgen/witgen/regex/Partition" [("elements", "[I", (.ref b8)), ("location", "[I", (.ref b13)), ("blockOf", "[I", (.ref b18)), ("start", "[I", (.ref b25)), ("end", "[I", (.ref b30)), ("marked", "[I", (.ref b35)), ("touched", "[I", (.ref b40)), ("blocks", "I", (.int (Int32.ofNat cnt)))]) :: (b8, Ar .int (nl (pS4 es cnt).1)) :: (b13, Ar .int (nl (pS4 es cnt).2.1)) :: (b18, Ar .int (nl es)) :: (b25, Ar .int (nl (pSt es cnt))) :: (b30, Ar .int (nl (pEn es cnt))) :: (b35, Ar .int (nl (List.replicate (max es.length cnt) 0))) :: (b40, Ar .int (nl (List.replicate (max es.length cnt) 0))) :: (ix, Ar .int (nl es)) :: (bx66, Ar .int (nl (pS4 es cnt).2.2)) :: Rst) := R84.front 8 rfl rfl
    have R86 : Rep Z n0 h75 ((ax, Obj "com/example/witgen/witgen/regex/Partition" [("elements", "[I", (.ref b8)), ("location", "[I", (.ref b13)), ("blockOf", "[I", (.ref b18)), ("start", "[I", (.ref b25)), ("end", "[I", (.ref b30)), ("marked", "[I", (.ref b35)), ("touched", "[I", (.ref b40)), ("blocks", "I", (.int (Int32.ofNat cnt)))]) :: (b8, Ar .int (nl (pS4 es cnt).1)) :: (b13, Ar .int (nl (pS4 es cnt).2.1)) :: (b18, Ar .int (nl es)) :: (b25, Ar .int (nl (pSt es cnt))) :: (b30, Ar .int (nl (pEn es cnt))) :: (b35, Ar .int (nl (List.replicate (max es.length cnt) 0))) :: (b40, Ar .int (nl (List.replicate (max es.length cnt) 0))) :: (ix, Ar .int (nl es)) :: Rst) := (R85.front 9 rfl rfl : Rep Z n0 h75 ((bx66, Ar .int (nl (pS4 es cnt).2.2)) :: (ax, Obj "com/example/witgen/witgen/regex/Partition" [("elements", "[I", (.ref b8)), ("location", "[I", (.ref b13)), ("blockOf", "[I", (.ref b18)), ("start", "[I", (.ref b25)), ("end", "[I", (.ref b30)), ("marked", "[I", (.ref b35)), ("touched", "[I", (.ref b40)), ("blocks", "I", (.int (Int32.ofNat cnt)))]) :: (b8, Ar .int (nl (pS4 es cnt).1)) :: (b13, Ar .int (nl (pS4 es cnt).2.1)) :: (b18, Ar .int (nl es)) :: (b25, Ar .int (nl (pSt es cnt))) :: (b30, Ar .int (nl (pEn es cnt))) :: (b35, Ar .int (nl (List.replicate (max es.length cnt) 0))) :: (b40, Ar .int (nl (List.replicate (max es.length cnt) 0))) :: (ix, Ar .int (nl es)) :: Rst)).tail
    exact ⟨b8, b13, b18, b25, b30, b35, b40, rfl, N75, R86⟩
theorem d1_0 : decode method_3_code 0 = .ok (.iload_n 0, 1) := by decide +kernel
theorem d1_1 : decode method_3_code 1 = .ok (.ifCond .ne 7, 3) := by decide +kernel
theorem d1_4 : decode method_3_code 4 = .ok (.iconst 0, 1) := by decide +kernel
theorem d1_5 : decode method_3_code 5 = .ok (.newarray .int, 2) := by decide +kernel
theorem d1_7 : decode method_3_code 7 = .ok (.areturn, 1) := by decide +kernel
theorem d1_8 : decode method_3_code 8 = .ok (.iload_n 0, 1) := by decide +kernel
theorem d1_9 : decode method_3_code 9 = .ok (.iconst 1, 1) := by decide +kernel
theorem d1_10 : decode method_3_code 10 = .ok (.if_icmp .ne 11, 3) := by decide +kernel
theorem d1_13 : decode method_3_code 13 = .ok (.iconst 1, 1) := by decide +kernel
theorem d1_14 : decode method_3_code 14 = .ok (.newarray .int, 2) := by decide +kernel
theorem d1_16 : decode method_3_code 16 = .ok (.dup, 1) := by decide +kernel
theorem d1_17 : decode method_3_code 17 = .ok (.iconst 0, 1) := by decide +kernel
theorem d1_18 : decode method_3_code 18 = .ok (.iload_n 1, 1) := by decide +kernel
theorem d1_19 : decode method_3_code 19 = .ok (.iastore, 1) := by decide +kernel
theorem d1_20 : decode method_3_code 20 = .ok (.areturn, 1) := by decide +kernel
theorem d1_21 : decode method_3_code 21 = .ok (.iload_n 0, 1) := by decide +kernel
theorem d1_22 : decode method_3_code 22 = .ok (.iconst 2, 1) := by decide +kernel
theorem d1_23 : decode method_3_code 23 = .ok (.if_icmp .ne 15, 3) := by decide +kernel
theorem d1_26 : decode method_3_code 26 = .ok (.iconst 2, 1) := by decide +kernel
theorem d1_27 : decode method_3_code 27 = .ok (.newarray .int, 2) := by decide +kernel
theorem d1_29 : decode method_3_code 29 = .ok (.dup, 1) := by decide +kernel
theorem d1_30 : decode method_3_code 30 = .ok (.iconst 0, 1) := by decide +kernel
theorem d1_31 : decode method_3_code 31 = .ok (.iload_n 1, 1) := by decide +kernel
theorem d1_32 : decode method_3_code 32 = .ok (.iastore, 1) := by decide +kernel
theorem d1_33 : decode method_3_code 33 = .ok (.dup, 1) := by decide +kernel
theorem d1_34 : decode method_3_code 34 = .ok (.iconst 1, 1) := by decide +kernel
theorem d1_35 : decode method_3_code 35 = .ok (.iload_n 2, 1) := by decide +kernel
theorem d1_36 : decode method_3_code 36 = .ok (.iastore, 1) := by decide +kernel
theorem d1_37 : decode method_3_code 37 = .ok (.areturn, 1) := by decide +kernel
theorem d1_38 : decode method_3_code 38 = .ok (.iload_n 0, 1) := by decide +kernel
theorem d1_39 : decode method_3_code 39 = .ok (.iconst 3, 1) := by decide +kernel
theorem d1_40 : decode method_3_code 40 = .ok (.if_icmp .ne 19, 3) := by decide +kernel
theorem d1_43 : decode method_3_code 43 = .ok (.iconst 3, 1) := by decide +kernel
theorem d1_44 : decode method_3_code 44 = .ok (.newarray .int, 2) := by decide +kernel
theorem d1_46 : decode method_3_code 46 = .ok (.dup, 1) := by decide +kernel
theorem d1_47 : decode method_3_code 47 = .ok (.iconst 0, 1) := by decide +kernel
theorem d1_48 : decode method_3_code 48 = .ok (.iload_n 1, 1) := by decide +kernel
theorem d1_49 : decode method_3_code 49 = .ok (.iastore, 1) := by decide +kernel
theorem d1_50 : decode method_3_code 50 = .ok (.dup, 1) := by decide +kernel
theorem d1_51 : decode method_3_code 51 = .ok (.iconst 1, 1) := by decide +kernel
theorem d1_52 : decode method_3_code 52 = .ok (.iload_n 2, 1) := by decide +kernel
theorem d1_53 : decode method_3_code 53 = .ok (.iastore, 1) := by decide +kernel
theorem d1_54 : decode method_3_code 54 = .ok (.dup, 1) := by decide +kernel
theorem d1_55 : decode method_3_code 55 = .ok (.iconst 2, 1) := by decide +kernel
theorem d1_56 : decode method_3_code 56 = .ok (.iload_n 3, 1) := by decide +kernel
theorem d1_57 : decode method_3_code 57 = .ok (.iastore, 1) := by decide +kernel
theorem d1_58 : decode method_3_code 58 = .ok (.areturn, 1) := by decide +kernel
theorem d1_59 : decode method_3_code 59 = .ok (.iconst 4, 1) := by decide +kernel
theorem d1_60 : decode method_3_code 60 = .ok (.newarray .int, 2) := by decide +kernel
theorem d1_62 : decode method_3_code 62 = .ok (.dup, 1) := by decide +kernel
theorem d1_63 : decode method_3_code 63 = .ok (.iconst 0, 1) := by decide +kernel
theorem d1_64 : decode method_3_code 64 = .ok (.iload_n 1, 1) := by decide +kernel
theorem d1_65 : decode method_3_code 65 = .ok (.iastore, 1) := by decide +kernel
theorem d1_66 : decode method_3_code 66 = .ok (.dup, 1) := by decide +kernel
theorem d1_67 : decode method_3_code 67 = .ok (.iconst 1, 1) := by decide +kernel
theorem d1_68 : decode method_3_code 68 = .ok (.iload_n 2, 1) := by decide +kernel
theorem d1_69 : decode method_3_code 69 = .ok (.iastore, 1) := by decide +kernel
theorem d1_70 : decode method_3_code 70 = .ok (.dup, 1) := by decide +kernel
theorem d1_71 : decode method_3_code 71 = .ok (.iconst 2, 1) := by decide +kernel
theorem d1_72 : decode method_3_code 72 = .ok (.iload_n 3, 1) := by decide +kernel
theorem d1_73 : decode method_3_code 73 = .ok (.iastore, 1) := by decide +kernel
theorem d1_74 : decode method_3_code 74 = .ok (.dup, 1) := by decide +kernel
theorem d1_75 : decode method_3_code 75 = .ok (.iconst 3, 1) := by decide +kernel
theorem d1_76 : decode method_3_code 76 = .ok (.iload 4, 2) := by decide +kernel
theorem d1_78 : decode method_3_code 78 = .ok (.iastore, 1) := by decide +kernel
theorem d1_79 : decode method_3_code 79 = .ok (.areturn, 1) := by decide +kernel
theorem pn_com_example_witgen_witgen_regex_PartitionSizePinLaw : plainName "com/example/witgen/witgen/regex/PartitionSizePinLaw" = true := by first | (simp [plainName, overriddenIn]; done) | decide +kernel
theorem ef_1 (m : MethodId) (x0 : Nat) (x1 : Nat) (x2 : Nat) (x3 : Nat) (x4 : Nat) : entryFrame m #[(.int (Int32.ofNat x0)), (.int (Int32.ofNat x1)), (.int (Int32.ofNat x2)), (.int (Int32.ofNat x3)), (.int (Int32.ofNat x4))] 5 = mkF m 0 #[.val (.int (Int32.ofNat x0)), .val (.int (Int32.ofNat x1)), .val (.int (Int32.ofNat x2)), .val (.int (Int32.ofNat x3)), .val (.int (Int32.ofNat x4))] [] := by first | (simp [entryFrame, mkF, argsToLocals, Value.category]; done) | rfl
def MK (nn : Nat) (y0 : Nat) (y1 : Nat) (y2 : Nat) (y3 : Nat) : List Value :=
  if (Int32.ofNat nn) = (0 : Int32) then
    []
  else
    if (Int32.ofNat nn) = (1 : Int32) then
      [(.int (Int32.ofNat y0))]
    else
      if (Int32.ofNat nn) = (2 : Int32) then
        [(.int (Int32.ofNat y0)), (.int (Int32.ofNat y1))]
      else
        if (Int32.ofNat nn) = (3 : Int32) then
          [(.int (Int32.ofNat y0)), (.int (Int32.ofNat y1)), (.int (Int32.ofNat y2))]
        else
          [(.int (Int32.ofNat y0)), (.int (Int32.ofNat y1)), (.int (Int32.ofNat y2)), (.int (Int32.ofNat y3))]
def Q1 (Z : State) (nn : Nat) (y0 : Nat) (y1 : Nat) (y2 : Nat) (y3 : Nat) (n0 : Nat) (Rst : RL) (v : Option Value) (h : Heap) (L : List Loc) : Prop := ∃ bx : Addr, v = some (.ref bx) ∧ Fr n0 L ∧ Rep Z n0 h ((bx, Ar .int (MK nn y0 y1 y2 y3)) :: Rst)
set_option maxRecDepth 65536 in
set_option maxHeartbeats 40000000 in
theorem rm1 (l : Launch) (Z : State) (a0 : Array Value) (hw : ∀ d ∈ tables_1, d.before a0 Z = true) (ws : List Jvm.Cond) (nn : Nat) (y0 : Nat) (y1 : Nat) (y2 : Nat) (y3 : Nat) (h0 : Heap) (n0 : Nat) (Rst : RL) (R0 : Rep Z n0 h0 (Rst)) :
    MetFree l (⟨"com/example/witgen/witgen/regex/PartitionSizePinLaw", "make", "(IIIII)[I"⟩ : MethodName) (head1 (Jvm.Cond.code (⟨"com/example/witgen/witgen/regex/PartitionSizePinLaw", "make", "(IIIII)[I"⟩ : MethodName) method_3_code 5 (some (.array .int)) :: ws) ({ frames := 0, cells := 1, slots := 4, locals := 0 } : Room)) (fun a U => a = #[(.int (Int32.ofNat nn)), (.int (Int32.ofNat y0)), (.int (Int32.ofNat y1)), (.int (Int32.ofNat y2)), (.int (Int32.ofNat y3))] ∧ Z.Warmed39 U.vm ∧ U.heap = h0) (fun _ _ _ _ _ => True) (fun _ U o U' => ∃ v L, o = .returned v ∧ Q1 Z nn y0 y1 y2 y3 n0 Rst v U'.heap L ∧ FrameEnd U o U' L ({ frames := 0, cells := 1, slots := 4, locals := 0 } : Room).cells ({ frames := 0, cells := 1, slots := 4, locals := 0 } : Room).slots) := by
  refine MetFree.of_bodySF (plainFor_of_name pn_com_example_witgen_witgen_regex_PartitionSizePinLaw) hisR ?_
  intro p e s m args below meth c s₁ Bd hml0 hP hK
  obtain ⟨rfl, hZ, hh⟩ := hP
  have hx := Bd.exec
  have hby := Bd.bytes
  have hml : c.maxLocals = 5 := hml0
  have hown : s.vm.findClass "com/example/witgen/witgen/regex/PartitionSizePinLaw" = some m.cls := findClass_of_methodNamed Bd.named
  have hnm := (name_of_methodNamed Bd.named Bd.method).1
  have X0 : Stand p l e ({ frames := 0, cells := 1, slots := 4, locals := 0 } : Room) s m #[(.int (Int32.ofNat nn)), (.int (Int32.ofNat y0)), (.int (Int32.ofNat y1)), (.int (Int32.ofNat y2)), (.int (Int32.ofNat y3))] below meth c s₁ [] 0 0 := Stand.of_body Bd
  have e0 : s₁.heap = h0 := by rw [← hh, Bd.state]; rfl
  have N0 := Fr.nil n0
  have pre0 : ∀ t, Steps p.tables e below (s₁.setTop (mkF m 0 #[.val (.int (Int32.ofNat nn)), .val (.int (Int32.ofNat y0)), .val (.int (Int32.ofNat y1)), .val (.int (Int32.ofNat y2)), .val (.int (Int32.ofNat y3))] [])) t → Steps p.tables e below (s₁.setTop (entryFrame m #[(.int (Int32.ofNat nn)), (.int (Int32.ofNat y0)), (.int (Int32.ofNat y1)), (.int (Int32.ofNat y2)), (.int (Int32.ofNat y3))] 5)) t := fun t k => castTop (ef_1 m nn y0 y1 y2 y3) k
  have pre1 : ∀ t, Steps p.tables e below (s₁.setTop (mkF m 1 #[.val (.int (Int32.ofNat nn)), .val (.int (Int32.ofNat y0)), .val (.int (Int32.ofNat y1)), .val (.int (Int32.ofNat y2)), .val (.int (Int32.ofNat y3))] [(.int (Int32.ofNat nn))])) t → Steps p.tables e below (s₁.setTop (entryFrame m #[(.int (Int32.ofNat nn)), (.int (Int32.ofNat y0)), (.int (Int32.ofNat y1)), (.int (Int32.ofNat y2)), (.int (Int32.ofNat y3))] 5)) t := fun t k => pre0 t (by
    show Steps p.tables e below (s₁.setTop (mkF m 0 #[.val (.int (Int32.ofNat nn)), .val (.int (Int32.ofNat y0)), .val (.int (Int32.ofNat y1)), .val (.int (Int32.ofNat y2)), .val (.int (Int32.ofNat y3))] [])) _
    refine XS.iloadN X0.here hx rfl (hb hby d1_0) rfl ?_
    exact k)
  by_cases hb2 : (Int32.ofNat nn) = (0 : Int32)
  · have pre3 : ∀ t, Steps p.tables e below (s₁.setTop (mkF m 4 #[.val (.int (Int32.ofNat nn)), .val (.int (Int32.ofNat y0)), .val (.int (Int32.ofNat y1)), .val (.int (Int32.ofNat y2)), .val (.int (Int32.ofNat y3))] [])) t → Steps p.tables e below (s₁.setTop (entryFrame m #[(.int (Int32.ofNat nn)), (.int (Int32.ofNat y0)), (.int (Int32.ofNat y1)), (.int (Int32.ofNat y2)), (.int (Int32.ofNat y3))] 5)) t := fun t k => pre1 t (by show Steps p.tables e below (s₁.setTop (mkF m 1 #[.val (.int (Int32.ofNat nn)), .val (.int (Int32.ofNat y0)), .val (.int (Int32.ofNat y1)), .val (.int (Int32.ofNat y2)), .val (.int (Int32.ofNat y3))] [(.int (Int32.ofNat nn))])) _; refine XS.ifNo X0.here hx rfl (hb hby d1_1) rfl ((if0 _ _).trans (teq hb2).2) ?_; exact k)
    have pre4 : ∀ t, Steps p.tables e below (s₁.setTop (mkF m 5 #[.val (.int (Int32.ofNat nn)), .val (.int (Int32.ofNat y0)), .val (.int (Int32.ofNat y1)), .val (.int (Int32.ofNat y2)), .val (.int (Int32.ofNat y3))] [(.int (0 : Int32))])) t → Steps p.tables e below (s₁.setTop (entryFrame m #[(.int (Int32.ofNat nn)), (.int (Int32.ofNat y0)), (.int (Int32.ofNat y1)), (.int (Int32.ofNat y2)), (.int (Int32.ofNat y3))] 5)) t := fun t k => pre3 t (by
      show Steps p.tables e below (s₁.setTop (mkF m 4 #[.val (.int (Int32.ofNat nn)), .val (.int (Int32.ofNat y0)), .val (.int (Int32.ofNat y1)), .val (.int (Int32.ofNat y2)), .val (.int (Int32.ofNat y3))] [])) _
      refine XS.iconst X0.here hx rfl (hb hby d1_4) ?_
      exact k)
    obtain ⟨T5, h5, b5, X5, e5, R5, st5⟩ := gNewP X0 hx hZ (hw _ (List.mem_of_getElem? (i := 5) rfl)) e0 R0 (g := (mkF m 5 #[.val (.int (Int32.ofNat nn)), .val (.int (Int32.ofNat y0)), .val (.int (Int32.ofNat y1)), .val (.int (Int32.ofNat y2)), .val (.int (Int32.ofNat y3))] [(.int (0 : Int32))])) rfl (hb hby d1_5) rfl (by decide) 0 (by decide) (by decide) (by decide) (by decide) (vs := []) rfl
    replace R5 : Rep Z n0 h5 ((b5, Ar .int []) :: Rst) := R5
    have pre6 : ∀ t, Steps p.tables e below (T5.setTop (mkF m 7 #[.val (.int (Int32.ofNat nn)), .val (.int (Int32.ofNat y0)), .val (.int (Int32.ofNat y1)), .val (.int (Int32.ofNat y2)), .val (.int (Int32.ofNat y3))] [(.ref b5)])) t → Steps p.tables e below (s₁.setTop (entryFrame m #[(.int (Int32.ofNat nn)), (.int (Int32.ofNat y0)), (.int (Int32.ofNat y1)), (.int (Int32.ofNat y2)), (.int (Int32.ofNat y3))] 5)) t := fun t k => pre4 t (st5 t k)
    obtain ⟨fs, hr, hrun, hended, hW, hsame⟩ := X5.leave (v := some (.ref b5)) (fun h => by rw [Bd.returns] at h; cases h)
    refine ⟨_, _, pre6 _ ?_, hrun, hended, _, _, rfl, ?_, ⟨_, rfl⟩, hW, hsame.mono (by decide) (by decide)⟩
    · show Steps p.tables e below (T5.setTop (mkF m 7 #[.val (.int (Int32.ofNat nn)), .val (.int (Int32.ofNat y0)), .val (.int (Int32.ofNat y1)), .val (.int (Int32.ofNat y2)), .val (.int (Int32.ofNat y3))] [(.ref b5)])) _
      exact Jvm.Own.retA X5 hx (t := (.array .int)) rfl Bd.returns (hb hby d1_7) hr
    · show Q1 Z nn y0 y1 y2 y3 n0 Rst _ T5.heap _
      rw [e5]
      exact ⟨b5, rfl, N0, (by simp only [MK, if_pos hb2]; exact R5)⟩
  · have pre7 : ∀ t, Steps p.tables e below (s₁.setTop (mkF m 8 #[.val (.int (Int32.ofNat nn)), .val (.int (Int32.ofNat y0)), .val (.int (Int32.ofNat y1)), .val (.int (Int32.ofNat y2)), .val (.int (Int32.ofNat y3))] [])) t → Steps p.tables e below (s₁.setTop (entryFrame m #[(.int (Int32.ofNat nn)), (.int (Int32.ofNat y0)), (.int (Int32.ofNat y1)), (.int (Int32.ofNat y2)), (.int (Int32.ofNat y3))] 5)) t := fun t k => pre1 t (by show Steps p.tables e below (s₁.setTop (mkF m 1 #[.val (.int (Int32.ofNat nn)), .val (.int (Int32.ofNat y0)), .val (.int (Int32.ofNat y1)), .val (.int (Int32.ofNat y2)), .val (.int (Int32.ofNat y3))] [(.int (Int32.ofNat nn))])) _; refine XS.ifYes X0.here hx rfl (pc0 := 1) (pc' := 8) rfl (hb hby d1_1) rfl ((if0 _ _).trans (feq hb2).2) (by decide) (by decide) ?_; exact k)
    have pre8 : ∀ t, Steps p.tables e below (s₁.setTop (mkF m 10 #[.val (.int (Int32.ofNat nn)), .val (.int (Int32.ofNat y0)), .val (.int (Int32.ofNat y1)), .val (.int (Int32.ofNat y2)), .val (.int (Int32.ofNat y3))] [(.int (1 : Int32)), (.int (Int32.ofNat nn))])) t → Steps p.tables e below (s₁.setTop (entryFrame m #[(.int (Int32.ofNat nn)), (.int (Int32.ofNat y0)), (.int (Int32.ofNat y1)), (.int (Int32.ofNat y2)), (.int (Int32.ofNat y3))] 5)) t := fun t k => pre7 t (by
      show Steps p.tables e below (s₁.setTop (mkF m 8 #[.val (.int (Int32.ofNat nn)), .val (.int (Int32.ofNat y0)), .val (.int (Int32.ofNat y1)), .val (.int (Int32.ofNat y2)), .val (.int (Int32.ofNat y3))] [])) _
      refine XS.iloadN X0.here hx rfl (hb hby d1_8) rfl ?_
      refine XS.iconst X0.here hx rfl (hb hby d1_9) ?_
      exact k)
    by_cases hb9 : (Int32.ofNat nn) = (1 : Int32)
    · have pre10 : ∀ t, Steps p.tables e below (s₁.setTop (mkF m 13 #[.val (.int (Int32.ofNat nn)), .val (.int (Int32.ofNat y0)), .val (.int (Int32.ofNat y1)), .val (.int (Int32.ofNat y2)), .val (.int (Int32.ofNat y3))] [])) t → Steps p.tables e below (s₁.setTop (entryFrame m #[(.int (Int32.ofNat nn)), (.int (Int32.ofNat y0)), (.int (Int32.ofNat y1)), (.int (Int32.ofNat y2)), (.int (Int32.ofNat y3))] 5)) t := fun t k => pre8 t (by show Steps p.tables e below (s₁.setTop (mkF m 10 #[.val (.int (Int32.ofNat nn)), .val (.int (Int32.ofNat y0)), .val (.int (Int32.ofNat y1)), .val (.int (Int32.ofNat y2)), .val (.int (Int32.ofNat y3))] [(.int (1 : Int32)), (.int (Int32.ofNat nn))])) _; refine XS.icmpNo X0.here hx rfl (hb hby d1_10) rfl (teq hb9).2 ?_; exact k)
      have pre11 : ∀ t, Steps p.tables e below (s₁.setTop (mkF m 14 #[.val (.int (Int32.ofNat nn)), .val (.int (Int32.ofNat y0)), .val (.int (Int32.ofNat y1)), .val (.int (Int32.ofNat y2)), .val (.int (Int32.ofNat y3))] [(.int (1 : Int32))])) t → Steps p.tables e below (s₁.setTop (entryFrame m #[(.int (Int32.ofNat nn)), (.int (Int32.ofNat y0)), (.int (Int32.ofNat y1)), (.int (Int32.ofNat y2)), (.int (Int32.ofNat y3))] 5)) t := fun t k => pre10 t (by
        show Steps p.tables e below (s₁.setTop (mkF m 13 #[.val (.int (Int32.ofNat nn)), .val (.int (Int32.ofNat y0)), .val (.int (Int32.ofNat y1)), .val (.int (Int32.ofNat y2)), .val (.int (Int32.ofNat y3))] [])) _
        refine XS.iconst X0.here hx rfl (hb hby d1_13) ?_
        exact k)
      obtain ⟨T12, h12, b12, X12, e12, R12, st12⟩ := gNewP X0 hx hZ (hw _ (List.mem_of_getElem? (i := 5) rfl)) e0 R0 (g := (mkF m 14 #[.val (.int (Int32.ofNat nn)), .val (.int (Int32.ofNat y0)), .val (.int (Int32.ofNat y1)), .val (.int (Int32.ofNat y2)), .val (.int (Int32.ofNat y3))] [(.int (1 : Int32))])) rfl (hb hby d1_14) rfl (by decide) 1 (by decide) (by decide) (by decide) (by decide) (vs := [(.int (0 : Int32))]) rfl
      replace R12 : Rep Z n0 h12 ((b12, Ar .int [(.int (0 : Int32))]) :: Rst) := R12
      have pre13 : ∀ t, Steps p.tables e below (T12.setTop (mkF m 16 #[.val (.int (Int32.ofNat nn)), .val (.int (Int32.ofNat y0)), .val (.int (Int32.ofNat y1)), .val (.int (Int32.ofNat y2)), .val (.int (Int32.ofNat y3))] [(.ref b12)])) t → Steps p.tables e below (s₁.setTop (entryFrame m #[(.int (Int32.ofNat nn)), (.int (Int32.ofNat y0)), (.int (Int32.ofNat y1)), (.int (Int32.ofNat y2)), (.int (Int32.ofNat y3))] 5)) t := fun t k => pre11 t (st12 t k)
      have pre14 : ∀ t, Steps p.tables e below (T12.setTop (mkF m 19 #[.val (.int (Int32.ofNat nn)), .val (.int (Int32.ofNat y0)), .val (.int (Int32.ofNat y1)), .val (.int (Int32.ofNat y2)), .val (.int (Int32.ofNat y3))] [(.int (Int32.ofNat y0)), (.int (0 : Int32)), (.ref b12), (.ref b12)])) t → Steps p.tables e below (s₁.setTop (entryFrame m #[(.int (Int32.ofNat nn)), (.int (Int32.ofNat y0)), (.int (Int32.ofNat y1)), (.int (Int32.ofNat y2)), (.int (Int32.ofNat y3))] 5)) t := fun t k => pre13 t (by
        show Steps p.tables e below (T12.setTop (mkF m 16 #[.val (.int (Int32.ofNat nn)), .val (.int (Int32.ofNat y0)), .val (.int (Int32.ofNat y1)), .val (.int (Int32.ofNat y2)), .val (.int (Int32.ofNat y3))] [(.ref b12)])) _
        refine XS.dup X12.here hx rfl (hb hby d1_16) rfl rfl ?_
        refine XS.iconst X12.here hx rfl (hb hby d1_17) ?_
        refine XS.iloadN X12.here hx rfl (hb hby d1_18) rfl ?_
        exact k)
      obtain ⟨T15, h15, ls15, X15, e15, N15, R15, st15⟩ := gIst X12 hx hZ e12 N0 R12 0 rfl (j := (0 : Int32)) (by decide) (0) rfl (show (0 : Nat) < 1 by decide) (g := (mkF m 19 #[.val (.int (Int32.ofNat nn)), .val (.int (Int32.ofNat y0)), .val (.int (Int32.ofNat y1)), .val (.int (Int32.ofNat y2)), .val (.int (Int32.ofNat y3))] [(.int (Int32.ofNat y0)), (.int (0 : Int32)), (.ref b12), (.ref b12)])) rfl rfl (hb hby d1_19)
      replace R15 : Rep Z n0 h15 ((b12, Ar .int [(.int (Int32.ofNat y0))]) :: Rst) := R15
      have pre16 : ∀ t, Steps p.tables e below (T15.setTop (mkF m 20 #[.val (.int (Int32.ofNat nn)), .val (.int (Int32.ofNat y0)), .val (.int (Int32.ofNat y1)), .val (.int (Int32.ofNat y2)), .val (.int (Int32.ofNat y3))] [(.ref b12)])) t → Steps p.tables e below (s₁.setTop (entryFrame m #[(.int (Int32.ofNat nn)), (.int (Int32.ofNat y0)), (.int (Int32.ofNat y1)), (.int (Int32.ofNat y2)), (.int (Int32.ofNat y3))] 5)) t := fun t k => pre14 t (st15 t k)
      obtain ⟨fs, hr, hrun, hended, hW, hsame⟩ := X15.leave (v := some (.ref b12)) (fun h => by rw [Bd.returns] at h; cases h)
      refine ⟨_, _, pre16 _ ?_, hrun, hended, _, _, rfl, ?_, ⟨_, rfl⟩, hW, hsame.mono (by decide) (by decide)⟩
      · show Steps p.tables e below (T15.setTop (mkF m 20 #[.val (.int (Int32.ofNat nn)), .val (.int (Int32.ofNat y0)), .val (.int (Int32.ofNat y1)), .val (.int (Int32.ofNat y2)), .val (.int (Int32.ofNat y3))] [(.ref b12)])) _
        exact Jvm.Own.retA X15 hx (t := (.array .int)) rfl Bd.returns (hb hby d1_20) hr
      · show Q1 Z nn y0 y1 y2 y3 n0 Rst _ T15.heap _
        rw [e15]
        exact ⟨b12, rfl, N15, (by simp only [MK, if_neg hb2, if_pos hb9]; exact R15)⟩
    · have pre17 : ∀ t, Steps p.tables e below (s₁.setTop (mkF m 21 #[.val (.int (Int32.ofNat nn)), .val (.int (Int32.ofNat y0)), .val (.int (Int32.ofNat y1)), .val (.int (Int32.ofNat y2)), .val (.int (Int32.ofNat y3))] [])) t → Steps p.tables e below (s₁.setTop (entryFrame m #[(.int (Int32.ofNat nn)), (.int (Int32.ofNat y0)), (.int (Int32.ofNat y1)), (.int (Int32.ofNat y2)), (.int (Int32.ofNat y3))] 5)) t := fun t k => pre8 t (by show Steps p.tables e below (s₁.setTop (mkF m 10 #[.val (.int (Int32.ofNat nn)), .val (.int (Int32.ofNat y0)), .val (.int (Int32.ofNat y1)), .val (.int (Int32.ofNat y2)), .val (.int (Int32.ofNat y3))] [(.int (1 : Int32)), (.int (Int32.ofNat nn))])) _; refine XS.icmpYes X0.here hx rfl (pc0 := 10) (pc' := 21) rfl (hb hby d1_10) rfl (feq hb9).2 (by decide) (by decide) ?_; exact k)
      have pre18 : ∀ t, Steps p.tables e below (s₁.setTop (mkF m 23 #[.val (.int (Int32.ofNat nn)), .val (.int (Int32.ofNat y0)), .val (.int (Int32.ofNat y1)), .val (.int (Int32.ofNat y2)), .val (.int (Int32.ofNat y3))] [(.int (2 : Int32)), (.int (Int32.ofNat nn))])) t → Steps p.tables e below (s₁.setTop (entryFrame m #[(.int (Int32.ofNat nn)), (.int (Int32.ofNat y0)), (.int (Int32.ofNat y1)), (.int (Int32.ofNat y2)), (.int (Int32.ofNat y3))] 5)) t := fun t k => pre17 t (by
        show Steps p.tables e below (s₁.setTop (mkF m 21 #[.val (.int (Int32.ofNat nn)), .val (.int (Int32.ofNat y0)), .val (.int (Int32.ofNat y1)), .val (.int (Int32.ofNat y2)), .val (.int (Int32.ofNat y3))] [])) _
        refine XS.iloadN X0.here hx rfl (hb hby d1_21) rfl ?_
        refine XS.iconst X0.here hx rfl (hb hby d1_22) ?_
        exact k)
      by_cases hb19 : (Int32.ofNat nn) = (2 : Int32)
      · have pre20 : ∀ t, Steps p.tables e below (s₁.setTop (mkF m 26 #[.val (.int (Int32.ofNat nn)), .val (.int (Int32.ofNat y0)), .val (.int (Int32.ofNat y1)), .val (.int (Int32.ofNat y2)), .val (.int (Int32.ofNat y3))] [])) t → Steps p.tables e below (s₁.setTop (entryFrame m #[(.int (Int32.ofNat nn)), (.int (Int32.ofNat y0)), (.int (Int32.ofNat y1)), (.int (Int32.ofNat y2)), (.int (Int32.ofNat y3))] 5)) t := fun t k => pre18 t (by show Steps p.tables e below (s₁.setTop (mkF m 23 #[.val (.int (Int32.ofNat nn)), .val (.int (Int32.ofNat y0)), .val (.int (Int32.ofNat y1)), .val (.int (Int32.ofNat y2)), .val (.int (Int32.ofNat y3))] [(.int (2 : Int32)), (.int (Int32.ofNat nn))])) _; refine XS.icmpNo X0.here hx rfl (hb hby d1_23) rfl (teq hb19).2 ?_; exact k)
        have pre21 : ∀ t, Steps p.tables e below (s₁.setTop (mkF m 27 #[.val (.int (Int32.ofNat nn)), .val (.int (Int32.ofNat y0)), .val (.int (Int32.ofNat y1)), .val (.int (Int32.ofNat y2)), .val (.int (Int32.ofNat y3))] [(.int (2 : Int32))])) t → Steps p.tables e below (s₁.setTop (entryFrame m #[(.int (Int32.ofNat nn)), (.int (Int32.ofNat y0)), (.int (Int32.ofNat y1)), (.int (Int32.ofNat y2)), (.int (Int32.ofNat y3))] 5)) t := fun t k => pre20 t (by
          show Steps p.tables e below (s₁.setTop (mkF m 26 #[.val (.int (Int32.ofNat nn)), .val (.int (Int32.ofNat y0)), .val (.int (Int32.ofNat y1)), .val (.int (Int32.ofNat y2)), .val (.int (Int32.ofNat y3))] [])) _
          refine XS.iconst X0.here hx rfl (hb hby d1_26) ?_
          exact k)
        obtain ⟨T22, h22, b22, X22, e22, R22, st22⟩ := gNewP X0 hx hZ (hw _ (List.mem_of_getElem? (i := 5) rfl)) e0 R0 (g := (mkF m 27 #[.val (.int (Int32.ofNat nn)), .val (.int (Int32.ofNat y0)), .val (.int (Int32.ofNat y1)), .val (.int (Int32.ofNat y2)), .val (.int (Int32.ofNat y3))] [(.int (2 : Int32))])) rfl (hb hby d1_27) rfl (by decide) 2 (by decide) (by decide) (by decide) (by decide) (vs := [(.int (0 : Int32)), (.int (0 : Int32))]) rfl
        replace R22 : Rep Z n0 h22 ((b22, Ar .int [(.int (0 : Int32)), (.int (0 : Int32))]) :: Rst) := R22
        have pre23 : ∀ t, Steps p.tables e below (T22.setTop (mkF m 29 #[.val (.int (Int32.ofNat nn)), .val (.int (Int32.ofNat y0)), .val (.int (Int32.ofNat y1)), .val (.int (Int32.ofNat y2)), .val (.int (Int32.ofNat y3))] [(.ref b22)])) t → Steps p.tables e below (s₁.setTop (entryFrame m #[(.int (Int32.ofNat nn)), (.int (Int32.ofNat y0)), (.int (Int32.ofNat y1)), (.int (Int32.ofNat y2)), (.int (Int32.ofNat y3))] 5)) t := fun t k => pre21 t (st22 t k)
        have pre24 : ∀ t, Steps p.tables e below (T22.setTop (mkF m 32 #[.val (.int (Int32.ofNat nn)), .val (.int (Int32.ofNat y0)), .val (.int (Int32.ofNat y1)), .val (.int (Int32.ofNat y2)), .val (.int (Int32.ofNat y3))] [(.int (Int32.ofNat y0)), (.int (0 : Int32)), (.ref b22), (.ref b22)])) t → Steps p.tables e below (s₁.setTop (entryFrame m #[(.int (Int32.ofNat nn)), (.int (Int32.ofNat y0)), (.int (Int32.ofNat y1)), (.int (Int32.ofNat y2)), (.int (Int32.ofNat y3))] 5)) t := fun t k => pre23 t (by
          show Steps p.tables e below (T22.setTop (mkF m 29 #[.val (.int (Int32.ofNat nn)), .val (.int (Int32.ofNat y0)), .val (.int (Int32.ofNat y1)), .val (.int (Int32.ofNat y2)), .val (.int (Int32.ofNat y3))] [(.ref b22)])) _
          refine XS.dup X22.here hx rfl (hb hby d1_29) rfl rfl ?_
          refine XS.iconst X22.here hx rfl (hb hby d1_30) ?_
          refine XS.iloadN X22.here hx rfl (hb hby d1_31) rfl ?_
          exact k)
        obtain ⟨T25, h25, ls25, X25, e25, N25, R25, st25⟩ := gIst X22 hx hZ e22 N0 R22 0 rfl (j := (0 : Int32)) (by decide) (0) rfl (show (0 : Nat) < 2 by decide) (g := (mkF m 32 #[.val (.int (Int32.ofNat nn)), .val (.int (Int32.ofNat y0)), .val (.int (Int32.ofNat y1)), .val (.int (Int32.ofNat y2)), .val (.int (Int32.ofNat y3))] [(.int (Int32.ofNat y0)), (.int (0 : Int32)), (.ref b22), (.ref b22)])) rfl rfl (hb hby d1_32)
        replace R25 : Rep Z n0 h25 ((b22, Ar .int [(.int (Int32.ofNat y0)), (.int (0 : Int32))]) :: Rst) := R25
        have pre26 : ∀ t, Steps p.tables e below (T25.setTop (mkF m 33 #[.val (.int (Int32.ofNat nn)), .val (.int (Int32.ofNat y0)), .val (.int (Int32.ofNat y1)), .val (.int (Int32.ofNat y2)), .val (.int (Int32.ofNat y3))] [(.ref b22)])) t → Steps p.tables e below (s₁.setTop (entryFrame m #[(.int (Int32.ofNat nn)), (.int (Int32.ofNat y0)), (.int (Int32.ofNat y1)), (.int (Int32.ofNat y2)), (.int (Int32.ofNat y3))] 5)) t := fun t k => pre24 t (st25 t k)
        have pre27 : ∀ t, Steps p.tables e below (T25.setTop (mkF m 36 #[.val (.int (Int32.ofNat nn)), .val (.int (Int32.ofNat y0)), .val (.int (Int32.ofNat y1)), .val (.int (Int32.ofNat y2)), .val (.int (Int32.ofNat y3))] [(.int (Int32.ofNat y1)), (.int (1 : Int32)), (.ref b22), (.ref b22)])) t → Steps p.tables e below (s₁.setTop (entryFrame m #[(.int (Int32.ofNat nn)), (.int (Int32.ofNat y0)), (.int (Int32.ofNat y1)), (.int (Int32.ofNat y2)), (.int (Int32.ofNat y3))] 5)) t := fun t k => pre26 t (by
          show Steps p.tables e below (T25.setTop (mkF m 33 #[.val (.int (Int32.ofNat nn)), .val (.int (Int32.ofNat y0)), .val (.int (Int32.ofNat y1)), .val (.int (Int32.ofNat y2)), .val (.int (Int32.ofNat y3))] [(.ref b22)])) _
          refine XS.dup X25.here hx rfl (hb hby d1_33) rfl rfl ?_
          refine XS.iconst X25.here hx rfl (hb hby d1_34) ?_
          refine XS.iloadN X25.here hx rfl (hb hby d1_35) rfl ?_
          exact k)
        obtain ⟨T28, h28, ls28, X28, e28, N28, R28, st28⟩ := gIst X25 hx hZ e25 N25 R25 0 rfl (j := (1 : Int32)) (by decide) (1) rfl (show (1 : Nat) < 2 by decide) (g := (mkF m 36 #[.val (.int (Int32.ofNat nn)), .val (.int (Int32.ofNat y0)), .val (.int (Int32.ofNat y1)), .val (.int (Int32.ofNat y2)), .val (.int (Int32.ofNat y3))] [(.int (Int32.ofNat y1)), (.int (1 : Int32)), (.ref b22), (.ref b22)])) rfl rfl (hb hby d1_36)
        replace R28 : Rep Z n0 h28 ((b22, Ar .int [(.int (Int32.ofNat y0)), (.int (Int32.ofNat y1))]) :: Rst) := R28
        have pre29 : ∀ t, Steps p.tables e below (T28.setTop (mkF m 37 #[.val (.int (Int32.ofNat nn)), .val (.int (Int32.ofNat y0)), .val (.int (Int32.ofNat y1)), .val (.int (Int32.ofNat y2)), .val (.int (Int32.ofNat y3))] [(.ref b22)])) t → Steps p.tables e below (s₁.setTop (entryFrame m #[(.int (Int32.ofNat nn)), (.int (Int32.ofNat y0)), (.int (Int32.ofNat y1)), (.int (Int32.ofNat y2)), (.int (Int32.ofNat y3))] 5)) t := fun t k => pre27 t (st28 t k)
        obtain ⟨fs, hr, hrun, hended, hW, hsame⟩ := X28.leave (v := some (.ref b22)) (fun h => by rw [Bd.returns] at h; cases h)
        refine ⟨_, _, pre29 _ ?_, hrun, hended, _, _, rfl, ?_, ⟨_, rfl⟩, hW, hsame.mono (by decide) (by decide)⟩
        · show Steps p.tables e below (T28.setTop (mkF m 37 #[.val (.int (Int32.ofNat nn)), .val (.int (Int32.ofNat y0)), .val (.int (Int32.ofNat y1)), .val (.int (Int32.ofNat y2)), .val (.int (Int32.ofNat y3))] [(.ref b22)])) _
          exact Jvm.Own.retA X28 hx (t := (.array .int)) rfl Bd.returns (hb hby d1_37) hr
        · show Q1 Z nn y0 y1 y2 y3 n0 Rst _ T28.heap _
          rw [e28]
          exact ⟨b22, rfl, N28, (by simp only [MK, if_neg hb2, if_neg hb9, if_pos hb19]; exact R28)⟩
      · have pre30 : ∀ t, Steps p.tables e below (s₁.setTop (mkF m 38 #[.val (.int (Int32.ofNat nn)), .val (.int (Int32.ofNat y0)), .val (.int (Int32.ofNat y1)), .val (.int (Int32.ofNat y2)), .val (.int (Int32.ofNat y3))] [])) t → Steps p.tables e below (s₁.setTop (entryFrame m #[(.int (Int32.ofNat nn)), (.int (Int32.ofNat y0)), (.int (Int32.ofNat y1)), (.int (Int32.ofNat y2)), (.int (Int32.ofNat y3))] 5)) t := fun t k => pre18 t (by show Steps p.tables e below (s₁.setTop (mkF m 23 #[.val (.int (Int32.ofNat nn)), .val (.int (Int32.ofNat y0)), .val (.int (Int32.ofNat y1)), .val (.int (Int32.ofNat y2)), .val (.int (Int32.ofNat y3))] [(.int (2 : Int32)), (.int (Int32.ofNat nn))])) _; refine XS.icmpYes X0.here hx rfl (pc0 := 23) (pc' := 38) rfl (hb hby d1_23) rfl (feq hb19).2 (by decide) (by decide) ?_; exact k)
        have pre31 : ∀ t, Steps p.tables e below (s₁.setTop (mkF m 40 #[.val (.int (Int32.ofNat nn)), .val (.int (Int32.ofNat y0)), .val (.int (Int32.ofNat y1)), .val (.int (Int32.ofNat y2)), .val (.int (Int32.ofNat y3))] [(.int (3 : Int32)), (.int (Int32.ofNat nn))])) t → Steps p.tables e below (s₁.setTop (entryFrame m #[(.int (Int32.ofNat nn)), (.int (Int32.ofNat y0)), (.int (Int32.ofNat y1)), (.int (Int32.ofNat y2)), (.int (Int32.ofNat y3))] 5)) t := fun t k => pre30 t (by
          show Steps p.tables e below (s₁.setTop (mkF m 38 #[.val (.int (Int32.ofNat nn)), .val (.int (Int32.ofNat y0)), .val (.int (Int32.ofNat y1)), .val (.int (Int32.ofNat y2)), .val (.int (Int32.ofNat y3))] [])) _
          refine XS.iloadN X0.here hx rfl (hb hby d1_38) rfl ?_
          refine XS.iconst X0.here hx rfl (hb hby d1_39) ?_
          exact k)
        by_cases hb32 : (Int32.ofNat nn) = (3 : Int32)
        · have pre33 : ∀ t, Steps p.tables e below (s₁.setTop (mkF m 43 #[.val (.int (Int32.ofNat nn)), .val (.int (Int32.ofNat y0)), .val (.int (Int32.ofNat y1)), .val (.int (Int32.ofNat y2)), .val (.int (Int32.ofNat y3))] [])) t → Steps p.tables e below (s₁.setTop (entryFrame m #[(.int (Int32.ofNat nn)), (.int (Int32.ofNat y0)), (.int (Int32.ofNat y1)), (.int (Int32.ofNat y2)), (.int (Int32.ofNat y3))] 5)) t := fun t k => pre31 t (by show Steps p.tables e below (s₁.setTop (mkF m 40 #[.val (.int (Int32.ofNat nn)), .val (.int (Int32.ofNat y0)), .val (.int (Int32.ofNat y1)), .val (.int (Int32.ofNat y2)), .val (.int (Int32.ofNat y3))] [(.int (3 : Int32)), (.int (Int32.ofNat nn))])) _; refine XS.icmpNo X0.here hx rfl (hb hby d1_40) rfl (teq hb32).2 ?_; exact k)
          have pre34 : ∀ t, Steps p.tables e below (s₁.setTop (mkF m 44 #[.val (.int (Int32.ofNat nn)), .val (.int (Int32.ofNat y0)), .val (.int (Int32.ofNat y1)), .val (.int (Int32.ofNat y2)), .val (.int (Int32.ofNat y3))] [(.int (3 : Int32))])) t → Steps p.tables e below (s₁.setTop (entryFrame m #[(.int (Int32.ofNat nn)), (.int (Int32.ofNat y0)), (.int (Int32.ofNat y1)), (.int (Int32.ofNat y2)), (.int (Int32.ofNat y3))] 5)) t := fun t k => pre33 t (by
            show Steps p.tables e below (s₁.setTop (mkF m 43 #[.val (.int (Int32.ofNat nn)), .val (.int (Int32.ofNat y0)), .val (.int (Int32.ofNat y1)), .val (.int (Int32.ofNat y2)), .val (.int (Int32.ofNat y3))] [])) _
            refine XS.iconst X0.here hx rfl (hb hby d1_43) ?_
            exact k)
          obtain ⟨T35, h35, b35, X35, e35, R35, st35⟩ := gNewP X0 hx hZ (hw _ (List.mem_of_getElem? (i := 5) rfl)) e0 R0 (g := (mkF m 44 #[.val (.int (Int32.ofNat nn)), .val (.int (Int32.ofNat y0)), .val (.int (Int32.ofNat y1)), .val (.int (Int32.ofNat y2)), .val (.int (Int32.ofNat y3))] [(.int (3 : Int32))])) rfl (hb hby d1_44) rfl (by decide) 3 (by decide) (by decide) (by decide) (by decide) (vs := [(.int (0 : Int32)), (.int (0 : Int32)), (.int (0 : Int32))]) rfl
          replace R35 : Rep Z n0 h35 ((b35, Ar .int [(.int (0 : Int32)), (.int (0 : Int32)), (.int (0 : Int32))]) :: Rst) := R35
          have pre36 : ∀ t, Steps p.tables e below (T35.setTop (mkF m 46 #[.val (.int (Int32.ofNat nn)), .val (.int (Int32.ofNat y0)), .val (.int (Int32.ofNat y1)), .val (.int (Int32.ofNat y2)), .val (.int (Int32.ofNat y3))] [(.ref b35)])) t → Steps p.tables e below (s₁.setTop (entryFrame m #[(.int (Int32.ofNat nn)), (.int (Int32.ofNat y0)), (.int (Int32.ofNat y1)), (.int (Int32.ofNat y2)), (.int (Int32.ofNat y3))] 5)) t := fun t k => pre34 t (st35 t k)
          have pre37 : ∀ t, Steps p.tables e below (T35.setTop (mkF m 49 #[.val (.int (Int32.ofNat nn)), .val (.int (Int32.ofNat y0)), .val (.int (Int32.ofNat y1)), .val (.int (Int32.ofNat y2)), .val (.int (Int32.ofNat y3))] [(.int (Int32.ofNat y0)), (.int (0 : Int32)), (.ref b35), (.ref b35)])) t → Steps p.tables e below (s₁.setTop (entryFrame m #[(.int (Int32.ofNat nn)), (.int (Int32.ofNat y0)), (.int (Int32.ofNat y1)), (.int (Int32.ofNat y2)), (.int (Int32.ofNat y3))] 5)) t := fun t k => pre36 t (by
            show Steps p.tables e below (T35.setTop (mkF m 46 #[.val (.int (Int32.ofNat nn)), .val (.int (Int32.ofNat y0)), .val (.int (Int32.ofNat y1)), .val (.int (Int32.ofNat y2)), .val (.int (Int32.ofNat y3))] [(.ref b35)])) _
            refine XS.dup X35.here hx rfl (hb hby d1_46) rfl rfl ?_
            refine XS.iconst X35.here hx rfl (hb hby d1_47) ?_
            refine XS.iloadN X35.here hx rfl (hb hby d1_48) rfl ?_
            exact k)
          obtain ⟨T38, h38, ls38, X38, e38, N38, R38, st38⟩ := gIst X35 hx hZ e35 N0 R35 0 rfl (j := (0 : Int32)) (by decide) (0) rfl (show (0 : Nat) < 3 by decide) (g := (mkF m 49 #[.val (.int (Int32.ofNat nn)), .val (.int (Int32.ofNat y0)), .val (.int (Int32.ofNat y1)), .val (.int (Int32.ofNat y2)), .val (.int (Int32.ofNat y3))] [(.int (Int32.ofNat y0)), (.int (0 : Int32)), (.ref b35), (.ref b35)])) rfl rfl (hb hby d1_49)
          replace R38 : Rep Z n0 h38 ((b35, Ar .int [(.int (Int32.ofNat y0)), (.int (0 : Int32)), (.int (0 : Int32))]) :: Rst) := R38
          have pre39 : ∀ t, Steps p.tables e below (T38.setTop (mkF m 50 #[.val (.int (Int32.ofNat nn)), .val (.int (Int32.ofNat y0)), .val (.int (Int32.ofNat y1)), .val (.int (Int32.ofNat y2)), .val (.int (Int32.ofNat y3))] [(.ref b35)])) t → Steps p.tables e below (s₁.setTop (entryFrame m #[(.int (Int32.ofNat nn)), (.int (Int32.ofNat y0)), (.int (Int32.ofNat y1)), (.int (Int32.ofNat y2)), (.int (Int32.ofNat y3))] 5)) t := fun t k => pre37 t (st38 t k)
          have pre40 : ∀ t, Steps p.tables e below (T38.setTop (mkF m 53 #[.val (.int (Int32.ofNat nn)), .val (.int (Int32.ofNat y0)), .val (.int (Int32.ofNat y1)), .val (.int (Int32.ofNat y2)), .val (.int (Int32.ofNat y3))] [(.int (Int32.ofNat y1)), (.int (1 : Int32)), (.ref b35), (.ref b35)])) t → Steps p.tables e below (s₁.setTop (entryFrame m #[(.int (Int32.ofNat nn)), (.int (Int32.ofNat y0)), (.int (Int32.ofNat y1)), (.int (Int32.ofNat y2)), (.int (Int32.ofNat y3))] 5)) t := fun t k => pre39 t (by
            show Steps p.tables e below (T38.setTop (mkF m 50 #[.val (.int (Int32.ofNat nn)), .val (.int (Int32.ofNat y0)), .val (.int (Int32.ofNat y1)), .val (.int (Int32.ofNat y2)), .val (.int (Int32.ofNat y3))] [(.ref b35)])) _
            refine XS.dup X38.here hx rfl (hb hby d1_50) rfl rfl ?_
            refine XS.iconst X38.here hx rfl (hb hby d1_51) ?_
            refine XS.iloadN X38.here hx rfl (hb hby d1_52) rfl ?_
            exact k)
          obtain ⟨T41, h41, ls41, X41, e41, N41, R41, st41⟩ := gIst X38 hx hZ e38 N38 R38 0 rfl (j := (1 : Int32)) (by decide) (1) rfl (show (1 : Nat) < 3 by decide) (g := (mkF m 53 #[.val (.int (Int32.ofNat nn)), .val (.int (Int32.ofNat y0)), .val (.int (Int32.ofNat y1)), .val (.int (Int32.ofNat y2)), .val (.int (Int32.ofNat y3))] [(.int (Int32.ofNat y1)), (.int (1 : Int32)), (.ref b35), (.ref b35)])) rfl rfl (hb hby d1_53)
          replace R41 : Rep Z n0 h41 ((b35, Ar .int [(.int (Int32.ofNat y0)), (.int (Int32.ofNat y1)), (.int (0 : Int32))]) :: Rst) := R41
          have pre42 : ∀ t, Steps p.tables e below (T41.setTop (mkF m 54 #[.val (.int (Int32.ofNat nn)), .val (.int (Int32.ofNat y0)), .val (.int (Int32.ofNat y1)), .val (.int (Int32.ofNat y2)), .val (.int (Int32.ofNat y3))] [(.ref b35)])) t → Steps p.tables e below (s₁.setTop (entryFrame m #[(.int (Int32.ofNat nn)), (.int (Int32.ofNat y0)), (.int (Int32.ofNat y1)), (.int (Int32.ofNat y2)), (.int (Int32.ofNat y3))] 5)) t := fun t k => pre40 t (st41 t k)
          have pre43 : ∀ t, Steps p.tables e below (T41.setTop (mkF m 57 #[.val (.int (Int32.ofNat nn)), .val (.int (Int32.ofNat y0)), .val (.int (Int32.ofNat y1)), .val (.int (Int32.ofNat y2)), .val (.int (Int32.ofNat y3))] [(.int (Int32.ofNat y2)), (.int (2 : Int32)), (.ref b35), (.ref b35)])) t → Steps p.tables e below (s₁.setTop (entryFrame m #[(.int (Int32.ofNat nn)), (.int (Int32.ofNat y0)), (.int (Int32.ofNat y1)), (.int (Int32.ofNat y2)), (.int (Int32.ofNat y3))] 5)) t := fun t k => pre42 t (by
            show Steps p.tables e below (T41.setTop (mkF m 54 #[.val (.int (Int32.ofNat nn)), .val (.int (Int32.ofNat y0)), .val (.int (Int32.ofNat y1)), .val (.int (Int32.ofNat y2)), .val (.int (Int32.ofNat y3))] [(.ref b35)])) _
            refine XS.dup X41.here hx rfl (hb hby d1_54) rfl rfl ?_
            refine XS.iconst X41.here hx rfl (hb hby d1_55) ?_
            refine XS.iloadN X41.here hx rfl (hb hby d1_56) rfl ?_
            exact k)
          obtain ⟨T44, h44, ls44, X44, e44, N44, R44, st44⟩ := gIst X41 hx hZ e41 N41 R41 0 rfl (j := (2 : Int32)) (by decide) (2) rfl (show (2 : Nat) < 3 by decide) (g := (mkF m 57 #[.val (.int (Int32.ofNat nn)), .val (.int (Int32.ofNat y0)), .val (.int (Int32.ofNat y1)), .val (.int (Int32.ofNat y2)), .val (.int (Int32.ofNat y3))] [(.int (Int32.ofNat y2)), (.int (2 : Int32)), (.ref b35), (.ref b35)])) rfl rfl (hb hby d1_57)
          replace R44 : Rep Z n0 h44 ((b35, Ar .int [(.int (Int32.ofNat y0)), (.int (Int32.ofNat y1)), (.int (Int32.ofNat y2))]) :: Rst) := R44
          have pre45 : ∀ t, Steps p.tables e below (T44.setTop (mkF m 58 #[.val (.int (Int32.ofNat nn)), .val (.int (Int32.ofNat y0)), .val (.int (Int32.ofNat y1)), .val (.int (Int32.ofNat y2)), .val (.int (Int32.ofNat y3))] [(.ref b35)])) t → Steps p.tables e below (s₁.setTop (entryFrame m #[(.int (Int32.ofNat nn)), (.int (Int32.ofNat y0)), (.int (Int32.ofNat y1)), (.int (Int32.ofNat y2)), (.int (Int32.ofNat y3))] 5)) t := fun t k => pre43 t (st44 t k)
          obtain ⟨fs, hr, hrun, hended, hW, hsame⟩ := X44.leave (v := some (.ref b35)) (fun h => by rw [Bd.returns] at h; cases h)
          refine ⟨_, _, pre45 _ ?_, hrun, hended, _, _, rfl, ?_, ⟨_, rfl⟩, hW, hsame.mono (by decide) (by decide)⟩
          · show Steps p.tables e below (T44.setTop (mkF m 58 #[.val (.int (Int32.ofNat nn)), .val (.int (Int32.ofNat y0)), .val (.int (Int32.ofNat y1)), .val (.int (Int32.ofNat y2)), .val (.int (Int32.ofNat y3))] [(.ref b35)])) _
            exact Jvm.Own.retA X44 hx (t := (.array .int)) rfl Bd.returns (hb hby d1_58) hr
          · show Q1 Z nn y0 y1 y2 y3 n0 Rst _ T44.heap _
            rw [e44]
            exact ⟨b35, rfl, N44, (by simp only [MK, if_neg hb2, if_neg hb9, if_neg hb19, if_pos hb32]; exact R44)⟩
        · have pre46 : ∀ t, Steps p.tables e below (s₁.setTop (mkF m 59 #[.val (.int (Int32.ofNat nn)), .val (.int (Int32.ofNat y0)), .val (.int (Int32.ofNat y1)), .val (.int (Int32.ofNat y2)), .val (.int (Int32.ofNat y3))] [])) t → Steps p.tables e below (s₁.setTop (entryFrame m #[(.int (Int32.ofNat nn)), (.int (Int32.ofNat y0)), (.int (Int32.ofNat y1)), (.int (Int32.ofNat y2)), (.int (Int32.ofNat y3))] 5)) t := fun t k => pre31 t (by show Steps p.tables e below (s₁.setTop (mkF m 40 #[.val (.int (Int32.ofNat nn)), .val (.int (Int32.ofNat y0)), .val (.int (Int32.ofNat y1)), .val (.int (Int32.ofNat y2)), .val (.int (Int32.ofNat y3))] [(.int (3 : Int32)), (.int (Int32.ofNat nn))])) _; refine XS.icmpYes X0.here hx rfl (pc0 := 40) (pc' := 59) rfl (hb hby d1_40) rfl (feq hb32).2 (by decide) (by decide) ?_; exact k)
          have pre47 : ∀ t, Steps p.tables e below (s₁.setTop (mkF m 60 #[.val (.int (Int32.ofNat nn)), .val (.int (Int32.ofNat y0)), .val (.int (Int32.ofNat y1)), .val (.int (Int32.ofNat y2)), .val (.int (Int32.ofNat y3))] [(.int (4 : Int32))])) t → Steps p.tables e below (s₁.setTop (entryFrame m #[(.int (Int32.ofNat nn)), (.int (Int32.ofNat y0)), (.int (Int32.ofNat y1)), (.int (Int32.ofNat y2)), (.int (Int32.ofNat y3))] 5)) t := fun t k => pre46 t (by
            show Steps p.tables e below (s₁.setTop (mkF m 59 #[.val (.int (Int32.ofNat nn)), .val (.int (Int32.ofNat y0)), .val (.int (Int32.ofNat y1)), .val (.int (Int32.ofNat y2)), .val (.int (Int32.ofNat y3))] [])) _
            refine XS.iconst X0.here hx rfl (hb hby d1_59) ?_
            exact k)
          obtain ⟨T48, h48, b48, X48, e48, R48, st48⟩ := gNewP X0 hx hZ (hw _ (List.mem_of_getElem? (i := 5) rfl)) e0 R0 (g := (mkF m 60 #[.val (.int (Int32.ofNat nn)), .val (.int (Int32.ofNat y0)), .val (.int (Int32.ofNat y1)), .val (.int (Int32.ofNat y2)), .val (.int (Int32.ofNat y3))] [(.int (4 : Int32))])) rfl (hb hby d1_60) rfl (by decide) 4 (by decide) (by decide) (by decide) (by decide) (vs := [(.int (0 : Int32)), (.int (0 : Int32)), (.int (0 : Int32)), (.int (0 : Int32))]) rfl
          replace R48 : Rep Z n0 h48 ((b48, Ar .int [(.int (0 : Int32)), (.int (0 : Int32)), (.int (0 : Int32)), (.int (0 : Int32))]) :: Rst) := R48
          have pre49 : ∀ t, Steps p.tables e below (T48.setTop (mkF m 62 #[.val (.int (Int32.ofNat nn)), .val (.int (Int32.ofNat y0)), .val (.int (Int32.ofNat y1)), .val (.int (Int32.ofNat y2)), .val (.int (Int32.ofNat y3))] [(.ref b48)])) t → Steps p.tables e below (s₁.setTop (entryFrame m #[(.int (Int32.ofNat nn)), (.int (Int32.ofNat y0)), (.int (Int32.ofNat y1)), (.int (Int32.ofNat y2)), (.int (Int32.ofNat y3))] 5)) t := fun t k => pre47 t (st48 t k)
          have pre50 : ∀ t, Steps p.tables e below (T48.setTop (mkF m 65 #[.val (.int (Int32.ofNat nn)), .val (.int (Int32.ofNat y0)), .val (.int (Int32.ofNat y1)), .val (.int (Int32.ofNat y2)), .val (.int (Int32.ofNat y3))] [(.int (Int32.ofNat y0)), (.int (0 : Int32)), (.ref b48), (.ref b48)])) t → Steps p.tables e below (s₁.setTop (entryFrame m #[(.int (Int32.ofNat nn)), (.int (Int32.ofNat y0)), (.int (Int32.ofNat y1)), (.int (Int32.ofNat y2)), (.int (Int32.ofNat y3))] 5)) t := fun t k => pre49 t (by
            show Steps p.tables e below (T48.setTop (mkF m 62 #[.val (.int (Int32.ofNat nn)), .val (.int (Int32.ofNat y0)), .val (.int (Int32.ofNat y1)), .val (.int (Int32.ofNat y2)), .val (.int (Int32.ofNat y3))] [(.ref b48)])) _
            refine XS.dup X48.here hx rfl (hb hby d1_62) rfl rfl ?_
            refine XS.iconst X48.here hx rfl (hb hby d1_63) ?_
            refine XS.iloadN X48.here hx rfl (hb hby d1_64) rfl ?_
            exact k)
          obtain ⟨T51, h51, ls51, X51, e51, N51, R51, st51⟩ := gIst X48 hx hZ e48 N0 R48 0 rfl (j := (0 : Int32)) (by decide) (0) rfl (show (0 : Nat) < 4 by decide) (g := (mkF m 65 #[.val (.int (Int32.ofNat nn)), .val (.int (Int32.ofNat y0)), .val (.int (Int32.ofNat y1)), .val (.int (Int32.ofNat y2)), .val (.int (Int32.ofNat y3))] [(.int (Int32.ofNat y0)), (.int (0 : Int32)), (.ref b48), (.ref b48)])) rfl rfl (hb hby d1_65)
          replace R51 : Rep Z n0 h51 ((b48, Ar .int [(.int (Int32.ofNat y0)), (.int (0 : Int32)), (.int (0 : Int32)), (.int (0 : Int32))]) :: Rst) := R51
          have pre52 : ∀ t, Steps p.tables e below (T51.setTop (mkF m 66 #[.val (.int (Int32.ofNat nn)), .val (.int (Int32.ofNat y0)), .val (.int (Int32.ofNat y1)), .val (.int (Int32.ofNat y2)), .val (.int (Int32.ofNat y3))] [(.ref b48)])) t → Steps p.tables e below (s₁.setTop (entryFrame m #[(.int (Int32.ofNat nn)), (.int (Int32.ofNat y0)), (.int (Int32.ofNat y1)), (.int (Int32.ofNat y2)), (.int (Int32.ofNat y3))] 5)) t := fun t k => pre50 t (st51 t k)
          have pre53 : ∀ t, Steps p.tables e below (T51.setTop (mkF m 69 #[.val (.int (Int32.ofNat nn)), .val (.int (Int32.ofNat y0)), .val (.int (Int32.ofNat y1)), .val (.int (Int32.ofNat y2)), .val (.int (Int32.ofNat y3))] [(.int (Int32.ofNat y1)), (.int (1 : Int32)), (.ref b48), (.ref b48)])) t → Steps p.tables e below (s₁.setTop (entryFrame m #[(.int (Int32.ofNat nn)), (.int (Int32.ofNat y0)), (.int (Int32.ofNat y1)), (.int (Int32.ofNat y2)), (.int (Int32.ofNat y3))] 5)) t := fun t k => pre52 t (by
            show Steps p.tables e below (T51.setTop (mkF m 66 #[.val (.int (Int32.ofNat nn)), .val (.int (Int32.ofNat y0)), .val (.int (Int32.ofNat y1)), .val (.int (Int32.ofNat y2)), .val (.int (Int32.ofNat y3))] [(.ref b48)])) _
            refine XS.dup X51.here hx rfl (hb hby d1_66) rfl rfl ?_
            refine XS.iconst X51.here hx rfl (hb hby d1_67) ?_
            refine XS.iloadN X51.here hx rfl (hb hby d1_68) rfl ?_
            exact k)
          obtain ⟨T54, h54, ls54, X54, e54, N54, R54, st54⟩ := gIst X51 hx hZ e51 N51 R51 0 rfl (j := (1 : Int32)) (by decide) (1) rfl (show (1 : Nat) < 4 by decide) (g := (mkF m 69 #[.val (.int (Int32.ofNat nn)), .val (.int (Int32.ofNat y0)), .val (.int (Int32.ofNat y1)), .val (.int (Int32.ofNat y2)), .val (.int (Int32.ofNat y3))] [(.int (Int32.ofNat y1)), (.int (1 : Int32)), (.ref b48), (.ref b48)])) rfl rfl (hb hby d1_69)
          replace R54 : Rep Z n0 h54 ((b48, Ar .int [(.int (Int32.ofNat y0)), (.int (Int32.ofNat y1)), (.int (0 : Int32)), (.int (0 : Int32))]) :: Rst) := R54
          have pre55 : ∀ t, Steps p.tables e below (T54.setTop (mkF m 70 #[.val (.int (Int32.ofNat nn)), .val (.int (Int32.ofNat y0)), .val (.int (Int32.ofNat y1)), .val (.int (Int32.ofNat y2)), .val (.int (Int32.ofNat y3))] [(.ref b48)])) t → Steps p.tables e below (s₁.setTop (entryFrame m #[(.int (Int32.ofNat nn)), (.int (Int32.ofNat y0)), (.int (Int32.ofNat y1)), (.int (Int32.ofNat y2)), (.int (Int32.ofNat y3))] 5)) t := fun t k => pre53 t (st54 t k)
          have pre56 : ∀ t, Steps p.tables e below (T54.setTop (mkF m 73 #[.val (.int (Int32.ofNat nn)), .val (.int (Int32.ofNat y0)), .val (.int (Int32.ofNat y1)), .val (.int (Int32.ofNat y2)), .val (.int (Int32.ofNat y3))] [(.int (Int32.ofNat y2)), (.int (2 : Int32)), (.ref b48), (.ref b48)])) t → Steps p.tables e below (s₁.setTop (entryFrame m #[(.int (Int32.ofNat nn)), (.int (Int32.ofNat y0)), (.int (Int32.ofNat y1)), (.int (Int32.ofNat y2)), (.int (Int32.ofNat y3))] 5)) t := fun t k => pre55 t (by
            show Steps p.tables e below (T54.setTop (mkF m 70 #[.val (.int (Int32.ofNat nn)), .val (.int (Int32.ofNat y0)), .val (.int (Int32.ofNat y1)), .val (.int (Int32.ofNat y2)), .val (.int (Int32.ofNat y3))] [(.ref b48)])) _
            refine XS.dup X54.here hx rfl (hb hby d1_70) rfl rfl ?_
            refine XS.iconst X54.here hx rfl (hb hby d1_71) ?_
            refine XS.iloadN X54.here hx rfl (hb hby d1_72) rfl ?_
            exact k)
          obtain ⟨T57, h57, ls57, X57, e57, N57, R57, st57⟩ := gIst X54 hx hZ e54 N54 R54 0 rfl (j := (2 : Int32)) (by decide) (2) rfl (show (2 : Nat) < 4 by decide) (g := (mkF m 73 #[.val (.int (Int32.ofNat nn)), .val (.int (Int32.ofNat y0)), .val (.int (Int32.ofNat y1)), .val (.int (Int32.ofNat y2)), .val (.int (Int32.ofNat y3))] [(.int (Int32.ofNat y2)), (.int (2 : Int32)), (.ref b48), (.ref b48)])) rfl rfl (hb hby d1_73)
          replace R57 : Rep Z n0 h57 ((b48, Ar .int [(.int (Int32.ofNat y0)), (.int (Int32.ofNat y1)), (.int (Int32.ofNat y2)), (.int (0 : Int32))]) :: Rst) := R57
          have pre58 : ∀ t, Steps p.tables e below (T57.setTop (mkF m 74 #[.val (.int (Int32.ofNat nn)), .val (.int (Int32.ofNat y0)), .val (.int (Int32.ofNat y1)), .val (.int (Int32.ofNat y2)), .val (.int (Int32.ofNat y3))] [(.ref b48)])) t → Steps p.tables e below (s₁.setTop (entryFrame m #[(.int (Int32.ofNat nn)), (.int (Int32.ofNat y0)), (.int (Int32.ofNat y1)), (.int (Int32.ofNat y2)), (.int (Int32.ofNat y3))] 5)) t := fun t k => pre56 t (st57 t k)
          have pre59 : ∀ t, Steps p.tables e below (T57.setTop (mkF m 78 #[.val (.int (Int32.ofNat nn)), .val (.int (Int32.ofNat y0)), .val (.int (Int32.ofNat y1)), .val (.int (Int32.ofNat y2)), .val (.int (Int32.ofNat y3))] [(.int (Int32.ofNat y3)), (.int (3 : Int32)), (.ref b48), (.ref b48)])) t → Steps p.tables e below (s₁.setTop (entryFrame m #[(.int (Int32.ofNat nn)), (.int (Int32.ofNat y0)), (.int (Int32.ofNat y1)), (.int (Int32.ofNat y2)), (.int (Int32.ofNat y3))] 5)) t := fun t k => pre58 t (by
            show Steps p.tables e below (T57.setTop (mkF m 74 #[.val (.int (Int32.ofNat nn)), .val (.int (Int32.ofNat y0)), .val (.int (Int32.ofNat y1)), .val (.int (Int32.ofNat y2)), .val (.int (Int32.ofNat y3))] [(.ref b48)])) _
            refine XS.dup X57.here hx rfl (hb hby d1_74) rfl rfl ?_
            refine XS.iconst X57.here hx rfl (hb hby d1_75) ?_
            refine XS.iload X57.here hx rfl (hb hby d1_76) rfl ?_
            exact k)
          obtain ⟨T60, h60, ls60, X60, e60, N60, R60, st60⟩ := gIst X57 hx hZ e57 N57 R57 0 rfl (j := (3 : Int32)) (by decide) (3) rfl (show (3 : Nat) < 4 by decide) (g := (mkF m 78 #[.val (.int (Int32.ofNat nn)), .val (.int (Int32.ofNat y0)), .val (.int (Int32.ofNat y1)), .val (.int (Int32.ofNat y2)), .val (.int (Int32.ofNat y3))] [(.int (Int32.ofNat y3)), (.int (3 : Int32)), (.ref b48), (.ref b48)])) rfl rfl (hb hby d1_78)
          replace R60 : Rep Z n0 h60 ((b48, Ar .int [(.int (Int32.ofNat y0)), (.int (Int32.ofNat y1)), (.int (Int32.ofNat y2)), (.int (Int32.ofNat y3))]) :: Rst) := R60
          have pre61 : ∀ t, Steps p.tables e below (T60.setTop (mkF m 79 #[.val (.int (Int32.ofNat nn)), .val (.int (Int32.ofNat y0)), .val (.int (Int32.ofNat y1)), .val (.int (Int32.ofNat y2)), .val (.int (Int32.ofNat y3))] [(.ref b48)])) t → Steps p.tables e below (s₁.setTop (entryFrame m #[(.int (Int32.ofNat nn)), (.int (Int32.ofNat y0)), (.int (Int32.ofNat y1)), (.int (Int32.ofNat y2)), (.int (Int32.ofNat y3))] 5)) t := fun t k => pre59 t (st60 t k)
          obtain ⟨fs, hr, hrun, hended, hW, hsame⟩ := X60.leave (v := some (.ref b48)) (fun h => by rw [Bd.returns] at h; cases h)
          refine ⟨_, _, pre61 _ ?_, hrun, hended, _, _, rfl, ?_, ⟨_, rfl⟩, hW, hsame.mono (by decide) (by decide)⟩
          · show Steps p.tables e below (T60.setTop (mkF m 79 #[.val (.int (Int32.ofNat nn)), .val (.int (Int32.ofNat y0)), .val (.int (Int32.ofNat y1)), .val (.int (Int32.ofNat y2)), .val (.int (Int32.ofNat y3))] [(.ref b48)])) _
            exact Jvm.Own.retA X60 hx (t := (.array .int)) rfl Bd.returns (hb hby d1_79) hr
          · show Q1 Z nn y0 y1 y2 y3 n0 Rst _ T60.heap _
            rw [e60]
            exact ⟨b48, rfl, N60, (by simp only [MK, if_neg hb2, if_neg hb9, if_neg hb19, if_neg hb32]; exact R60)⟩
theorem d7_0 : decode method_4_code 0 = .ok (.iconst 0, 1) := by decide +kernel
theorem d7_1 : decode method_4_code 1 = .ok (.istore 6, 2) := by decide +kernel
theorem d7_3 : decode method_4_code 3 = .ok (.iload_n 1, 1) := by decide +kernel
theorem d7_4 : decode method_4_code 4 = .ok (.ifCond .le 14, 3) := by decide +kernel
theorem d7_7 : decode method_4_code 7 = .ok (.iload_n 2, 1) := by decide +kernel
theorem d7_8 : decode method_4_code 8 = .ok (.iload_n 0, 1) := by decide +kernel
theorem d7_9 : decode method_4_code 9 = .ok (.if_icmp .ne 9, 3) := by decide +kernel
theorem d7_12 : decode method_4_code 12 = .ok (.iload 6, 2) := by decide +kernel
theorem d7_14 : decode method_4_code 14 = .ok (.iconst 1, 1) := by decide +kernel
theorem d7_15 : decode method_4_code 15 = .ok (.iadd, 1) := by decide +kernel
theorem d7_16 : decode method_4_code 16 = .ok (.istore 6, 2) := by decide +kernel
theorem d7_18 : decode method_4_code 18 = .ok (.iload_n 1, 1) := by decide +kernel
theorem d7_19 : decode method_4_code 19 = .ok (.iconst 1, 1) := by decide +kernel
theorem d7_20 : decode method_4_code 20 = .ok (.if_icmp .le 14, 3) := by decide +kernel
theorem d7_23 : decode method_4_code 23 = .ok (.iload_n 3, 1) := by decide +kernel
theorem d7_24 : decode method_4_code 24 = .ok (.iload_n 0, 1) := by decide +kernel
theorem d7_25 : decode method_4_code 25 = .ok (.if_icmp .ne 9, 3) := by decide +kernel
theorem d7_28 : decode method_4_code 28 = .ok (.iload 6, 2) := by decide +kernel
theorem d7_30 : decode method_4_code 30 = .ok (.iconst 1, 1) := by decide +kernel
theorem d7_31 : decode method_4_code 31 = .ok (.iadd, 1) := by decide +kernel
theorem d7_32 : decode method_4_code 32 = .ok (.istore 6, 2) := by decide +kernel
theorem d7_34 : decode method_4_code 34 = .ok (.iload_n 1, 1) := by decide +kernel
theorem d7_35 : decode method_4_code 35 = .ok (.iconst 2, 1) := by decide +kernel
theorem d7_36 : decode method_4_code 36 = .ok (.if_icmp .le 15, 3) := by decide +kernel
theorem d7_39 : decode method_4_code 39 = .ok (.iload 4, 2) := by decide +kernel
theorem d7_41 : decode method_4_code 41 = .ok (.iload_n 0, 1) := by decide +kernel
theorem d7_42 : decode method_4_code 42 = .ok (.if_icmp .ne 9, 3) := by decide +kernel
theorem d7_45 : decode method_4_code 45 = .ok (.iload 6, 2) := by decide +kernel
theorem d7_47 : decode method_4_code 47 = .ok (.iconst 1, 1) := by decide +kernel
theorem d7_48 : decode method_4_code 48 = .ok (.iadd, 1) := by decide +kernel
theorem d7_49 : decode method_4_code 49 = .ok (.istore 6, 2) := by decide +kernel
theorem d7_51 : decode method_4_code 51 = .ok (.iload_n 1, 1) := by decide +kernel
theorem d7_52 : decode method_4_code 52 = .ok (.iconst 3, 1) := by decide +kernel
theorem d7_53 : decode method_4_code 53 = .ok (.if_icmp .le 15, 3) := by decide +kernel
theorem d7_56 : decode method_4_code 56 = .ok (.iload 5, 2) := by decide +kernel
theorem d7_58 : decode method_4_code 58 = .ok (.iload_n 0, 1) := by decide +kernel
theorem d7_59 : decode method_4_code 59 = .ok (.if_icmp .ne 9, 3) := by decide +kernel
theorem d7_62 : decode method_4_code 62 = .ok (.iload 6, 2) := by decide +kernel
theorem d7_64 : decode method_4_code 64 = .ok (.iconst 1, 1) := by decide +kernel
theorem d7_65 : decode method_4_code 65 = .ok (.iadd, 1) := by decide +kernel
theorem d7_66 : decode method_4_code 66 = .ok (.istore 6, 2) := by decide +kernel
theorem d7_68 : decode method_4_code 68 = .ok (.iload 6, 2) := by decide +kernel
theorem d7_70 : decode method_4_code 70 = .ok (.ireturn, 1) := by decide +kernel
theorem ef_7 (m : MethodId) (x0 : Int32) (x1 : Int32) (x2 : Int32) (x3 : Int32) (x4 : Int32) (x5 : Int32) : entryFrame m #[(.int x0), (.int x1), (.int x2), (.int x3), (.int x4), (.int x5)] 7 = mkF m 0 #[.val (.int x0), .val (.int x1), .val (.int x2), .val (.int x3), .val (.int x4), .val (.int x5), .unset] [] := by first | (simp [entryFrame, mkF, argsToLocals, Value.category]; done) | rfl
def F7 (bk : Int32) (nn : Int32) (y0 : Int32) (y1 : Int32) (y2 : Int32) (y3 : Int32) : Int32 :=
  let v13 : Int32 := (if ((1 : Int32) < nn) ∧ (y1 = bk) then ((bz (((0 : Int32) < nn) ∧ (y0 = bk))) + (1 : Int32)) else (bz (((0 : Int32) < nn) ∧ (y0 = bk))))
  let v20 : Int32 := (if ((2 : Int32) < nn) ∧ (y2 = bk) then (v13 + (1 : Int32)) else v13)
  let v27 : Int32 := (if ((3 : Int32) < nn) ∧ (y3 = bk) then (v20 + (1 : Int32)) else v20)
  v27
def Q7 (Z : State) (bk : Int32) (nn : Int32) (y0 : Int32) (y1 : Int32) (y2 : Int32) (y3 : Int32) (n0 : Nat) (Rst : RL) (v : Option Value) (h : Heap) (L : List Loc) : Prop := v = some (.int (F7 bk nn y0 y1 y2 y3)) ∧ Fr n0 L ∧ Rep Z n0 h (Rst)
set_option maxRecDepth 65536 in
set_option maxHeartbeats 40000000 in
theorem rm7 (l : Launch) (Z : State) (a0 : Array Value) (hw : ∀ d ∈ tables_1, d.before a0 Z = true) (ws : List Jvm.Cond) (bk : Int32) (nn : Int32) (y0 : Int32) (y1 : Int32) (y2 : Int32) (y3 : Int32) (h0 : Heap) (n0 : Nat) (Rst : RL) (R0 : Rep Z n0 h0 (Rst)) :
    MetFree l (⟨"com/example/witgen/witgen/regex/PartitionSizePinLaw", "ref", "(IIIIII)I"⟩ : MethodName) (head1 (Jvm.Cond.code (⟨"com/example/witgen/witgen/regex/PartitionSizePinLaw", "ref", "(IIIIII)I"⟩ : MethodName) method_4_code 7 (some .int) :: ws) ({ frames := 0, cells := 0, slots := 0, locals := 0 } : Room)) (fun a U => a = #[(.int bk), (.int nn), (.int y0), (.int y1), (.int y2), (.int y3)] ∧ Z.Warmed39 U.vm ∧ U.heap = h0) (fun _ _ _ _ _ => True) (fun _ U o U' => ∃ v L, o = .returned v ∧ Q7 Z bk nn y0 y1 y2 y3 n0 Rst v U'.heap L ∧ FrameEnd U o U' L ({ frames := 0, cells := 0, slots := 0, locals := 0 } : Room).cells ({ frames := 0, cells := 0, slots := 0, locals := 0 } : Room).slots) := by
  refine MetFree.of_bodySF (plainFor_of_name pn_com_example_witgen_witgen_regex_PartitionSizePinLaw) hisR ?_
  intro p e s m args below meth c s₁ Bd hml0 hP hK
  obtain ⟨rfl, hZ, hh⟩ := hP
  have hx := Bd.exec
  have hby := Bd.bytes
  have hml : c.maxLocals = 7 := hml0
  have hown : s.vm.findClass "com/example/witgen/witgen/regex/PartitionSizePinLaw" = some m.cls := findClass_of_methodNamed Bd.named
  have hnm := (name_of_methodNamed Bd.named Bd.method).1
  have X0 : Stand p l e ({ frames := 0, cells := 0, slots := 0, locals := 0 } : Room) s m #[(.int bk), (.int nn), (.int y0), (.int y1), (.int y2), (.int y3)] below meth c s₁ [] 0 0 := Stand.of_body Bd
  have e0 : s₁.heap = h0 := by rw [← hh, Bd.state]; rfl
  have N0 := Fr.nil n0
  have pre0 : ∀ t, Steps p.tables e below (s₁.setTop (mkF m 0 #[.val (.int bk), .val (.int nn), .val (.int y0), .val (.int y1), .val (.int y2), .val (.int y3), .unset] [])) t → Steps p.tables e below (s₁.setTop (entryFrame m #[(.int bk), (.int nn), (.int y0), (.int y1), (.int y2), (.int y3)] 7)) t := fun t k => castTop (ef_7 m bk nn y0 y1 y2 y3) k
  have pre5 : ∀ t, Steps p.tables e below (s₁.setTop (mkF m 4 #[.val (.int bk), .val (.int nn), .val (.int y0), .val (.int y1), .val (.int y2), .val (.int y3), .val (.int (0 : Int32))] [(.int nn)])) t → Steps p.tables e below (s₁.setTop (entryFrame m #[(.int bk), (.int nn), (.int y0), (.int y1), (.int y2), (.int y3)] 7)) t := fun t k => pre0 t (by
    show Steps p.tables e below (s₁.setTop (mkF m 0 #[.val (.int bk), .val (.int nn), .val (.int y0), .val (.int y1), .val (.int y2), .val (.int y3), .unset] [])) _
    refine XS.iconst X0.here hx rfl (hb hby d7_0) ?_
    refine XS.istore X0.here hx rfl (hb hby d7_1) rfl (l' := #[.val (.int bk), .val (.int nn), .val (.int y0), .val (.int y1), .val (.int y2), .val (.int y3), .val (.int (0 : Int32))]) rfl ?_
    refine XS.iloadN X0.here hx rfl (hb hby d7_3) rfl ?_
    exact k)
  have tl3 : ∀ t, Steps p.tables e below (s₁.setTop (mkF m 18 #[.val (.int bk), .val (.int nn), .val (.int y0), .val (.int y1), .val (.int y2), .val (.int y3), .val (.int (bz (y0 = bk)))] [])) t → Steps p.tables e below (s₁.setTop (mkF m 9 #[.val (.int bk), .val (.int nn), .val (.int y0), .val (.int y1), .val (.int y2), .val (.int y3), .val (.int (0 : Int32))] [(.int bk), (.int y0)])) t := fun t k => by
    by_cases hb2 : y0 = bk
    · refine XS.icmpNo X0.here hx rfl (hb hby d7_9) rfl (teq hb2).2 ?_
      rw [bz_one (P := (y0 = bk)) (iff_true_intro hb2)] at k
      show Steps p.tables e below (s₁.setTop (mkF m 12 #[.val (.int bk), .val (.int nn), .val (.int y0), .val (.int y1), .val (.int y2), .val (.int y3), .val (.int (0 : Int32))] [])) _
      refine XS.iload X0.here hx rfl (hb hby d7_12) rfl ?_
      refine XS.iconst X0.here hx rfl (hb hby d7_14) ?_
      refine XS.iadd X0.here hx rfl (hb hby d7_15) rfl ?_
      refine XS.istore X0.here hx rfl (hb hby d7_16) rfl (l' := #[.val (.int bk), .val (.int nn), .val (.int y0), .val (.int y1), .val (.int y2), .val (.int y3), .val (.int (1 : Int32))]) rfl ?_
      exact k
    · refine XS.icmpYes X0.here hx rfl (pc0 := 9) (pc' := 18) rfl (hb hby d7_9) rfl (feq hb2).2 (by decide) (by decide) ?_
      rw [bz_zero (P := (y0 = bk)) (iff_false_intro hb2)] at k
      exact k
  have tl4 : ∀ t, Steps p.tables e below (s₁.setTop (mkF m 18 #[.val (.int bk), .val (.int nn), .val (.int y0), .val (.int y1), .val (.int y2), .val (.int y3), .val (.int (bz (((0 : Int32) < nn) ∧ (y0 = bk))))] [])) t → Steps p.tables e below (s₁.setTop (mkF m 4 #[.val (.int bk), .val (.int nn), .val (.int y0), .val (.int y1), .val (.int y2), .val (.int y3), .val (.int (0 : Int32))] [(.int nn)])) t := fun t k => by
    by_cases hb1 : (0 : Int32) < nn
    · refine XS.ifNo X0.here hx rfl (hb hby d7_4) rfl ((if0 _ _).trans (tlt hb1).2.2.2) ?_
      rw [bz_congr (P := (((0 : Int32) < nn) ∧ (y0 = bk))) (Q := (y0 = bk)) (and_iff_right hb1)] at k
      show Steps p.tables e below (s₁.setTop (mkF m 7 #[.val (.int bk), .val (.int nn), .val (.int y0), .val (.int y1), .val (.int y2), .val (.int y3), .val (.int (0 : Int32))] [])) _
      refine XS.iloadN X0.here hx rfl (hb hby d7_7) rfl ?_
      refine XS.iloadN X0.here hx rfl (hb hby d7_8) rfl ?_
      exact tl3 t k
    · refine XS.ifYes X0.here hx rfl (pc0 := 4) (pc' := 18) rfl (hb hby d7_4) rfl ((if0 _ _).trans (flt hb1).2.2.2) (by decide) (by decide) ?_
      rw [bz_zero (P := (((0 : Int32) < nn) ∧ (y0 = bk))) (iff_false_intro (fun q => hb1 q.1))] at k
      exact k
  have pre6 : ∀ t, Steps p.tables e below (s₁.setTop (mkF m 18 #[.val (.int bk), .val (.int nn), .val (.int y0), .val (.int y1), .val (.int y2), .val (.int y3), .val (.int (bz (((0 : Int32) < nn) ∧ (y0 = bk))))] [])) t → Steps p.tables e below (s₁.setTop (entryFrame m #[(.int bk), (.int nn), (.int y0), (.int y1), (.int y2), (.int y3)] 7)) t := fun t k => pre5 t (by
    exact tl4 t k)
  have pre11 : ∀ t, Steps p.tables e below (s₁.setTop (mkF m 20 #[.val (.int bk), .val (.int nn), .val (.int y0), .val (.int y1), .val (.int y2), .val (.int y3), .val (.int (bz (((0 : Int32) < nn) ∧ (y0 = bk))))] [(.int (1 : Int32)), (.int nn)])) t → Steps p.tables e below (s₁.setTop (entryFrame m #[(.int bk), (.int nn), (.int y0), (.int y1), (.int y2), (.int y3)] 7)) t := fun t k => pre6 t (by
    show Steps p.tables e below (s₁.setTop (mkF m 18 #[.val (.int bk), .val (.int nn), .val (.int y0), .val (.int y1), .val (.int y2), .val (.int y3), .val (.int (bz (((0 : Int32) < nn) ∧ (y0 = bk))))] [])) _
    refine XS.iloadN X0.here hx rfl (hb hby d7_18) rfl ?_
    refine XS.iconst X0.here hx rfl (hb hby d7_19) ?_
    exact k)
  have tl9 : ∀ t, Steps p.tables e below (s₁.setTop (mkF m 34 #[.val (.int bk), .val (.int nn), .val (.int y0), .val (.int y1), .val (.int y2), .val (.int y3), .val (.int (if y1 = bk then ((bz (((0 : Int32) < nn) ∧ (y0 = bk))) + (1 : Int32)) else (bz (((0 : Int32) < nn) ∧ (y0 = bk)))))] [])) t → Steps p.tables e below (s₁.setTop (mkF m 25 #[.val (.int bk), .val (.int nn), .val (.int y0), .val (.int y1), .val (.int y2), .val (.int y3), .val (.int (bz (((0 : Int32) < nn) ∧ (y0 = bk))))] [(.int bk), (.int y1)])) t := fun t k => by
    by_cases hb8 : y1 = bk
    · refine XS.icmpNo X0.here hx rfl (hb hby d7_25) rfl (teq hb8).2 ?_
      rw [show (if y1 = bk then ((bz (((0 : Int32) < nn) ∧ (y0 = bk))) + (1 : Int32)) else (bz (((0 : Int32) < nn) ∧ (y0 = bk)))) = ((bz (((0 : Int32) < nn) ∧ (y0 = bk))) + (1 : Int32)) from if_pos hb8] at k
      show Steps p.tables e below (s₁.setTop (mkF m 28 #[.val (.int bk), .val (.int nn), .val (.int y0), .val (.int y1), .val (.int y2), .val (.int y3), .val (.int (bz (((0 : Int32) < nn) ∧ (y0 = bk))))] [])) _
      refine XS.iload X0.here hx rfl (hb hby d7_28) rfl ?_
      refine XS.iconst X0.here hx rfl (hb hby d7_30) ?_
      refine XS.iadd X0.here hx rfl (hb hby d7_31) rfl ?_
      refine XS.istore X0.here hx rfl (hb hby d7_32) rfl (l' := #[.val (.int bk), .val (.int nn), .val (.int y0), .val (.int y1), .val (.int y2), .val (.int y3), .val (.int ((bz (((0 : Int32) < nn) ∧ (y0 = bk))) + (1 : Int32)))]) rfl ?_
      exact k
    · refine XS.icmpYes X0.here hx rfl (pc0 := 25) (pc' := 34) rfl (hb hby d7_25) rfl (feq hb8).2 (by decide) (by decide) ?_
      rw [show (if y1 = bk then ((bz (((0 : Int32) < nn) ∧ (y0 = bk))) + (1 : Int32)) else (bz (((0 : Int32) < nn) ∧ (y0 = bk)))) = (bz (((0 : Int32) < nn) ∧ (y0 = bk))) from if_neg hb8] at k
      exact k
  have tl10 : ∀ t, Steps p.tables e below (s₁.setTop (mkF m 34 #[.val (.int bk), .val (.int nn), .val (.int y0), .val (.int y1), .val (.int y2), .val (.int y3), .val (.int (if ((1 : Int32) < nn) ∧ (y1 = bk) then ((bz (((0 : Int32) < nn) ∧ (y0 = bk))) + (1 : Int32)) else (bz (((0 : Int32) < nn) ∧ (y0 = bk)))))] [])) t → Steps p.tables e below (s₁.setTop (mkF m 20 #[.val (.int bk), .val (.int nn), .val (.int y0), .val (.int y1), .val (.int y2), .val (.int y3), .val (.int (bz (((0 : Int32) < nn) ∧ (y0 = bk))))] [(.int (1 : Int32)), (.int nn)])) t := fun t k => by
    by_cases hb7 : (1 : Int32) < nn
    · refine XS.icmpNo X0.here hx rfl (hb hby d7_20) rfl (tlt hb7).2.2.2 ?_
      rw [show (if ((1 : Int32) < nn) ∧ (y1 = bk) then ((bz (((0 : Int32) < nn) ∧ (y0 = bk))) + (1 : Int32)) else (bz (((0 : Int32) < nn) ∧ (y0 = bk)))) = (if y1 = bk then ((bz (((0 : Int32) < nn) ∧ (y0 = bk))) + (1 : Int32)) else (bz (((0 : Int32) < nn) ∧ (y0 = bk)))) from ite_and_t hb7] at k
      show Steps p.tables e below (s₁.setTop (mkF m 23 #[.val (.int bk), .val (.int nn), .val (.int y0), .val (.int y1), .val (.int y2), .val (.int y3), .val (.int (bz (((0 : Int32) < nn) ∧ (y0 = bk))))] [])) _
      refine XS.iloadN X0.here hx rfl (hb hby d7_23) rfl ?_
      refine XS.iloadN X0.here hx rfl (hb hby d7_24) rfl ?_
      exact tl9 t k
    · refine XS.icmpYes X0.here hx rfl (pc0 := 20) (pc' := 34) rfl (hb hby d7_20) rfl (flt hb7).2.2.2 (by decide) (by decide) ?_
      rw [show (if ((1 : Int32) < nn) ∧ (y1 = bk) then ((bz (((0 : Int32) < nn) ∧ (y0 = bk))) + (1 : Int32)) else (bz (((0 : Int32) < nn) ∧ (y0 = bk)))) = (bz (((0 : Int32) < nn) ∧ (y0 = bk))) from ite_and_f hb7] at k
      exact k
  have pre12 : ∀ t, Steps p.tables e below (s₁.setTop (mkF m 34 #[.val (.int bk), .val (.int nn), .val (.int y0), .val (.int y1), .val (.int y2), .val (.int y3), .val (.int (if ((1 : Int32) < nn) ∧ (y1 = bk) then ((bz (((0 : Int32) < nn) ∧ (y0 = bk))) + (1 : Int32)) else (bz (((0 : Int32) < nn) ∧ (y0 = bk)))))] [])) t → Steps p.tables e below (s₁.setTop (entryFrame m #[(.int bk), (.int nn), (.int y0), (.int y1), (.int y2), (.int y3)] 7)) t := fun t k => pre11 t (by
    exact tl10 t k)
  obtain ⟨v13, hv13⟩ : ∃ z : Int32, z = (if ((1 : Int32) < nn) ∧ (y1 = bk) then ((bz (((0 : Int32) < nn) ∧ (y0 = bk))) + (1 : Int32)) else (bz (((0 : Int32) < nn) ∧ (y0 = bk)))) := ⟨_, rfl⟩
  rw [← hv13] at pre12
  have pre18 : ∀ t, Steps p.tables e below (s₁.setTop (mkF m 36 #[.val (.int bk), .val (.int nn), .val (.int y0), .val (.int y1), .val (.int y2), .val (.int y3), .val (.int v13)] [(.int (2 : Int32)), (.int nn)])) t → Steps p.tables e below (s₁.setTop (entryFrame m #[(.int bk), (.int nn), (.int y0), (.int y1), (.int y2), (.int y3)] 7)) t := fun t k => pre12 t (by
    show Steps p.tables e below (s₁.setTop (mkF m 34 #[.val (.int bk), .val (.int nn), .val (.int y0), .val (.int y1), .val (.int y2), .val (.int y3), .val (.int v13)] [])) _
    refine XS.iloadN X0.here hx rfl (hb hby d7_34) rfl ?_
    refine XS.iconst X0.here hx rfl (hb hby d7_35) ?_
    exact k)
  have tl16 : ∀ t, Steps p.tables e below (s₁.setTop (mkF m 51 #[.val (.int bk), .val (.int nn), .val (.int y0), .val (.int y1), .val (.int y2), .val (.int y3), .val (.int (if y2 = bk then (v13 + (1 : Int32)) else v13))] [])) t → Steps p.tables e below (s₁.setTop (mkF m 42 #[.val (.int bk), .val (.int nn), .val (.int y0), .val (.int y1), .val (.int y2), .val (.int y3), .val (.int v13)] [(.int bk), (.int y2)])) t := fun t k => by
    by_cases hb15 : y2 = bk
    · refine XS.icmpNo X0.here hx rfl (hb hby d7_42) rfl (teq hb15).2 ?_
      rw [show (if y2 = bk then (v13 + (1 : Int32)) else v13) = (v13 + (1 : Int32)) from if_pos hb15] at k
      show Steps p.tables e below (s₁.setTop (mkF m 45 #[.val (.int bk), .val (.int nn), .val (.int y0), .val (.int y1), .val (.int y2), .val (.int y3), .val (.int v13)] [])) _
      refine XS.iload X0.here hx rfl (hb hby d7_45) rfl ?_
      refine XS.iconst X0.here hx rfl (hb hby d7_47) ?_
      refine XS.iadd X0.here hx rfl (hb hby d7_48) rfl ?_
      refine XS.istore X0.here hx rfl (hb hby d7_49) rfl (l' := #[.val (.int bk), .val (.int nn), .val (.int y0), .val (.int y1), .val (.int y2), .val (.int y3), .val (.int (v13 + (1 : Int32)))]) rfl ?_
      exact k
    · refine XS.icmpYes X0.here hx rfl (pc0 := 42) (pc' := 51) rfl (hb hby d7_42) rfl (feq hb15).2 (by decide) (by decide) ?_
      rw [show (if y2 = bk then (v13 + (1 : Int32)) else v13) = v13 from if_neg hb15] at k
      exact k
  have tl17 : ∀ t, Steps p.tables e below (s₁.setTop (mkF m 51 #[.val (.int bk), .val (.int nn), .val (.int y0), .val (.int y1), .val (.int y2), .val (.int y3), .val (.int (if ((2 : Int32) < nn) ∧ (y2 = bk) then (v13 + (1 : Int32)) else v13))] [])) t → Steps p.tables e below (s₁.setTop (mkF m 36 #[.val (.int bk), .val (.int nn), .val (.int y0), .val (.int y1), .val (.int y2), .val (.int y3), .val (.int v13)] [(.int (2 : Int32)), (.int nn)])) t := fun t k => by
    by_cases hb14 : (2 : Int32) < nn
    · refine XS.icmpNo X0.here hx rfl (hb hby d7_36) rfl (tlt hb14).2.2.2 ?_
      rw [show (if ((2 : Int32) < nn) ∧ (y2 = bk) then (v13 + (1 : Int32)) else v13) = (if y2 = bk then (v13 + (1 : Int32)) else v13) from ite_and_t hb14] at k
      show Steps p.tables e below (s₁.setTop (mkF m 39 #[.val (.int bk), .val (.int nn), .val (.int y0), .val (.int y1), .val (.int y2), .val (.int y3), .val (.int v13)] [])) _
      refine XS.iload X0.here hx rfl (hb hby d7_39) rfl ?_
      refine XS.iloadN X0.here hx rfl (hb hby d7_41) rfl ?_
      exact tl16 t k
    · refine XS.icmpYes X0.here hx rfl (pc0 := 36) (pc' := 51) rfl (hb hby d7_36) rfl (flt hb14).2.2.2 (by decide) (by decide) ?_
      rw [show (if ((2 : Int32) < nn) ∧ (y2 = bk) then (v13 + (1 : Int32)) else v13) = v13 from ite_and_f hb14] at k
      exact k
  have pre19 : ∀ t, Steps p.tables e below (s₁.setTop (mkF m 51 #[.val (.int bk), .val (.int nn), .val (.int y0), .val (.int y1), .val (.int y2), .val (.int y3), .val (.int (if ((2 : Int32) < nn) ∧ (y2 = bk) then (v13 + (1 : Int32)) else v13))] [])) t → Steps p.tables e below (s₁.setTop (entryFrame m #[(.int bk), (.int nn), (.int y0), (.int y1), (.int y2), (.int y3)] 7)) t := fun t k => pre18 t (by
    exact tl17 t k)
  obtain ⟨v20, hv20⟩ : ∃ z : Int32, z = (if ((2 : Int32) < nn) ∧ (y2 = bk) then (v13 + (1 : Int32)) else v13) := ⟨_, rfl⟩
  rw [← hv20] at pre19
  have pre25 : ∀ t, Steps p.tables e below (s₁.setTop (mkF m 53 #[.val (.int bk), .val (.int nn), .val (.int y0), .val (.int y1), .val (.int y2), .val (.int y3), .val (.int v20)] [(.int (3 : Int32)), (.int nn)])) t → Steps p.tables e below (s₁.setTop (entryFrame m #[(.int bk), (.int nn), (.int y0), (.int y1), (.int y2), (.int y3)] 7)) t := fun t k => pre19 t (by
    show Steps p.tables e below (s₁.setTop (mkF m 51 #[.val (.int bk), .val (.int nn), .val (.int y0), .val (.int y1), .val (.int y2), .val (.int y3), .val (.int v20)] [])) _
    refine XS.iloadN X0.here hx rfl (hb hby d7_51) rfl ?_
    refine XS.iconst X0.here hx rfl (hb hby d7_52) ?_
    exact k)
  have tl23 : ∀ t, Steps p.tables e below (s₁.setTop (mkF m 68 #[.val (.int bk), .val (.int nn), .val (.int y0), .val (.int y1), .val (.int y2), .val (.int y3), .val (.int (if y3 = bk then (v20 + (1 : Int32)) else v20))] [])) t → Steps p.tables e below (s₁.setTop (mkF m 59 #[.val (.int bk), .val (.int nn), .val (.int y0), .val (.int y1), .val (.int y2), .val (.int y3), .val (.int v20)] [(.int bk), (.int y3)])) t := fun t k => by
    by_cases hb22 : y3 = bk
    · refine XS.icmpNo X0.here hx rfl (hb hby d7_59) rfl (teq hb22).2 ?_
      rw [show (if y3 = bk then (v20 + (1 : Int32)) else v20) = (v20 + (1 : Int32)) from if_pos hb22] at k
      show Steps p.tables e below (s₁.setTop (mkF m 62 #[.val (.int bk), .val (.int nn), .val (.int y0), .val (.int y1), .val (.int y2), .val (.int y3), .val (.int v20)] [])) _
      refine XS.iload X0.here hx rfl (hb hby d7_62) rfl ?_
      refine XS.iconst X0.here hx rfl (hb hby d7_64) ?_
      refine XS.iadd X0.here hx rfl (hb hby d7_65) rfl ?_
      refine XS.istore X0.here hx rfl (hb hby d7_66) rfl (l' := #[.val (.int bk), .val (.int nn), .val (.int y0), .val (.int y1), .val (.int y2), .val (.int y3), .val (.int (v20 + (1 : Int32)))]) rfl ?_
      exact k
    · refine XS.icmpYes X0.here hx rfl (pc0 := 59) (pc' := 68) rfl (hb hby d7_59) rfl (feq hb22).2 (by decide) (by decide) ?_
      rw [show (if y3 = bk then (v20 + (1 : Int32)) else v20) = v20 from if_neg hb22] at k
      exact k
  have tl24 : ∀ t, Steps p.tables e below (s₁.setTop (mkF m 68 #[.val (.int bk), .val (.int nn), .val (.int y0), .val (.int y1), .val (.int y2), .val (.int y3), .val (.int (if ((3 : Int32) < nn) ∧ (y3 = bk) then (v20 + (1 : Int32)) else v20))] [])) t → Steps p.tables e below (s₁.setTop (mkF m 53 #[.val (.int bk), .val (.int nn), .val (.int y0), .val (.int y1), .val (.int y2), .val (.int y3), .val (.int v20)] [(.int (3 : Int32)), (.int nn)])) t := fun t k => by
    by_cases hb21 : (3 : Int32) < nn
    · refine XS.icmpNo X0.here hx rfl (hb hby d7_53) rfl (tlt hb21).2.2.2 ?_
      rw [show (if ((3 : Int32) < nn) ∧ (y3 = bk) then (v20 + (1 : Int32)) else v20) = (if y3 = bk then (v20 + (1 : Int32)) else v20) from ite_and_t hb21] at k
      show Steps p.tables e below (s₁.setTop (mkF m 56 #[.val (.int bk), .val (.int nn), .val (.int y0), .val (.int y1), .val (.int y2), .val (.int y3), .val (.int v20)] [])) _
      refine XS.iload X0.here hx rfl (hb hby d7_56) rfl ?_
      refine XS.iloadN X0.here hx rfl (hb hby d7_58) rfl ?_
      exact tl23 t k
    · refine XS.icmpYes X0.here hx rfl (pc0 := 53) (pc' := 68) rfl (hb hby d7_53) rfl (flt hb21).2.2.2 (by decide) (by decide) ?_
      rw [show (if ((3 : Int32) < nn) ∧ (y3 = bk) then (v20 + (1 : Int32)) else v20) = v20 from ite_and_f hb21] at k
      exact k
  have pre26 : ∀ t, Steps p.tables e below (s₁.setTop (mkF m 68 #[.val (.int bk), .val (.int nn), .val (.int y0), .val (.int y1), .val (.int y2), .val (.int y3), .val (.int (if ((3 : Int32) < nn) ∧ (y3 = bk) then (v20 + (1 : Int32)) else v20))] [])) t → Steps p.tables e below (s₁.setTop (entryFrame m #[(.int bk), (.int nn), (.int y0), (.int y1), (.int y2), (.int y3)] 7)) t := fun t k => pre25 t (by
    exact tl24 t k)
  obtain ⟨v27, hv27⟩ : ∃ z : Int32, z = (if ((3 : Int32) < nn) ∧ (y3 = bk) then (v20 + (1 : Int32)) else v20) := ⟨_, rfl⟩
  rw [← hv27] at pre26
  have pre28 : ∀ t, Steps p.tables e below (s₁.setTop (mkF m 70 #[.val (.int bk), .val (.int nn), .val (.int y0), .val (.int y1), .val (.int y2), .val (.int y3), .val (.int v27)] [(.int v27)])) t → Steps p.tables e below (s₁.setTop (entryFrame m #[(.int bk), (.int nn), (.int y0), (.int y1), (.int y2), (.int y3)] 7)) t := fun t k => pre26 t (by
    show Steps p.tables e below (s₁.setTop (mkF m 68 #[.val (.int bk), .val (.int nn), .val (.int y0), .val (.int y1), .val (.int y2), .val (.int y3), .val (.int v27)] [])) _
    refine XS.iload X0.here hx rfl (hb hby d7_68) rfl ?_
    exact k)
  obtain ⟨fs, hr, hrun, hended, hW, hsame⟩ := X0.leave (v := some (.int v27)) (fun h => by rw [Bd.returns] at h; cases h)
  refine ⟨_, _, pre28 _ ?_, hrun, hended, _, _, rfl, ?_, ⟨_, rfl⟩, hW, hsame.mono (by decide) (by decide)⟩
  · show Steps p.tables e below (s₁.setTop (mkF m 70 #[.val (.int bk), .val (.int nn), .val (.int y0), .val (.int y1), .val (.int y2), .val (.int y3), .val (.int v27)] [(.int v27)])) _
    exact Jvm.Own.retI X0 hx Bd.returns (hb hby d7_70) hr
  · show Q7 Z bk nn y0 y1 y2 y3 n0 Rst _ s₁.heap _
    rw [e0]
    exact ⟨(by subst hv13 hv20 hv27; rfl), N0, R0⟩
theorem d6_0 : decode prog_15_method_4_code 0 = .ok (.aload_n 0, 1) := by decide +kernel
theorem d6_1 : decode prog_15_method_4_code 1 = .ok (.getfield 33, 3) := by decide +kernel
theorem d6_4 : decode prog_15_method_4_code 4 = .ok (.iload_n 1, 1) := by decide +kernel
theorem d6_5 : decode prog_15_method_4_code 5 = .ok (.iaload, 1) := by decide +kernel
theorem d6_6 : decode prog_15_method_4_code 6 = .ok (.aload_n 0, 1) := by decide +kernel
theorem d6_7 : decode prog_15_method_4_code 7 = .ok (.getfield 30, 3) := by decide +kernel
theorem d6_10 : decode prog_15_method_4_code 10 = .ok (.iload_n 1, 1) := by decide +kernel
theorem d6_11 : decode prog_15_method_4_code 11 = .ok (.iaload, 1) := by decide +kernel
theorem d6_12 : decode prog_15_method_4_code 12 = .ok (.isub, 1) := by decide +kernel
theorem d6_13 : decode prog_15_method_4_code 13 = .ok (.ireturn, 1) := by decide +kernel
theorem ef_6 (m : MethodId) (x0 : Addr) (x1 : Nat) : entryFrame m #[(.ref x0), (.int (Int32.ofNat x1))] 2 = mkF m 0 #[.val (.ref x0), .val (.int (Int32.ofNat x1))] [] := by first | (simp [entryFrame, mkF, argsToLocals, Value.category]; done) | rfl
def Q6 (Z : State) (ax : Addr) (bk : Nat) (b1 : Addr) (b2 : Addr) (b3 : Addr) (b4 : Addr) (b5 : Addr) (b6 : Addr) (b7 : Addr) (cnt : Nat) (sta : List Nat) (en : List Nat) (n0 : Nat) (Rst : RL) (v : Option Value) (h : Heap) (L : List Loc) : Prop := v = some (.int ((Int32.ofNat (en.getD bk 0)) - (Int32.ofNat (sta.getD bk 0)))) ∧ Fr n0 L ∧ Rep Z n0 h ((ax, Obj "com/example/witgen/witgen/regex/Partition" [("elements", "[I", (.ref b1)), ("location", "[I", (.ref b2)), ("blockOf", "[I", (.ref b3)), ("start", "[I", (.ref b4)), ("end", "[I", (.ref b5)), ("marked", "[I", (.ref b6)), ("touched", "[I", (.ref b7)), ("blocks", "I", (.int (Int32.ofNat cnt)))]) :: (b4, Ar .int (nl sta)) :: (b5, Ar .int (nl en)) :: Rst)
set_option maxRecDepth 65536 in
set_option maxHeartbeats 40000000 in
theorem rm6 (l : Launch) (Z : State) (a0 : Array Value) (hw : ∀ d ∈ tables_1, d.before a0 Z = true) (ws : List Jvm.Cond) (ax : Addr) (bk : Nat) (b1 : Addr) (b2 : Addr) (b3 : Addr) (b4 : Addr) (b5 : Addr) (b6 : Addr) (b7 : Addr) (cnt : Nat) (sta : List Nat) (en : List Nat) (h0 : Heap) (n0 : Nat) (Rst : RL) (R0 : Rep Z n0 h0 ((ax, Obj "com/example/witgen/witgen/regex/Partition" [("elements", "[I", (.ref b1)), ("location", "[I", (.ref b2)), ("blockOf", "[I", (.ref b3)), ("start", "[I", (.ref b4)), ("end", "[I", (.ref b5)), ("marked", "[I", (.ref b6)), ("touched", "[I", (.ref b7)), ("blocks", "I", (.int (Int32.ofNat cnt)))]) :: (b4, Ar .int (nl sta)) :: (b5, Ar .int (nl en)) :: Rst)) (hin5 : bk < en.length) (hbd5 : bk < 1000) (hin11 : bk < sta.length) (hbd11 : bk < 1000) :
    MetFree l (⟨"com/example/witgen/witgen/regex/Partition", "size", "(I)I"⟩ : MethodName) (head1 (Jvm.Cond.code (⟨"com/example/witgen/witgen/regex/Partition", "size", "(I)I"⟩ : MethodName) prog_15_method_4_code 2 (some .int) :: ws) ({ frames := 0, cells := 0, slots := 0, locals := 0 } : Room)) (fun a U => a = #[(.ref ax), (.int (Int32.ofNat bk))] ∧ Z.Warmed39 U.vm ∧ U.heap = h0) (fun _ _ _ _ _ => True) (fun _ U o U' => ∃ v L, o = .returned v ∧ Q6 Z ax bk b1 b2 b3 b4 b5 b6 b7 cnt sta en n0 Rst v U'.heap L ∧ FrameEnd U o U' L ({ frames := 0, cells := 0, slots := 0, locals := 0 } : Room).cells ({ frames := 0, cells := 0, slots := 0, locals := 0 } : Room).slots) := by
  refine MetFree.of_bodySF (plainFor_of_name pn_com_example_witgen_witgen_regex_Partition) hisR ?_
  intro p e s m args below meth c s₁ Bd hml0 hP hK
  obtain ⟨rfl, hZ, hh⟩ := hP
  have hx := Bd.exec
  have hby := Bd.bytes
  have hml : c.maxLocals = 2 := hml0
  have hown : s.vm.findClass "com/example/witgen/witgen/regex/Partition" = some m.cls := findClass_of_methodNamed Bd.named
  have hnm := (name_of_methodNamed Bd.named Bd.method).1
  have X0 : Stand p l e ({ frames := 0, cells := 0, slots := 0, locals := 0 } : Room) s m #[(.ref ax), (.int (Int32.ofNat bk))] below meth c s₁ [] 0 0 := Stand.of_body Bd
  have e0 : s₁.heap = h0 := by rw [← hh, Bd.state]; rfl
  have N0 := Fr.nil n0
  have pre0 : ∀ t, Steps p.tables e below (s₁.setTop (mkF m 0 #[.val (.ref ax), .val (.int (Int32.ofNat bk))] [])) t → Steps p.tables e below (s₁.setTop (entryFrame m #[(.ref ax), (.int (Int32.ofNat bk))] 2)) t := fun t k => castTop (ef_6 m ax bk) k
  have pre1 : ∀ t, Steps p.tables e below (s₁.setTop (mkF m 1 #[.val (.ref ax), .val (.int (Int32.ofNat bk))] [(.ref ax)])) t → Steps p.tables e below (s₁.setTop (entryFrame m #[(.ref ax), (.int (Int32.ofNat bk))] 2)) t := fun t k => pre0 t (by
    show Steps p.tables e below (s₁.setTop (mkF m 0 #[.val (.ref ax), .val (.int (Int32.ofNat bk))] [])) _
    refine XS.aloadN X0.here hx rfl (hb hby d6_0) rfl rfl ?_
    exact k)
  obtain ⟨T2, X2, e2, st2⟩ := gGet X0 hx hZ hown (host := "") (Or.inl (hw _ (List.mem_of_getElem? (i := 36) rfl))) e0 R0 0 4 rfl rfl (g := (mkF m 1 #[.val (.ref ax), .val (.int (Int32.ofNat bk))] [(.ref ax)])) rfl rfl (hb hby d6_1)
  have pre3 : ∀ t, Steps p.tables e below (T2.setTop (mkF m 4 #[.val (.ref ax), .val (.int (Int32.ofNat bk))] [(.ref b5)])) t → Steps p.tables e below (s₁.setTop (entryFrame m #[(.ref ax), (.int (Int32.ofNat bk))] 2)) t := fun t k => pre1 t (st2 t k)
  have pre4 : ∀ t, Steps p.tables e below (T2.setTop (mkF m 7 #[.val (.ref ax), .val (.int (Int32.ofNat bk))] [(.ref ax), (.int (Int32.ofNat (en.getD bk 0)))])) t → Steps p.tables e below (s₁.setTop (entryFrame m #[(.ref ax), (.int (Int32.ofNat bk))] 2)) t := fun t k => pre3 t (by
    show Steps p.tables e below (T2.setTop (mkF m 4 #[.val (.ref ax), .val (.int (Int32.ofNat bk))] [(.ref b5)])) _
    refine XS.iloadN X2.here hx rfl (hb hby d6_4) rfl ?_
    refine gIald X2 hx hZ e2 R0 2 rfl (j := (Int32.ofNat bk)) (v := (.int (Int32.ofNat (en.getD bk 0)))) (n_nn hbd5) (nl_at hin5 hbd5) (g := (mkF m 5 #[.val (.ref ax), .val (.int (Int32.ofNat bk))] [(.int (Int32.ofNat bk)), (.ref b5)])) rfl rfl (hb hby d6_5) _ ?_
    refine XS.aloadN X2.here hx rfl (hb hby d6_6) rfl rfl ?_
    exact k)
  obtain ⟨T5, X5, e5, st5⟩ := gGet X2 hx hZ hown (host := "") (Or.inl (hw _ (List.mem_of_getElem? (i := 34) rfl))) e2 R0 0 3 rfl rfl (g := (mkF m 7 #[.val (.ref ax), .val (.int (Int32.ofNat bk))] [(.ref ax), (.int (Int32.ofNat (en.getD bk 0)))])) rfl rfl (hb hby d6_7)
  have pre6 : ∀ t, Steps p.tables e below (T5.setTop (mkF m 10 #[.val (.ref ax), .val (.int (Int32.ofNat bk))] [(.ref b4), (.int (Int32.ofNat (en.getD bk 0)))])) t → Steps p.tables e below (s₁.setTop (entryFrame m #[(.ref ax), (.int (Int32.ofNat bk))] 2)) t := fun t k => pre4 t (st5 t k)
  have pre7 : ∀ t, Steps p.tables e below (T5.setTop (mkF m 13 #[.val (.ref ax), .val (.int (Int32.ofNat bk))] [(.int ((Int32.ofNat (en.getD bk 0)) - (Int32.ofNat (sta.getD bk 0))))])) t → Steps p.tables e below (s₁.setTop (entryFrame m #[(.ref ax), (.int (Int32.ofNat bk))] 2)) t := fun t k => pre6 t (by
    show Steps p.tables e below (T5.setTop (mkF m 10 #[.val (.ref ax), .val (.int (Int32.ofNat bk))] [(.ref b4), (.int (Int32.ofNat (en.getD bk 0)))])) _
    refine XS.iloadN X5.here hx rfl (hb hby d6_10) rfl ?_
    refine gIald X5 hx hZ e5 R0 1 rfl (j := (Int32.ofNat bk)) (v := (.int (Int32.ofNat (sta.getD bk 0)))) (n_nn hbd11) (nl_at hin11 hbd11) (g := (mkF m 11 #[.val (.ref ax), .val (.int (Int32.ofNat bk))] [(.int (Int32.ofNat bk)), (.ref b4), (.int (Int32.ofNat (en.getD bk 0)))])) rfl rfl (hb hby d6_11) _ ?_
    refine XS.isub X5.here hx rfl (hb hby d6_12) rfl ?_
    exact k)
  obtain ⟨fs, hr, hrun, hended, hW, hsame⟩ := X5.leave (v := some (.int ((Int32.ofNat (en.getD bk 0)) - (Int32.ofNat (sta.getD bk 0))))) (fun h => by rw [Bd.returns] at h; cases h)
  refine ⟨_, _, pre7 _ ?_, hrun, hended, _, _, rfl, ?_, ⟨_, rfl⟩, hW, hsame.mono (by decide) (by decide)⟩
  · show Steps p.tables e below (T5.setTop (mkF m 13 #[.val (.ref ax), .val (.int (Int32.ofNat bk))] [(.int ((Int32.ofNat (en.getD bk 0)) - (Int32.ofNat (sta.getD bk 0))))])) _
    exact Jvm.Own.retI X5 hx Bd.returns (hb hby d6_13) hr
  · show Q6 Z ax bk b1 b2 b3 b4 b5 b6 b7 cnt sta en n0 Rst _ T5.heap _
    rw [e5]
    exact ⟨rfl, N0, R0⟩
def mk (n y0 y1 y2 y3 : Nat) : List Nat := [y0, y1, y2, y3].take n
theorem own_mk {n : Nat} (y0 y1 y2 y3 : Nat) (h : n < 5) : MK n y0 y1 y2 y3 = nl (mk n y0 y1 y2 y3) := by
  have : n = 0 ∨ n = 1 ∨ n = 2 ∨ n = 3 ∨ n = 4 := by omega
  rcases this with rfl | rfl | rfl | rfl | rfl <;> rfl
def okAll (n c y0 y1 y2 y3 : Nat) : Bool := okC (mk n y0 y1 y2 y3) c && decide (c ≤ (pEn (mk n y0 y1 y2 y3) c).length) && decide (c ≤ (pSt (mk n y0 y1 y2 y3) c).length) && (List.range c).all (fun b => decide ((Int32.ofNat ((pEn (mk n y0 y1 y2 y3) c).getD b 0)) - (Int32.ofNat ((pSt (mk n y0 y1 y2 y3) c).getD b 0)) = F7 (Int32.ofNat b) (Int32.ofNat n) (Int32.ofNat y0) (Int32.ofNat y1) (Int32.ofNat y2) (Int32.ofNat y3)))
def frc (x : Nat) (k : Nat → Bool) : Bool := bif Nat.beq x 0 then k 0 else bif Nat.beq x 1 then k 1 else bif Nat.beq x 2 then k 2 else bif Nat.beq x 3 then k 3 else bif Nat.beq x 4 then k 4 else k x
theorem frc_eq (x : Nat) (k : Nat → Bool) : frc x k = k x := by
  have h : ∀ n y, y = k x → (bif Nat.beq x n then k n else y) = k x := by
    intro n y e
    cases hq : Nat.beq x n
    · exact e
    · rw [← Nat.eq_of_beq_eq_true hq]; rfl
  exact h 0 _ (h 1 _ (h 2 _ (h 3 _ (h 4 _ rfl))))
def frcL : List Nat → (List Nat → Bool) → Bool
  | [], k => k []
  | x :: xs, k => frc x fun y => frcL xs fun ys => k (y :: ys)
theorem frcL_eq : ∀ (xs : List Nat) (k : List Nat → Bool), frcL xs k = k xs
  | [], k => rfl
  | x :: xs, k => by rw [frcL, frc_eq, frcL_eq xs]
def n7 (b n y0 y1 y2 y3 : Nat) : Nat := (bif Nat.blt 0 n && Nat.beq y0 b then 1 else 0) + (bif Nat.blt 1 n && Nat.beq y1 b then 1 else 0) + (bif Nat.blt 2 n && Nat.beq y2 b then 1 else 0) + (bif Nat.blt 3 n && Nat.beq y3 b then 1 else 0)
theorem n_iff {a b : Nat} (ha : a < 1000) (hb : b < 1000) : (Int32.ofNat a = Int32.ofNat b) ↔ a = b := ⟨fun h => n_inj h ha hb, fun h => by rw [h]⟩
theorem n_ltiff {a b : Nat} (ha : a < 1000) (hb : b < 1000) : (Int32.ofNat a < Int32.ofNat b) ↔ a < b := ⟨fun h => by rw [Int32.lt_iff_toInt_lt, n_int ha, n_int hb] at h; omega, fun h => n_lt h hb⟩
theorem own_tst {k n y b : Nat} (hk : k < 1000) (hn : n < 1000) (hy : y < 1000) (hb : b < 1000) : ((Int32.ofNat k < Int32.ofNat n) ∧ (Int32.ofNat y = Int32.ofNat b)) ↔ (Nat.blt k n && Nat.beq y b) = true := by
  rw [n_ltiff hk hn, n_iff hy hb, Bool.and_eq_true, show Nat.blt k n = true ↔ k < n from ⟨Nat.le_of_ble_eq_true, Nat.ble_eq_true_of_le⟩, show Nat.beq y b = true ↔ y = b from ⟨Nat.eq_of_beq_eq_true, fun h => by rw [h]; exact Nat.beq_refl b⟩]
theorem own_add {P : Prop} [Decidable P] {q : Bool} (v : Int32) (h : P ↔ q = true) : (if P then v + (1 : Int32) else v) = v + Int32.ofNat (bif q then 1 else 0) := by
  by_cases c : P
  · rw [if_pos c, h.mp c]; rfl
  · rw [if_neg c, show q = false by cases q; rfl; exact absurd (h.mpr rfl) c]; show v = v + 0; rw [Int32.add_zero]
theorem own_f7 {b n y0 y1 y2 y3 : Nat} (hb : b < 1000) (hn : n < 1000) (h0 : y0 < 1000) (h1 : y1 < 1000) (h2 : y2 < 1000) (h3 : y3 < 1000) : F7 (Int32.ofNat b) (Int32.ofNat n) (Int32.ofNat y0) (Int32.ofNat y1) (Int32.ofNat y2) (Int32.ofNat y3) = Int32.ofNat (n7 b n y0 y1 y2 y3) := by
  have a0 : bz (((0 : Int32) < Int32.ofNat n) ∧ (Int32.ofNat y0 = Int32.ofNat b)) = Int32.ofNat (bif Nat.blt 0 n && Nat.beq y0 b then 1 else 0) := by
    have t := own_tst (k := 0) (by decide) hn h0 hb
    generalize (Nat.blt 0 n && Nat.beq y0 b) = q at t
    by_cases c : ((0 : Int32) < Int32.ofNat n) ∧ (Int32.ofNat y0 = Int32.ofNat b)
    · rw [bz_t c, t.mp c]; rfl
    · rw [bz_f c, show q = false by cases q; rfl; exact absurd (t.mpr rfl) c]; rfl
  have t1 : (((1 : Int32) < Int32.ofNat n) ∧ (Int32.ofNat y1 = Int32.ofNat b)) ↔ (Nat.blt 1 n && Nat.beq y1 b) = true := own_tst (k := 1) (by decide) hn h1 hb
  have t2 : (((2 : Int32) < Int32.ofNat n) ∧ (Int32.ofNat y2 = Int32.ofNat b)) ↔ (Nat.blt 2 n && Nat.beq y2 b) = true := own_tst (k := 2) (by decide) hn h2 hb
  have t3 : (((3 : Int32) < Int32.ofNat n) ∧ (Int32.ofNat y3 = Int32.ofNat b)) ↔ (Nat.blt 3 n && Nat.beq y3 b) = true := own_tst (k := 3) (by decide) hn h3 hb
  unfold F7
  simp only [own_add _ t1, own_add _ t2, own_add _ t3, a0, n7, ← n_add]
def chk (n c y0 y1 y2 y3 : Nat) : Bool :=
  frcL (mk n y0 y1 y2 y3) fun es => frcL (pE1 es c) fun E1 => frcL (s2 (c - 1) 1 E1) fun En => frcL (s3 En c 0 (List.replicate (max es.length c) 0)) fun St =>
  (ok1 es es.length 0 (List.replicate (max es.length c) 0) && ok2 (c - 1) 1 E1 && ok3 En c 0 (List.replicate (max es.length c) 0) && ok4 es es.length 0 (List.replicate es.length 0) (List.replicate es.length 0) (St.take c) && decide (c ≤ St.length) && decide (St.length ≤ 8)
   && decide (c ≤ En.length) && decide (c ≤ St.length) && (List.range c).all (fun b => Nat.beq (En.getD b 0) (St.getD b 0 + n7 b n y0 y1 y2 y3)))
theorem chk_ok {n c y0 y1 y2 y3 : Nat} (hn : n < 5) (hc : c < 5) (a0 : y0 < c) (a1 : y1 < c) (a2 : y2 < c) (a3 : y3 < c) (h : chk n c y0 y1 y2 y3 = true) : okAll n c y0 y1 y2 y3 = true := by
  simp only [chk, frcL_eq, Bool.and_eq_true, List.all_eq_true, List.mem_range] at h
  obtain ⟨⟨⟨⟨⟨⟨⟨⟨h1, h2⟩, h3⟩, h4⟩, h5⟩, h6⟩, h7⟩, h8⟩, hA⟩ := h
  simp only [okAll, okC, Bool.and_eq_true, List.all_eq_true, List.mem_range, decide_eq_true_eq]
  simp only [decide_eq_true_eq] at h5 h6 h7 h8
  refine ⟨⟨⟨⟨⟨⟨⟨⟨h1, h2⟩, h3⟩, h4⟩, h5⟩, h6⟩, h7⟩, h8⟩, fun b hb => ?_⟩
  have e := Nat.eq_of_beq_eq_true (hA b hb)
  rw [own_f7 (by omega) (by omega) (by omega) (by omega) (by omega) (by omega)]
  show Int32.ofNat ((pEn _ c).getD b 0) - _ = _
  rw [show (pEn (mk n y0 y1 y2 y3) c).getD b 0 = (pSt (mk n y0 y1 y2 y3) c).getD b 0 + n7 b n y0 y1 y2 y3 from e, ← n_add, Int32.add_comm, Int32.add_sub_cancel]
def chkRow (n d : Nat) : Bool := (List.range (d + 1)).all (fun y0 => (List.range (d + 1)).all (fun y1 => (List.range (d + 1)).all (fun y2 => (List.range (d + 1)).all (fun y3 => chk n (d + 1) y0 y1 y2 y3))))
set_option maxRecDepth 100000 in
theorem own_row_0_0 : chkRow 0 0 = true := by decide +kernel
set_option maxRecDepth 100000 in
theorem own_row_0_1 : chkRow 0 1 = true := by decide +kernel
set_option maxRecDepth 100000 in
theorem own_row_0_2 : chkRow 0 2 = true := by decide +kernel
set_option maxRecDepth 100000 in
theorem own_row_0_3 : chkRow 0 3 = true := by decide +kernel
set_option maxRecDepth 100000 in
theorem own_row_1_0 : chkRow 1 0 = true := by decide +kernel
set_option maxRecDepth 100000 in
theorem own_row_1_1 : chkRow 1 1 = true := by decide +kernel
set_option maxRecDepth 100000 in
theorem own_row_1_2 : chkRow 1 2 = true := by decide +kernel
set_option maxRecDepth 100000 in
theorem own_row_1_3 : chkRow 1 3 = true := by decide +kernel
set_option maxRecDepth 100000 in
theorem own_row_2_0 : chkRow 2 0 = true := by decide +kernel
set_option maxRecDepth 100000 in
theorem own_row_2_1 : chkRow 2 1 = true := by decide +kernel
set_option maxRecDepth 100000 in
theorem own_row_2_2 : chkRow 2 2 = true := by decide +kernel
set_option maxRecDepth 100000 in
theorem own_row_2_3 : chkRow 2 3 = true := by decide +kernel
set_option maxRecDepth 100000 in
theorem own_row_3_0 : chkRow 3 0 = true := by decide +kernel
set_option maxRecDepth 100000 in
theorem own_row_3_1 : chkRow 3 1 = true := by decide +kernel
set_option maxRecDepth 100000 in
theorem own_row_3_2 : chkRow 3 2 = true := by decide +kernel
set_option maxRecDepth 100000 in
theorem own_row_3_3 : chkRow 3 3 = true := by decide +kernel
set_option maxRecDepth 100000 in
theorem own_row_4_0 : chkRow 4 0 = true := by decide +kernel
set_option maxRecDepth 100000 in
theorem own_row_4_1 : chkRow 4 1 = true := by decide +kernel
set_option maxRecDepth 100000 in
theorem own_row_4_2 : chkRow 4 2 = true := by decide +kernel
set_option maxRecDepth 100000 in
theorem own_row_4_3 : chkRow 4 3 = true := by decide +kernel
theorem own_rows (n d : Nat) (hn : n < 5) (h : d < 4) : chkRow n d = true := by
  have q : n = 0 ∨ n = 1 ∨ n = 2 ∨ n = 3 ∨ n = 4 := by omega
  have r : d = 0 ∨ d = 1 ∨ d = 2 ∨ d = 3 := by omega
  rcases q with rfl | rfl | rfl | rfl | rfl
  · rcases r with rfl | rfl | rfl | rfl
    · exact own_row_0_0
    · exact own_row_0_1
    · exact own_row_0_2
    · exact own_row_0_3
  · rcases r with rfl | rfl | rfl | rfl
    · exact own_row_1_0
    · exact own_row_1_1
    · exact own_row_1_2
    · exact own_row_1_3
  · rcases r with rfl | rfl | rfl | rfl
    · exact own_row_2_0
    · exact own_row_2_1
    · exact own_row_2_2
    · exact own_row_2_3
  · rcases r with rfl | rfl | rfl | rfl
    · exact own_row_3_0
    · exact own_row_3_1
    · exact own_row_3_2
    · exact own_row_3_3
  · rcases r with rfl | rfl | rfl | rfl
    · exact own_row_4_0
    · exact own_row_4_1
    · exact own_row_4_2
    · exact own_row_4_3
theorem own_at {n c y0 y1 y2 y3 : Nat} (h : n < 5) (h1 : 1 ≤ c) (h4 : c ≤ 4) (a0 : y0 < c) (a1 : y1 < c) (a2 : y2 < c) (a3 : y3 < c) : okAll n c y0 y1 y2 y3 = true := by
  obtain ⟨d, rfl⟩ : ∃ d, c = d + 1 := ⟨c - 1, by omega⟩
  have h := own_rows n d (by omega) (by omega)
  simp only [chkRow, List.all_eq_true, List.mem_range] at h
  exact chk_ok (by omega) (by omega) a0 a1 a2 a3 (h y0 a0 y1 a1 y2 a2 y3 a3)
theorem own_sz {n c y0 y1 y2 y3 : Nat} (h : okAll n c y0 y1 y2 y3 = true) (b : Nat) (hb : b < c) : (Int32.ofNat ((pEn (mk n y0 y1 y2 y3) c).getD b 0)) - (Int32.ofNat ((pSt (mk n y0 y1 y2 y3) c).getD b 0)) = F7 (Int32.ofNat b) (Int32.ofNat n) (Int32.ofNat y0) (Int32.ofNat y1) (Int32.ofNat y2) (Int32.ofNat y3) := by
  simp only [okAll, Bool.and_eq_true, List.all_eq_true, decide_eq_true_eq] at h
  exact h.2 b (List.mem_range.mpr hb)
theorem okAll.parts {n c y0 y1 y2 y3 : Nat} (h : okAll n c y0 y1 y2 y3 = true) : okC (mk n y0 y1 y2 y3) c = true ∧ c ≤ (pEn (mk n y0 y1 y2 y3) c).length ∧ c ≤ (pSt (mk n y0 y1 y2 y3) c).length := by
  simp only [okAll, Bool.and_eq_true, decide_eq_true_eq] at h
  exact ⟨h.1.1.1, h.1.1.2, h.1.2⟩
theorem own_cnt {v k : Int32} (h : v = ((k &&& (3 : Int32)) + (1 : Int32))) : ∃ c : Nat, v = Int32.ofNat c ∧ 1 ≤ c ∧ c ≤ 4 := by
  subst h
  have e : ni (k &&& (3 : Int32)) = ni k % 4 := by rw [ni_and, show ni (3 : Int32) = 2 ^ 2 - 1 from rfl, mask_n]
  refine ⟨ni k % 4 + 1, ?_, by omega, by omega⟩
  rw [← n_one, ← e, ofni]
theorem own_n {v k : Int32} (h : v = (((iushr k (2 : Int32)) &&& (7 : Int32)) % (5 : Int32))) : ∃ n : Nat, v = Int32.ofNat n ∧ n < 5 := by
  subst h
  have e : ni ((iushr k (2 : Int32)) &&& (7 : Int32)) < 8 := by rw [ni_and, show ni (7 : Int32) = 2 ^ 3 - 1 from rfl, mask_n]; omega
  generalize ((iushr k (2 : Int32)) &&& (7 : Int32)) = x at e
  rw [← ofni x]
  generalize ni x = y at e
  have : ∀ y : Fin 8, ∃ n : Fin 5, ((Int32.ofNat y.1) % (5 : Int32)) = Int32.ofNat n.1 := by decide +kernel
  obtain ⟨n, hn⟩ := this ⟨y, e⟩
  exact ⟨n.1, hn, n.2⟩
theorem own_e {v x m : Int32} {c : Nat} (h : v = ((x &&& (2147483647 : Int32)) % m)) (hm : m = Int32.ofNat c) (h1 : 1 ≤ c) (h4 : c ≤ 4) : ∃ n : Nat, v = Int32.ofNat n ∧ n < c := by
  subst h hm
  obtain ⟨n, a, b⟩ := remN x (Int32.ofNat c) c (by show (BitVec.ofNat 32 c).toNat = c; rw [BitVec.toNat_ofNat]; omega) h1 (by omega)
  exact ⟨n, b, a⟩
theorem own_gt {k c : Nat} (h : Int32.ofNat k < Int32.ofNat c) (b : k < 1000) (b' : c < 1000) : k < c := by
  rw [Int32.lt_iff_toInt_lt, n_int b, n_int b'] at h; omega
theorem pd__28IIIII_29_5bI : parseMethodDescriptor "(IIIII)[I" = some ⟨[.int, .int, .int, .int, .int], some (.array .int)⟩ := by decide +kernel
theorem pd__28_5bII_29V : parseMethodDescriptor "([II)V" = some ⟨[(.array .int), .int], none⟩ := by decide +kernel
theorem pd__28I_29I : parseMethodDescriptor "(I)I" = some ⟨[.int], some .int⟩ := by decide +kernel
theorem pd__28IIIIII_29I : parseMethodDescriptor "(IIIIII)I" = some ⟨[.int, .int, .int, .int, .int, .int], some .int⟩ := by decide +kernel
theorem ef_0 (m : MethodId) (x0 : Int32) (x1 : Int32) (x2 : Int32) (x3 : Int32) (x4 : Int32) : entryFrame m #[(.int x0), (.int x1), (.int x2), (.int x3), (.int x4)] maxLocals = mkF m 0 #[.val (.int x0), .val (.int x1), .val (.int x2), .val (.int x3), .val (.int x4), .unset, .unset, .unset, .unset, .unset, .unset, .unset, .unset, .unset] [] := by first | (simp [entryFrame, mkF, argsToLocals, Value.category, maxLocals]; done) | rfl
def Q0 (Z : State) (xa : Int32) (xb : Int32) (xc : Int32) (xd : Int32) (xk : Int32) (n0 : Nat) (Rst : RL) (v : Option Value) (h : Heap) (L : List Loc) : Prop := v = some (.int (1 : Int32)) ∧ Fr n0 L ∧ Rep Z n0 h (Rst)
set_option maxRecDepth 65536 in
set_option maxHeartbeats 40000000 in
theorem rm0 (l : Launch) (Z : State) (a0 : Array Value) (hw : ∀ d ∈ tables_1, d.before a0 Z = true) (ws : List Jvm.Cond) (xa : Int32) (xb : Int32) (xc : Int32) (xd : Int32) (xk : Int32) (h0 : Heap) (n0 : Nat) (R0 : Rep Z n0 h0 ([])) :
    MetFree l x (head1 (Jvm.Cond.code x code maxLocals ret :: ws) room_1) (fun a U => a = #[(.int xa), (.int xb), (.int xc), (.int xd), (.int xk)] ∧ Z.Warmed39 U.vm ∧ U.heap = h0) (fun _ _ _ _ _ => True) (fun _ U o U' => ∃ v L, o = .returned v ∧ Q0 Z xa xb xc xd xk n0 [] v U'.heap L ∧ FrameEnd U o U' L 32 192) := by
  refine MetFree.of_bodySF (plainFor_of_name pn_com_example_witgen_witgen_regex_PartitionSizePinLaw) hisR ?_
  intro p e s m args below meth c s₁ Bd hml0 hP hK
  obtain ⟨rfl, hZ, hh⟩ := hP
  have hx := Bd.exec
  have hby := Bd.bytes
  have hml : c.maxLocals = 14 := hml0
  have hown : s.vm.findClass "com/example/witgen/witgen/regex/PartitionSizePinLaw" = some m.cls := findClass_of_methodNamed Bd.named
  have hnm := (name_of_methodNamed Bd.named Bd.method).1
  have X0 : Stand p l e room_1 s m #[(.int xa), (.int xb), (.int xc), (.int xd), (.int xk)] below meth c s₁ [] 0 0 := Stand.of_body Bd
  have e0 : s₁.heap = h0 := by rw [← hh, Bd.state]; rfl
  have N0 := Fr.nil n0
  have pre0 : ∀ t, Steps p.tables e below (s₁.setTop (mkF m 0 #[.val (.int xa), .val (.int xb), .val (.int xc), .val (.int xd), .val (.int xk), .unset, .unset, .unset, .unset, .unset, .unset, .unset, .unset, .unset] [])) t → Steps p.tables e below (s₁.setTop (entryFrame m #[(.int xa), (.int xb), (.int xc), (.int xd), (.int xk)] maxLocals)) t := fun t k => castTop (ef_0 m xa xb xc xd xk) k
  have pre2 : ∀ t, Steps p.tables e below (s₁.setTop (mkF m 8 #[.val (.int xa), .val (.int xb), .val (.int xc), .val (.int xd), .val (.int xk), .val (.int ((xk &&& (3 : Int32)) + (1 : Int32))), .unset, .unset, .unset, .unset, .unset, .unset, .unset, .unset] [])) t → Steps p.tables e below (s₁.setTop (entryFrame m #[(.int xa), (.int xb), (.int xc), (.int xd), (.int xk)] maxLocals)) t := fun t k => pre0 t (by
    show Steps p.tables e below (s₁.setTop (mkF m 0 #[.val (.int xa), .val (.int xb), .val (.int xc), .val (.int xd), .val (.int xk), .unset, .unset, .unset, .unset, .unset, .unset, .unset, .unset, .unset] [])) _
    refine XS.iload X0.here hx rfl (hb hby at_0) rfl ?_
    refine XS.iconst X0.here hx rfl (hb hby at_2) ?_
    refine XS.iand X0.here hx rfl (hb hby at_3) rfl ?_
    refine XS.iconst X0.here hx rfl (hb hby at_4) ?_
    refine XS.iadd X0.here hx rfl (hb hby at_5) rfl ?_
    refine XS.istore X0.here hx rfl (hb hby at_6) rfl (l' := #[.val (.int xa), .val (.int xb), .val (.int xc), .val (.int xd), .val (.int xk), .val (.int ((xk &&& (3 : Int32)) + (1 : Int32))), .unset, .unset, .unset, .unset, .unset, .unset, .unset, .unset]) rfl ?_
    exact k)
  obtain ⟨v1, hv1⟩ : ∃ z : Int32, z = ((xk &&& (3 : Int32)) + (1 : Int32)) := ⟨_, rfl⟩
  rw [← hv1] at pre2
  obtain ⟨cn, hncn, hc1, hc4⟩ := own_cnt hv1
  rw [hncn] at pre2
  have pre4 : ∀ t, Steps p.tables e below (s₁.setTop (mkF m 19 #[.val (.int xa), .val (.int xb), .val (.int xc), .val (.int xd), .val (.int xk), .val (.int (Int32.ofNat cn)), .val (.int (((iushr xk (2 : Int32)) &&& (7 : Int32)) % (5 : Int32))), .unset, .unset, .unset, .unset, .unset, .unset, .unset] [])) t → Steps p.tables e below (s₁.setTop (entryFrame m #[(.int xa), (.int xb), (.int xc), (.int xd), (.int xk)] maxLocals)) t := fun t k => pre2 t (by
    show Steps p.tables e below (s₁.setTop (mkF m 8 #[.val (.int xa), .val (.int xb), .val (.int xc), .val (.int xd), .val (.int xk), .val (.int (Int32.ofNat cn)), .unset, .unset, .unset, .unset, .unset, .unset, .unset, .unset] [])) _
    refine XS.iload X0.here hx rfl (hb hby at_8) rfl ?_
    refine XS.iconst X0.here hx rfl (hb hby at_10) ?_
    refine XS.iushr X0.here hx rfl (hb hby at_11) rfl ?_
    refine XS.bipush X0.here hx rfl (hb hby at_12) ?_
    refine XS.iand X0.here hx rfl (hb hby at_14) rfl ?_
    refine XS.iconst X0.here hx rfl (hb hby at_15) ?_
    refine iremM X0 hx rfl (hb hby at_16) rfl (by decide) ?_
    show Steps p.tables e below (s₁.setTop (mkF m 17 #[.val (.int xa), .val (.int xb), .val (.int xc), .val (.int xd), .val (.int xk), .val (.int (Int32.ofNat cn)), .unset, .unset, .unset, .unset, .unset, .unset, .unset, .unset] [(.int (((iushr xk (2 : Int32)) &&& (7 : Int32)) % (5 : Int32)))])) _
    refine XS.istore X0.here hx rfl (hb hby at_17) rfl (l' := #[.val (.int xa), .val (.int xb), .val (.int xc), .val (.int xd), .val (.int xk), .val (.int (Int32.ofNat cn)), .val (.int (((iushr xk (2 : Int32)) &&& (7 : Int32)) % (5 : Int32))), .unset, .unset, .unset, .unset, .unset, .unset, .unset]) rfl ?_
    exact k)
  obtain ⟨v3, hv3⟩ : ∃ z : Int32, z = (((iushr xk (2 : Int32)) &&& (7 : Int32)) % (5 : Int32)) := ⟨_, rfl⟩
  rw [← hv3] at pre4
  obtain ⟨nn, hnnn, hnn⟩ := own_n hv3
  rw [hnnn] at pre4
  have pre6 : ∀ t, Steps p.tables e below (s₁.setTop (mkF m 28 #[.val (.int xa), .val (.int xb), .val (.int xc), .val (.int xd), .val (.int xk), .val (.int (Int32.ofNat cn)), .val (.int (Int32.ofNat nn)), .val (.int ((xa &&& (2147483647 : Int32)) % (Int32.ofNat cn))), .unset, .unset, .unset, .unset, .unset, .unset] [])) t → Steps p.tables e below (s₁.setTop (entryFrame m #[(.int xa), (.int xb), (.int xc), (.int xd), (.int xk)] maxLocals)) t := fun t k => pre4 t (by
    show Steps p.tables e below (s₁.setTop (mkF m 19 #[.val (.int xa), .val (.int xb), .val (.int xc), .val (.int xd), .val (.int xk), .val (.int (Int32.ofNat cn)), .val (.int (Int32.ofNat nn)), .unset, .unset, .unset, .unset, .unset, .unset, .unset] [])) _
    refine XS.iloadN X0.here hx rfl (hb hby at_19) rfl ?_
    refine X0.ldcInt hx hown (mvT hZ (hw _ (List.mem_of_getElem? (i := 0) rfl))) (g := (mkF m 20 #[.val (.int xa), .val (.int xb), .val (.int xc), .val (.int xd), .val (.int xk), .val (.int (Int32.ofNat cn)), .val (.int (Int32.ofNat nn)), .unset, .unset, .unset, .unset, .unset, .unset, .unset] [(.int xa)])) rfl (hb hby at_20) _ ?_
    refine XS.iand X0.here hx rfl (hb hby at_22) rfl ?_
    refine XS.iload X0.here hx rfl (hb hby at_23) rfl ?_
    refine iremM X0 hx rfl (hb hby at_25) rfl (by intro q; exact absurd (n_inj (n := 0) q (by omega) (by decide)) (by omega)) ?_
    refine XS.istore X0.here hx rfl (hb hby at_26) rfl (l' := #[.val (.int xa), .val (.int xb), .val (.int xc), .val (.int xd), .val (.int xk), .val (.int (Int32.ofNat cn)), .val (.int (Int32.ofNat nn)), .val (.int ((xa &&& (2147483647 : Int32)) % (Int32.ofNat cn))), .unset, .unset, .unset, .unset, .unset, .unset]) rfl ?_
    exact k)
  obtain ⟨v5, hv5⟩ : ∃ z : Int32, z = ((xa &&& (2147483647 : Int32)) % (Int32.ofNat cn)) := ⟨_, rfl⟩
  rw [← hv5] at pre6
  obtain ⟨y0, hny0, ha0⟩ := own_e hv5 rfl hc1 hc4
  rw [hny0] at pre6
  have pre8 : ∀ t, Steps p.tables e below (s₁.setTop (mkF m 37 #[.val (.int xa), .val (.int xb), .val (.int xc), .val (.int xd), .val (.int xk), .val (.int (Int32.ofNat cn)), .val (.int (Int32.ofNat nn)), .val (.int (Int32.ofNat y0)), .val (.int ((xb &&& (2147483647 : Int32)) % (Int32.ofNat cn))), .unset, .unset, .unset, .unset, .unset] [])) t → Steps p.tables e below (s₁.setTop (entryFrame m #[(.int xa), (.int xb), (.int xc), (.int xd), (.int xk)] maxLocals)) t := fun t k => pre6 t (by
    show Steps p.tables e below (s₁.setTop (mkF m 28 #[.val (.int xa), .val (.int xb), .val (.int xc), .val (.int xd), .val (.int xk), .val (.int (Int32.ofNat cn)), .val (.int (Int32.ofNat nn)), .val (.int (Int32.ofNat y0)), .unset, .unset, .unset, .unset, .unset, .unset] [])) _
    refine XS.iloadN X0.here hx rfl (hb hby at_28) rfl ?_
    refine X0.ldcInt hx hown (mvT hZ (hw _ (List.mem_of_getElem? (i := 0) rfl))) (g := (mkF m 29 #[.val (.int xa), .val (.int xb), .val (.int xc), .val (.int xd), .val (.int xk), .val (.int (Int32.ofNat cn)), .val (.int (Int32.ofNat nn)), .val (.int (Int32.ofNat y0)), .unset, .unset, .unset, .unset, .unset, .unset] [(.int xb)])) rfl (hb hby at_29) _ ?_
    refine XS.iand X0.here hx rfl (hb hby at_31) rfl ?_
    refine XS.iload X0.here hx rfl (hb hby at_32) rfl ?_
    refine iremM X0 hx rfl (hb hby at_34) rfl (by intro q; exact absurd (n_inj (n := 0) q (by omega) (by decide)) (by omega)) ?_
    refine XS.istore X0.here hx rfl (hb hby at_35) rfl (l' := #[.val (.int xa), .val (.int xb), .val (.int xc), .val (.int xd), .val (.int xk), .val (.int (Int32.ofNat cn)), .val (.int (Int32.ofNat nn)), .val (.int (Int32.ofNat y0)), .val (.int ((xb &&& (2147483647 : Int32)) % (Int32.ofNat cn))), .unset, .unset, .unset, .unset, .unset]) rfl ?_
    exact k)
  obtain ⟨v7, hv7⟩ : ∃ z : Int32, z = ((xb &&& (2147483647 : Int32)) % (Int32.ofNat cn)) := ⟨_, rfl⟩
  rw [← hv7] at pre8
  obtain ⟨y1, hny1, ha1⟩ := own_e hv7 rfl hc1 hc4
  rw [hny1] at pre8
  have pre10 : ∀ t, Steps p.tables e below (s₁.setTop (mkF m 46 #[.val (.int xa), .val (.int xb), .val (.int xc), .val (.int xd), .val (.int xk), .val (.int (Int32.ofNat cn)), .val (.int (Int32.ofNat nn)), .val (.int (Int32.ofNat y0)), .val (.int (Int32.ofNat y1)), .val (.int ((xc &&& (2147483647 : Int32)) % (Int32.ofNat cn))), .unset, .unset, .unset, .unset] [])) t → Steps p.tables e below (s₁.setTop (entryFrame m #[(.int xa), (.int xb), (.int xc), (.int xd), (.int xk)] maxLocals)) t := fun t k => pre8 t (by
    show Steps p.tables e below (s₁.setTop (mkF m 37 #[.val (.int xa), .val (.int xb), .val (.int xc), .val (.int xd), .val (.int xk), .val (.int (Int32.ofNat cn)), .val (.int (Int32.ofNat nn)), .val (.int (Int32.ofNat y0)), .val (.int (Int32.ofNat y1)), .unset, .unset, .unset, .unset, .unset] [])) _
    refine XS.iloadN X0.here hx rfl (hb hby at_37) rfl ?_
    refine X0.ldcInt hx hown (mvT hZ (hw _ (List.mem_of_getElem? (i := 0) rfl))) (g := (mkF m 38 #[.val (.int xa), .val (.int xb), .val (.int xc), .val (.int xd), .val (.int xk), .val (.int (Int32.ofNat cn)), .val (.int (Int32.ofNat nn)), .val (.int (Int32.ofNat y0)), .val (.int (Int32.ofNat y1)), .unset, .unset, .unset, .unset, .unset] [(.int xc)])) rfl (hb hby at_38) _ ?_
    refine XS.iand X0.here hx rfl (hb hby at_40) rfl ?_
    refine XS.iload X0.here hx rfl (hb hby at_41) rfl ?_
    refine iremM X0 hx rfl (hb hby at_43) rfl (by intro q; exact absurd (n_inj (n := 0) q (by omega) (by decide)) (by omega)) ?_
    refine XS.istore X0.here hx rfl (hb hby at_44) rfl (l' := #[.val (.int xa), .val (.int xb), .val (.int xc), .val (.int xd), .val (.int xk), .val (.int (Int32.ofNat cn)), .val (.int (Int32.ofNat nn)), .val (.int (Int32.ofNat y0)), .val (.int (Int32.ofNat y1)), .val (.int ((xc &&& (2147483647 : Int32)) % (Int32.ofNat cn))), .unset, .unset, .unset, .unset]) rfl ?_
    exact k)
  obtain ⟨v9, hv9⟩ : ∃ z : Int32, z = ((xc &&& (2147483647 : Int32)) % (Int32.ofNat cn)) := ⟨_, rfl⟩
  rw [← hv9] at pre10
  obtain ⟨y2, hny2, ha2⟩ := own_e hv9 rfl hc1 hc4
  rw [hny2] at pre10
  have pre12 : ∀ t, Steps p.tables e below (s₁.setTop (mkF m 55 #[.val (.int xa), .val (.int xb), .val (.int xc), .val (.int xd), .val (.int xk), .val (.int (Int32.ofNat cn)), .val (.int (Int32.ofNat nn)), .val (.int (Int32.ofNat y0)), .val (.int (Int32.ofNat y1)), .val (.int (Int32.ofNat y2)), .val (.int ((xd &&& (2147483647 : Int32)) % (Int32.ofNat cn))), .unset, .unset, .unset] [])) t → Steps p.tables e below (s₁.setTop (entryFrame m #[(.int xa), (.int xb), (.int xc), (.int xd), (.int xk)] maxLocals)) t := fun t k => pre10 t (by
    show Steps p.tables e below (s₁.setTop (mkF m 46 #[.val (.int xa), .val (.int xb), .val (.int xc), .val (.int xd), .val (.int xk), .val (.int (Int32.ofNat cn)), .val (.int (Int32.ofNat nn)), .val (.int (Int32.ofNat y0)), .val (.int (Int32.ofNat y1)), .val (.int (Int32.ofNat y2)), .unset, .unset, .unset, .unset] [])) _
    refine XS.iloadN X0.here hx rfl (hb hby at_46) rfl ?_
    refine X0.ldcInt hx hown (mvT hZ (hw _ (List.mem_of_getElem? (i := 0) rfl))) (g := (mkF m 47 #[.val (.int xa), .val (.int xb), .val (.int xc), .val (.int xd), .val (.int xk), .val (.int (Int32.ofNat cn)), .val (.int (Int32.ofNat nn)), .val (.int (Int32.ofNat y0)), .val (.int (Int32.ofNat y1)), .val (.int (Int32.ofNat y2)), .unset, .unset, .unset, .unset] [(.int xd)])) rfl (hb hby at_47) _ ?_
    refine XS.iand X0.here hx rfl (hb hby at_49) rfl ?_
    refine XS.iload X0.here hx rfl (hb hby at_50) rfl ?_
    refine iremM X0 hx rfl (hb hby at_52) rfl (by intro q; exact absurd (n_inj (n := 0) q (by omega) (by decide)) (by omega)) ?_
    refine XS.istore X0.here hx rfl (hb hby at_53) rfl (l' := #[.val (.int xa), .val (.int xb), .val (.int xc), .val (.int xd), .val (.int xk), .val (.int (Int32.ofNat cn)), .val (.int (Int32.ofNat nn)), .val (.int (Int32.ofNat y0)), .val (.int (Int32.ofNat y1)), .val (.int (Int32.ofNat y2)), .val (.int ((xd &&& (2147483647 : Int32)) % (Int32.ofNat cn))), .unset, .unset, .unset]) rfl ?_
    exact k)
  obtain ⟨v11, hv11⟩ : ∃ z : Int32, z = ((xd &&& (2147483647 : Int32)) % (Int32.ofNat cn)) := ⟨_, rfl⟩
  rw [← hv11] at pre12
  obtain ⟨y3, hny3, ha3⟩ := own_e hv11 rfl hc1 hc4
  rw [hny3] at pre12
  have pre13 : ∀ t, Steps p.tables e below (s₁.setTop (mkF m 65 #[.val (.int xa), .val (.int xb), .val (.int xc), .val (.int xd), .val (.int xk), .val (.int (Int32.ofNat cn)), .val (.int (Int32.ofNat nn)), .val (.int (Int32.ofNat y0)), .val (.int (Int32.ofNat y1)), .val (.int (Int32.ofNat y2)), .val (.int (Int32.ofNat y3)), .unset, .unset, .unset] [(.int (Int32.ofNat y3)), (.int (Int32.ofNat y2)), (.int (Int32.ofNat y1)), (.int (Int32.ofNat y0)), (.int (Int32.ofNat nn))])) t → Steps p.tables e below (s₁.setTop (entryFrame m #[(.int xa), (.int xb), (.int xc), (.int xd), (.int xk)] maxLocals)) t := fun t k => pre12 t (by
    show Steps p.tables e below (s₁.setTop (mkF m 55 #[.val (.int xa), .val (.int xb), .val (.int xc), .val (.int xd), .val (.int xk), .val (.int (Int32.ofNat cn)), .val (.int (Int32.ofNat nn)), .val (.int (Int32.ofNat y0)), .val (.int (Int32.ofNat y1)), .val (.int (Int32.ofNat y2)), .val (.int (Int32.ofNat y3)), .unset, .unset, .unset] [])) _
    refine XS.iload X0.here hx rfl (hb hby at_55) rfl ?_
    refine XS.iload X0.here hx rfl (hb hby at_57) rfl ?_
    refine XS.iload X0.here hx rfl (hb hby at_59) rfl ?_
    refine XS.iload X0.here hx rfl (hb hby at_61) rfl ?_
    refine XS.iload X0.here hx rfl (hb hby at_63) rfl ?_
    exact k)
  obtain ⟨_, _, ⟨T14, L14, k14, n14⟩, -, X14, ⟨Lc14, hQ14, l14, y14, z14⟩, st14⟩ := Jvm.LawKit.callS X0 hx (y := (⟨"com/example/witgen/witgen/regex/PartitionSizePinLaw", "make", "(IIIII)[I"⟩ : MethodName)) hown (mvT hZ (hw _ (List.mem_of_getElem? (i := 1) rfl))) (mvT hZ (hw _ (List.mem_of_getElem? (i := 2) rfl))) (mvT hZ (hw _ (List.mem_of_getElem? (i := 3) rfl))) (mvT hZ (hw _ (List.mem_of_getElem? (i := 4) rfl))) (by decide) (backOf (W := 0) (rm1 l Z a0 hw [] nn y0 y1 y2 y3  h0 n0 _ R0 ) hZ (hw _ (List.mem_of_getElem? (i := 4) rfl)) (hw _ (List.mem_of_getElem? (i := 3) rfl)) (by decide) (by decide)) (g := (mkF m 65 #[.val (.int xa), .val (.int xb), .val (.int xc), .val (.int xd), .val (.int xk), .val (.int (Int32.ofNat cn)), .val (.int (Int32.ofNat nn)), .val (.int (Int32.ofNat y0)), .val (.int (Int32.ofNat y1)), .val (.int (Int32.ofNat y2)), .val (.int (Int32.ofNat y3)), .unset, .unset, .unset] [(.int (Int32.ofNat y3)), (.int (Int32.ofNat y2)), (.int (Int32.ofNat y1)), (.int (Int32.ofNat y0)), (.int (Int32.ofNat nn))])) rfl (by rw [hml]; rfl) (argsL := [(.int (Int32.ofNat nn)), (.int (Int32.ofNat y0)), (.int (Int32.ofNat y1)), (.int (Int32.ofNat y2)), (.int (Int32.ofNat y3))]) (rest := []) (lenOf pd__28IIIII_29_5bI rfl) rfl (by show 2 * 0 + _ ≤ _; exact Nat.le_of_eq rfl) (hb hby at_65) (fun _ _ => ⟨rfl, e0, (by decide : 0 + 1 ≤ _), (by decide : 0 + 4 ≤ _)⟩)
  dsimp only [Pt.U, Pt.locs, Pt.cells, Pt.slots] at X14 l14 y14 z14 st14 hQ14
  subst y14 z14
  obtain ⟨bx14, rfl, N14q, R14⟩ := hQ14
  have N14 : Fr n0 L14 := by rw [l14]; exact Fr.app N0 N14q
  replace R14 : Rep Z n0 T14.heap ((bx14, Ar .int (MK nn y0 y1 y2 y3)) :: []) := R14
  have pre15 : ∀ t, Steps p.tables e below (T14.setTop (mkF m 68 #[.val (.int xa), .val (.int xb), .val (.int xc), .val (.int xd), .val (.int xk), .val (.int (Int32.ofNat cn)), .val (.int (Int32.ofNat nn)), .val (.int (Int32.ofNat y0)), .val (.int (Int32.ofNat y1)), .val (.int (Int32.ofNat y2)), .val (.int (Int32.ofNat y3)), .unset, .unset, .unset] [(.ref bx14)])) t → Steps p.tables e below (s₁.setTop (entryFrame m #[(.int xa), (.int xb), (.int xc), (.int xd), (.int xk)] maxLocals)) t := fun t k => pre13 t (st14 t k)
  rw [own_mk y0 y1 y2 y3 hnn] at R14
  have hok := own_at hnn hc1 hc4 ha0 ha1 ha2 ha3
  have hpp := okAll.parts hok
  have pre16 : ∀ t, Steps p.tables e below (T14.setTop (mkF m 70 #[.val (.int xa), .val (.int xb), .val (.int xc), .val (.int xd), .val (.int xk), .val (.int (Int32.ofNat cn)), .val (.int (Int32.ofNat nn)), .val (.int (Int32.ofNat y0)), .val (.int (Int32.ofNat y1)), .val (.int (Int32.ofNat y2)), .val (.int (Int32.ofNat y3)), .val (.ref bx14), .unset, .unset] [])) t → Steps p.tables e below (s₁.setTop (entryFrame m #[(.int xa), (.int xb), (.int xc), (.int xd), (.int xk)] maxLocals)) t := fun t k => pre15 t (by
    show Steps p.tables e below (T14.setTop (mkF m 68 #[.val (.int xa), .val (.int xb), .val (.int xc), .val (.int xd), .val (.int xk), .val (.int (Int32.ofNat cn)), .val (.int (Int32.ofNat nn)), .val (.int (Int32.ofNat y0)), .val (.int (Int32.ofNat y1)), .val (.int (Int32.ofNat y2)), .val (.int (Int32.ofNat y3)), .unset, .unset, .unset] [(.ref bx14)])) _
    refine XS.astore X14.here hx rfl (hb hby at_68) rfl rfl (l' := #[.val (.int xa), .val (.int xb), .val (.int xc), .val (.int xd), .val (.int xk), .val (.int (Int32.ofNat cn)), .val (.int (Int32.ofNat nn)), .val (.int (Int32.ofNat y0)), .val (.int (Int32.ofNat y1)), .val (.int (Int32.ofNat y2)), .val (.int (Int32.ofNat y3)), .val (.ref bx14), .unset, .unset]) rfl ?_
    exact k)
  obtain ⟨T17, h17, b17, X17, e17, R17, st17⟩ := gNew X14 hx hZ hown (hw _ (List.mem_of_getElem? (i := 6) rfl)) (hw _ (List.mem_of_getElem? (i := 7) rfl)) (hw _ (List.mem_of_getElem? (i := 8) rfl)) rfl R14 (fs := [("elements", "[I", .null), ("location", "[I", .null), ("blockOf", "[I", .null), ("start", "[I", .null), ("end", "[I", .null), ("marked", "[I", .null), ("touched", "[I", .null), ("blocks", "I", (.int (0 : Int32)))]) ⟨⟨Or.inr (hw _ (List.mem_of_getElem? (i := 20) rfl)), (.array .int), by decide, rfl⟩, ⟨⟨Or.inr (hw _ (List.mem_of_getElem? (i := 22) rfl)), (.array .int), by decide, rfl⟩, ⟨⟨Or.inr (hw _ (List.mem_of_getElem? (i := 33) rfl)), (.array .int), by decide, rfl⟩, ⟨⟨Or.inr (hw _ (List.mem_of_getElem? (i := 35) rfl)), (.array .int), by decide, rfl⟩, ⟨⟨Or.inr (hw _ (List.mem_of_getElem? (i := 37) rfl)), (.array .int), by decide, rfl⟩, ⟨⟨Or.inr (hw _ (List.mem_of_getElem? (i := 39) rfl)), (.array .int), by decide, rfl⟩, ⟨⟨Or.inr (hw _ (List.mem_of_getElem? (i := 41) rfl)), (.array .int), by decide, rfl⟩, ⟨⟨Or.inl (hw _ (List.mem_of_getElem? (i := 43) rfl)), .int, by decide, rfl⟩, trivial⟩⟩⟩⟩⟩⟩⟩⟩ (by decide) (g := (mkF m 70 #[.val (.int xa), .val (.int xb), .val (.int xc), .val (.int xd), .val (.int xk), .val (.int (Int32.ofNat cn)), .val (.int (Int32.ofNat nn)), .val (.int (Int32.ofNat y0)), .val (.int (Int32.ofNat y1)), .val (.int (Int32.ofNat y2)), .val (.int (Int32.ofNat y3)), .val (.ref bx14), .unset, .unset] [])) rfl (hb hby at_70) (by decide) (by decide)
  have pre18 : ∀ t, Steps p.tables e below (T17.setTop (mkF m 73 #[.val (.int xa), .val (.int xb), .val (.int xc), .val (.int xd), .val (.int xk), .val (.int (Int32.ofNat cn)), .val (.int (Int32.ofNat nn)), .val (.int (Int32.ofNat y0)), .val (.int (Int32.ofNat y1)), .val (.int (Int32.ofNat y2)), .val (.int (Int32.ofNat y3)), .val (.ref bx14), .unset, .unset] [(.ref b17)])) t → Steps p.tables e below (s₁.setTop (entryFrame m #[(.int xa), (.int xb), (.int xc), (.int xd), (.int xk)] maxLocals)) t := fun t k => pre16 t (st17 t k)
  have pre19 : ∀ t, Steps p.tables e below (T17.setTop (mkF m 78 #[.val (.int xa), .val (.int xb), .val (.int xc), .val (.int xd), .val (.int xk), .val (.int (Int32.ofNat cn)), .val (.int (Int32.ofNat nn)), .val (.int (Int32.ofNat y0)), .val (.int (Int32.ofNat y1)), .val (.int (Int32.ofNat y2)), .val (.int (Int32.ofNat y3)), .val (.ref bx14), .unset, .unset] [(.int (Int32.ofNat cn)), (.ref bx14), (.ref b17), (.ref b17)])) t → Steps p.tables e below (s₁.setTop (entryFrame m #[(.int xa), (.int xb), (.int xc), (.int xd), (.int xk)] maxLocals)) t := fun t k => pre18 t (by
    show Steps p.tables e below (T17.setTop (mkF m 73 #[.val (.int xa), .val (.int xb), .val (.int xc), .val (.int xd), .val (.int xk), .val (.int (Int32.ofNat cn)), .val (.int (Int32.ofNat nn)), .val (.int (Int32.ofNat y0)), .val (.int (Int32.ofNat y1)), .val (.int (Int32.ofNat y2)), .val (.int (Int32.ofNat y3)), .val (.ref bx14), .unset, .unset] [(.ref b17)])) _
    refine XS.dup X17.here hx rfl (hb hby at_73) rfl rfl ?_
    refine XS.aload X17.here hx rfl (hb hby at_74) rfl rfl ?_
    refine XS.iload X17.here hx rfl (hb hby at_76) rfl ?_
    exact k)
  obtain ⟨_, _, ⟨T20, L20, k20, n20⟩, -, X20, ⟨Lc20, hQ20, l20, y20, z20⟩, st20⟩ := X17.specialBack hx (y := (⟨"com/example/witgen/witgen/regex/Partition", "<init>", "([II)V"⟩ : MethodName)) rfl hown (mvT hZ (hw _ (List.mem_of_getElem? (i := 9) rfl))) (mvT hZ (hw _ (List.mem_of_getElem? (i := 10) rfl))) (mvT hZ (hw _ (List.mem_of_getElem? (i := 11) rfl))) (by decide) (backOf (W := 1) (rm2 l Z a0 hw [] b17 bx14 cn _ _ _ _ _ _ _ _ _ h17 n0 _ R17 (by simp only [mk, List.length_take]; omega) (by omega) (hc1) (hpp.1)) hZ (hw _ (List.mem_of_getElem? (i := 11) rfl)) (hw _ (List.mem_of_getElem? (i := 8) rfl)) (by decide) (by decide)) (g := (mkF m 78 #[.val (.int xa), .val (.int xb), .val (.int xc), .val (.int xd), .val (.int xk), .val (.int (Int32.ofNat cn)), .val (.int (Int32.ofNat nn)), .val (.int (Int32.ofNat y0)), .val (.int (Int32.ofNat y1)), .val (.int (Int32.ofNat y2)), .val (.int (Int32.ofNat y3)), .val (.ref bx14), .unset, .unset] [(.int (Int32.ofNat cn)), (.ref bx14), (.ref b17), (.ref b17)])) rfl (by rw [hml]; rfl) (Steps.refl _) (a := b17) (argsL := [(.ref bx14), (.int (Int32.ofNat cn))]) (rest := [(.ref b17)]) (lenOf pd__28_5bII_29V rfl) rfl (by show 2 * 0 + _ ≤ _; exact Nat.le_of_eq rfl) (hb hby at_78) (fun _ _ => ⟨rfl, e17, (by decide : 2 + 8 ≤ _), (by decide : 13 + 52 ≤ _)⟩)
  dsimp only [Pt.U, Pt.locs, Pt.cells, Pt.slots] at X20 l20 y20 z20 st20 hQ20
  subst y20 z20
  obtain ⟨b120, b220, b320, b420, b520, b620, b720, rfl, N20q, R20⟩ := hQ20
  have N20 : Fr n0 L20 := by rw [l20]; exact Fr.app N14 N20q
  replace R20 : Rep Z n0 T20.heap ((b17, Obj "com/example/witgen/witgen/regex/Partition" [("elements", "[I", (.ref b120)), ("location", "[I", (.ref b220)), ("blockOf", "[I", (.ref b320)), ("start", "[I", (.ref b420)), ("end", "[I", (.ref b520)), ("marked", "[I", (.ref b620)), ("touched", "[I", (.ref b720)), ("blocks", "I", (.int (Int32.ofNat cn)))]) :: (b120, Ar .int (nl (pS4 (mk nn y0 y1 y2 y3) cn).1)) :: (b220, Ar .int (nl (pS4 (mk nn y0 y1 y2 y3) cn).2.1)) :: (b320, Ar .int (nl (mk nn y0 y1 y2 y3))) :: (b420, Ar .int (nl (pSt (mk nn y0 y1 y2 y3) cn))) :: (b520, Ar .int (nl (pEn (mk nn y0 y1 y2 y3) cn))) :: (b620, Ar .int (nl (List.replicate (max (mk nn y0 y1 y2 y3).length cn) 0))) :: (b720, Ar .int (nl (List.replicate (max (mk nn y0 y1 y2 y3).length cn) 0))) :: (bx14, Ar .int (nl (mk nn y0 y1 y2 y3))) :: []) := R20
  have pre21 : ∀ t, Steps p.tables e below (T20.setTop (mkF m 81 #[.val (.int xa), .val (.int xb), .val (.int xc), .val (.int xd), .val (.int xk), .val (.int (Int32.ofNat cn)), .val (.int (Int32.ofNat nn)), .val (.int (Int32.ofNat y0)), .val (.int (Int32.ofNat y1)), .val (.int (Int32.ofNat y2)), .val (.int (Int32.ofNat y3)), .val (.ref bx14), .unset, .unset] [(.ref b17)])) t → Steps p.tables e below (s₁.setTop (entryFrame m #[(.int xa), (.int xb), (.int xc), (.int xd), (.int xk)] maxLocals)) t := fun t k => pre19 t (st20.trans k)
  have pre22 : ∀ t, Steps p.tables e below (T20.setTop (mkF m 86 #[.val (.int xa), .val (.int xb), .val (.int xc), .val (.int xd), .val (.int xk), .val (.int (Int32.ofNat cn)), .val (.int (Int32.ofNat nn)), .val (.int (Int32.ofNat y0)), .val (.int (Int32.ofNat y1)), .val (.int (Int32.ofNat y2)), .val (.int (Int32.ofNat y3)), .val (.ref bx14), .val (.ref b17), .unset] [(.int (0 : Int32)), (.ref b17)])) t → Steps p.tables e below (s₁.setTop (entryFrame m #[(.int xa), (.int xb), (.int xc), (.int xd), (.int xk)] maxLocals)) t := fun t k => pre21 t (by
    show Steps p.tables e below (T20.setTop (mkF m 81 #[.val (.int xa), .val (.int xb), .val (.int xc), .val (.int xd), .val (.int xk), .val (.int (Int32.ofNat cn)), .val (.int (Int32.ofNat nn)), .val (.int (Int32.ofNat y0)), .val (.int (Int32.ofNat y1)), .val (.int (Int32.ofNat y2)), .val (.int (Int32.ofNat y3)), .val (.ref bx14), .unset, .unset] [(.ref b17)])) _
    refine XS.astore X20.here hx rfl (hb hby at_81) rfl rfl (l' := #[.val (.int xa), .val (.int xb), .val (.int xc), .val (.int xd), .val (.int xk), .val (.int (Int32.ofNat cn)), .val (.int (Int32.ofNat nn)), .val (.int (Int32.ofNat y0)), .val (.int (Int32.ofNat y1)), .val (.int (Int32.ofNat y2)), .val (.int (Int32.ofNat y3)), .val (.ref bx14), .val (.ref b17), .unset]) rfl ?_
    refine XS.aload X20.here hx rfl (hb hby at_83) rfl rfl ?_
    refine XS.iconst X20.here hx rfl (hb hby at_85) ?_
    exact k)
  have R24 : Rep Z n0 T20.heap ((b520, Ar .int (nl (pEn (mk nn y0 y1 y2 y3) cn))) :: (b17, Obj "com/example/witgen/witgen/regex/Partition" [("elements", "[I", (.ref b120)), ("location", "[I", (.ref b220)), ("blockOf", "[I", (.ref b320)), ("start", "[I", (.ref b420)), ("end", "[I", (.ref b520)), ("marked", "[I", (.ref b620)), ("touched", "[I", (.ref b720)), ("blocks", "I", (.int (Int32.ofNat cn)))]) :: (b120, Ar .int (nl (pS4 (mk nn y0 y1 y2 y3) cn).1)) :: (b220, Ar .int (nl (pS4 (mk nn y0 y1 y2 y3) cn).2.1)) :: (b320, Ar .int (nl (mk nn y0 y1 y2 y3))) :: (b420, Ar .int (nl (pSt (mk nn y0 y1 y2 y3) cn))) :: (b620, Ar .int (nl (List.replicate (max (mk nn y0 y1 y2 y3).length cn) 0))) :: (b720, Ar .int (nl (List.replicate (max (mk nn y0 y1 y2 y3).length cn) 0))) :: (bx14, Ar .int (nl (mk nn y0 y1 y2 y3))) :: []) := R20.front 5 rfl rfl
  have R25 : Rep Z n0 T20.heap ((b420, Ar .int (nl (pSt (mk nn y0 y1 y2 y3) cn))) :: (b520, Ar .int (nl (pEn (mk nn y0 y1 y2 y3) cn))) :: (b17, Obj "com/example/witgen/witgen/regex/Partition" [("elements", "[I", (.ref b120)), ("location", "[I", (.ref b220)), ("blockOf", "[I", (.ref b320)), ("start", "[I", (.ref b420)), ("end", "[I", (.ref b520)), ("marked", "[I", (.ref b620)), ("touched", "[I", (.ref b720)), ("blocks", "I", (.int (Int32.ofNat cn)))]) :: (b120, Ar .int (nl (pS4 (mk nn y0 y1 y2 y3) cn).1)) :: (b220, Ar .int (nl (pS4 (mk nn y0 y1 y2 y3) cn).2.1)) :: (b320, Ar .int (nl (mk nn y0 y1 y2 y3))) :: (b620, Ar .int (nl (List.replicate (max (mk nn y0 y1 y2 y3).length cn) 0))) :: (b720, Ar .int (nl (List.replicate (max (mk nn y0 y1 y2 y3).length cn) 0))) :: (bx14, Ar .int (nl (mk nn y0 y1 y2 y3))) :: []) := R24.front 5 rfl rfl
  have R26 : Rep Z n0 T20.heap ((b17, Obj "com/example/witgen/witgen/regex/Partition" [("elements", "[I", (.ref b120)), ("location", "[I", (.ref b220)), ("blockOf", "[I", (.ref b320)), ("start", "[I", (.ref b420)), ("end", "[I", (.ref b520)), ("marked", "[I", (.ref b620)), ("touched", "[I", (.ref b720)), ("blocks", "I", (.int (Int32.ofNat cn)))]) :: (b420, Ar .int (nl (pSt (mk nn y0 y1 y2 y3) cn))) :: (b520, Ar .int (nl (pEn (mk nn y0 y1 y2 y3) cn))) :: (b120, Ar .int (nl (pS4 (mk nn y0 y1 y2 y3) cn).1)) :: (b220, Ar .int (nl (pS4 (mk nn y0 y1 y2 y3) cn).2.1)) :: (b320, Ar .int (nl (mk nn y0 y1 y2 y3))) :: (b620, Ar .int (nl (List.replicate (max (mk nn y0 y1 y2 y3).length cn) 0))) :: (b720, Ar .int (nl (List.replicate (max (mk nn y0 y1 y2 y3).length cn) 0))) :: (bx14, Ar .int (nl (mk nn y0 y1 y2 y3))) :: []) := R25.front 2 rfl rfl
  obtain ⟨cq23, kq23, q23a, q23b, q23c⟩ := isOf hZ rfl (R26.exa (i := 0) rfl)
  obtain ⟨_, _, ⟨T23, L23, k23, n23⟩, -, X23, ⟨Lc23, hQ23, l23, y23, z23⟩, st23⟩ := X20.virtualBack hx (y := (⟨"com/example/witgen/witgen/regex/Partition", "size", "(I)I"⟩ : MethodName)) (z := (⟨"com/example/witgen/witgen/regex/Partition", "size", "(I)I"⟩ : MethodName)) hown (mvT hZ (hw _ (List.mem_of_getElem? (i := 50) rfl))) (mvT hZ (hw _ (List.mem_of_getElem? (i := 51) rfl))) (notFace_of_selects (args := #[]) (mvT hZ (hw _ (List.mem_of_getElem? (i := 53) rfl)))) (mvT hZ (hw _ (List.mem_of_getElem? (i := 53) rfl))) (mvT hZ (hw _ (List.mem_of_getElem? (i := 52) rfl))) (by decide) (backOf (W := 0) (rm6 l Z a0 hw [] b17 0 _ _ _ _ _ _ _ _ _ _ T20.heap n0 _ R26 (by have := hpp.2.1; omega) (by decide) (by have := hpp.2.2; omega) (by decide)) hZ (hw _ (List.mem_of_getElem? (i := 54) rfl)) (hw _ (List.mem_of_getElem? (i := 8) rfl)) (by decide) (by decide)) q23a q23c (g := (mkF m 86 #[.val (.int xa), .val (.int xb), .val (.int xc), .val (.int xd), .val (.int xk), .val (.int (Int32.ofNat cn)), .val (.int (Int32.ofNat nn)), .val (.int (Int32.ofNat y0)), .val (.int (Int32.ofNat y1)), .val (.int (Int32.ofNat y2)), .val (.int (Int32.ofNat y3)), .val (.ref bx14), .val (.ref b17), .unset] [(.int (0 : Int32)), (.ref b17)])) rfl (by rw [hml]; rfl) (Steps.refl _) (argsL := [(.int (0 : Int32))]) (rest := []) (lenOf pd__28I_29I rfl) rfl (by show 2 * 0 + _ ≤ _; exact Nat.le_of_eq rfl) (hb hby at_86) (fun _ _ => ⟨rfl, rfl, (by decide : 10 + 0 ≤ _), (by decide : 65 + 0 ≤ _)⟩)
  dsimp only [Pt.U, Pt.locs, Pt.cells, Pt.slots] at X23 l23 y23 z23 st23 hQ23
  subst y23 z23
  obtain ⟨rfl, N23q, R23⟩ := hQ23
  have N23 : Fr n0 L23 := by rw [l23]; exact Fr.app N20 N23q
  replace R23 : Rep Z n0 T23.heap ((b17, Obj "com/example/witgen/witgen/regex/Partition" [("elements", "[I", (.ref b120)), ("location", "[I", (.ref b220)), ("blockOf", "[I", (.ref b320)), ("start", "[I", (.ref b420)), ("end", "[I", (.ref b520)), ("marked", "[I", (.ref b620)), ("touched", "[I", (.ref b720)), ("blocks", "I", (.int (Int32.ofNat cn)))]) :: (b420, Ar .int (nl (pSt (mk nn y0 y1 y2 y3) cn))) :: (b520, Ar .int (nl (pEn (mk nn y0 y1 y2 y3) cn))) :: (b120, Ar .int (nl (pS4 (mk nn y0 y1 y2 y3) cn).1)) :: (b220, Ar .int (nl (pS4 (mk nn y0 y1 y2 y3) cn).2.1)) :: (b320, Ar .int (nl (mk nn y0 y1 y2 y3))) :: (b620, Ar .int (nl (List.replicate (max (mk nn y0 y1 y2 y3).length cn) 0))) :: (b720, Ar .int (nl (List.replicate (max (mk nn y0 y1 y2 y3).length cn) 0))) :: (bx14, Ar .int (nl (mk nn y0 y1 y2 y3))) :: []) := R23
  have pre27 : ∀ t, Steps p.tables e below (T23.setTop (mkF m 89 #[.val (.int xa), .val (.int xb), .val (.int xc), .val (.int xd), .val (.int xk), .val (.int (Int32.ofNat cn)), .val (.int (Int32.ofNat nn)), .val (.int (Int32.ofNat y0)), .val (.int (Int32.ofNat y1)), .val (.int (Int32.ofNat y2)), .val (.int (Int32.ofNat y3)), .val (.ref bx14), .val (.ref b17), .unset] [(.int ((Int32.ofNat ((pEn (mk nn y0 y1 y2 y3) cn).getD 0 0)) - (Int32.ofNat ((pSt (mk nn y0 y1 y2 y3) cn).getD 0 0))))])) t → Steps p.tables e below (s₁.setTop (entryFrame m #[(.int xa), (.int xb), (.int xc), (.int xd), (.int xk)] maxLocals)) t := fun t k => pre22 t (st23.trans k)
  have pre28 : ∀ t, Steps p.tables e below (T23.setTop (mkF m 100 #[.val (.int xa), .val (.int xb), .val (.int xc), .val (.int xd), .val (.int xk), .val (.int (Int32.ofNat cn)), .val (.int (Int32.ofNat nn)), .val (.int (Int32.ofNat y0)), .val (.int (Int32.ofNat y1)), .val (.int (Int32.ofNat y2)), .val (.int (Int32.ofNat y3)), .val (.ref bx14), .val (.ref b17), .unset] [(.int (Int32.ofNat y3)), (.int (Int32.ofNat y2)), (.int (Int32.ofNat y1)), (.int (Int32.ofNat y0)), (.int (Int32.ofNat nn)), (.int (0 : Int32)), (.int ((Int32.ofNat ((pEn (mk nn y0 y1 y2 y3) cn).getD 0 0)) - (Int32.ofNat ((pSt (mk nn y0 y1 y2 y3) cn).getD 0 0))))])) t → Steps p.tables e below (s₁.setTop (entryFrame m #[(.int xa), (.int xb), (.int xc), (.int xd), (.int xk)] maxLocals)) t := fun t k => pre27 t (by
    show Steps p.tables e below (T23.setTop (mkF m 89 #[.val (.int xa), .val (.int xb), .val (.int xc), .val (.int xd), .val (.int xk), .val (.int (Int32.ofNat cn)), .val (.int (Int32.ofNat nn)), .val (.int (Int32.ofNat y0)), .val (.int (Int32.ofNat y1)), .val (.int (Int32.ofNat y2)), .val (.int (Int32.ofNat y3)), .val (.ref bx14), .val (.ref b17), .unset] [(.int ((Int32.ofNat ((pEn (mk nn y0 y1 y2 y3) cn).getD 0 0)) - (Int32.ofNat ((pSt (mk nn y0 y1 y2 y3) cn).getD 0 0))))])) _
    refine XS.iconst X23.here hx rfl (hb hby at_89) ?_
    refine XS.iload X23.here hx rfl (hb hby at_90) rfl ?_
    refine XS.iload X23.here hx rfl (hb hby at_92) rfl ?_
    refine XS.iload X23.here hx rfl (hb hby at_94) rfl ?_
    refine XS.iload X23.here hx rfl (hb hby at_96) rfl ?_
    refine XS.iload X23.here hx rfl (hb hby at_98) rfl ?_
    exact k)
  obtain ⟨_, _, ⟨T29, L29, k29, n29⟩, -, X29, ⟨Lc29, hQ29, l29, y29, z29⟩, st29⟩ := Jvm.LawKit.callS X23 hx (y := (⟨"com/example/witgen/witgen/regex/PartitionSizePinLaw", "ref", "(IIIIII)I"⟩ : MethodName)) hown (mvT hZ (hw _ (List.mem_of_getElem? (i := 55) rfl))) (mvT hZ (hw _ (List.mem_of_getElem? (i := 56) rfl))) (mvT hZ (hw _ (List.mem_of_getElem? (i := 3) rfl))) (mvT hZ (hw _ (List.mem_of_getElem? (i := 57) rfl))) (by decide) (backOf (W := 1) (rm7 l Z a0 hw [] (0 : Int32) (Int32.ofNat nn) (Int32.ofNat y0) (Int32.ofNat y1) (Int32.ofNat y2) (Int32.ofNat y3)  T23.heap n0 _ R23 ) hZ (hw _ (List.mem_of_getElem? (i := 57) rfl)) (hw _ (List.mem_of_getElem? (i := 3) rfl)) (by decide) (by decide)) (g := (mkF m 100 #[.val (.int xa), .val (.int xb), .val (.int xc), .val (.int xd), .val (.int xk), .val (.int (Int32.ofNat cn)), .val (.int (Int32.ofNat nn)), .val (.int (Int32.ofNat y0)), .val (.int (Int32.ofNat y1)), .val (.int (Int32.ofNat y2)), .val (.int (Int32.ofNat y3)), .val (.ref bx14), .val (.ref b17), .unset] [(.int (Int32.ofNat y3)), (.int (Int32.ofNat y2)), (.int (Int32.ofNat y1)), (.int (Int32.ofNat y0)), (.int (Int32.ofNat nn)), (.int (0 : Int32)), (.int ((Int32.ofNat ((pEn (mk nn y0 y1 y2 y3) cn).getD 0 0)) - (Int32.ofNat ((pSt (mk nn y0 y1 y2 y3) cn).getD 0 0))))])) rfl (by rw [hml]; rfl) (argsL := [(.int (0 : Int32)), (.int (Int32.ofNat nn)), (.int (Int32.ofNat y0)), (.int (Int32.ofNat y1)), (.int (Int32.ofNat y2)), (.int (Int32.ofNat y3))]) (rest := [(.int ((Int32.ofNat ((pEn (mk nn y0 y1 y2 y3) cn).getD 0 0)) - (Int32.ofNat ((pSt (mk nn y0 y1 y2 y3) cn).getD 0 0))))]) (lenOf pd__28IIIIII_29I rfl) rfl (by show 2 * 0 + _ ≤ _; exact Nat.le_of_eq rfl) (hb hby at_100) (fun _ _ => ⟨rfl, rfl, (by decide : 10 + 0 ≤ _), (by decide : 65 + 0 ≤ _)⟩)
  dsimp only [Pt.U, Pt.locs, Pt.cells, Pt.slots] at X29 l29 y29 z29 st29 hQ29
  subst y29 z29
  obtain ⟨rfl, N29q, R29⟩ := hQ29
  have N29 : Fr n0 L29 := by rw [l29]; exact Fr.app N23 N29q
  replace R29 : Rep Z n0 T29.heap ((b17, Obj "com/example/witgen/witgen/regex/Partition" [("elements", "[I", (.ref b120)), ("location", "[I", (.ref b220)), ("blockOf", "[I", (.ref b320)), ("start", "[I", (.ref b420)), ("end", "[I", (.ref b520)), ("marked", "[I", (.ref b620)), ("touched", "[I", (.ref b720)), ("blocks", "I", (.int (Int32.ofNat cn)))]) :: (b420, Ar .int (nl (pSt (mk nn y0 y1 y2 y3) cn))) :: (b520, Ar .int (nl (pEn (mk nn y0 y1 y2 y3) cn))) :: (b120, Ar .int (nl (pS4 (mk nn y0 y1 y2 y3) cn).1)) :: (b220, Ar .int (nl (pS4 (mk nn y0 y1 y2 y3) cn).2.1)) :: (b320, Ar .int (nl (mk nn y0 y1 y2 y3))) :: (b620, Ar .int (nl (List.replicate (max (mk nn y0 y1 y2 y3).length cn) 0))) :: (b720, Ar .int (nl (List.replicate (max (mk nn y0 y1 y2 y3).length cn) 0))) :: (bx14, Ar .int (nl (mk nn y0 y1 y2 y3))) :: []) := R29
  have pre30 : ∀ t, Steps p.tables e below (T29.setTop (mkF m 103 #[.val (.int xa), .val (.int xb), .val (.int xc), .val (.int xd), .val (.int xk), .val (.int (Int32.ofNat cn)), .val (.int (Int32.ofNat nn)), .val (.int (Int32.ofNat y0)), .val (.int (Int32.ofNat y1)), .val (.int (Int32.ofNat y2)), .val (.int (Int32.ofNat y3)), .val (.ref bx14), .val (.ref b17), .unset] [(.int (F7 (0 : Int32) (Int32.ofNat nn) (Int32.ofNat y0) (Int32.ofNat y1) (Int32.ofNat y2) (Int32.ofNat y3))), (.int ((Int32.ofNat ((pEn (mk nn y0 y1 y2 y3) cn).getD 0 0)) - (Int32.ofNat ((pSt (mk nn y0 y1 y2 y3) cn).getD 0 0))))])) t → Steps p.tables e below (s₁.setTop (entryFrame m #[(.int xa), (.int xb), (.int xc), (.int xd), (.int xk)] maxLocals)) t := fun t k => pre28 t (st29 t k)
  have hb31 : ((Int32.ofNat ((pEn (mk nn y0 y1 y2 y3) cn).getD 0 0)) - (Int32.ofNat ((pSt (mk nn y0 y1 y2 y3) cn).getD 0 0))) = (F7 (0 : Int32) (Int32.ofNat nn) (Int32.ofNat y0) (Int32.ofNat y1) (Int32.ofNat y2) (Int32.ofNat y3)) := own_sz hok 0 (by omega)
  have pre32 : ∀ t, Steps p.tables e below (T29.setTop (mkF m 116 #[.val (.int xa), .val (.int xb), .val (.int xc), .val (.int xd), .val (.int xk), .val (.int (Int32.ofNat cn)), .val (.int (Int32.ofNat nn)), .val (.int (Int32.ofNat y0)), .val (.int (Int32.ofNat y1)), .val (.int (Int32.ofNat y2)), .val (.int (Int32.ofNat y3)), .val (.ref bx14), .val (.ref b17), .val (.int (1 : Int32))] [(.int (1 : Int32)), (.int (Int32.ofNat cn))])) t → Steps p.tables e below (s₁.setTop (entryFrame m #[(.int xa), (.int xb), (.int xc), (.int xd), (.int xk)] maxLocals)) t := fun t k => pre30 t (by
    show Steps p.tables e below (T29.setTop (mkF m 103 #[.val (.int xa), .val (.int xb), .val (.int xc), .val (.int xd), .val (.int xk), .val (.int (Int32.ofNat cn)), .val (.int (Int32.ofNat nn)), .val (.int (Int32.ofNat y0)), .val (.int (Int32.ofNat y1)), .val (.int (Int32.ofNat y2)), .val (.int (Int32.ofNat y3)), .val (.ref bx14), .val (.ref b17), .unset] [(.int (F7 (0 : Int32) (Int32.ofNat nn) (Int32.ofNat y0) (Int32.ofNat y1) (Int32.ofNat y2) (Int32.ofNat y3))), (.int ((Int32.ofNat ((pEn (mk nn y0 y1 y2 y3) cn).getD 0 0)) - (Int32.ofNat ((pSt (mk nn y0 y1 y2 y3) cn).getD 0 0))))])) _
    refine XS.icmpNo X29.here hx rfl (hb hby at_103) rfl (teq hb31).2 ?_
    refine XS.iconst X29.here hx rfl (hb hby at_106) ?_
    refine XS.goto X29.here hx rfl (pc0 := 107) (pc' := 111) rfl (hb hby at_107) (by decide) (by decide) ?_
    refine XS.istore X29.here hx rfl (hb hby at_111) rfl (l' := #[.val (.int xa), .val (.int xb), .val (.int xc), .val (.int xd), .val (.int xk), .val (.int (Int32.ofNat cn)), .val (.int (Int32.ofNat nn)), .val (.int (Int32.ofNat y0)), .val (.int (Int32.ofNat y1)), .val (.int (Int32.ofNat y2)), .val (.int (Int32.ofNat y3)), .val (.ref bx14), .val (.ref b17), .val (.int (1 : Int32))]) rfl ?_
    refine XS.iload X29.here hx rfl (hb hby at_113) rfl ?_
    refine XS.iconst X29.here hx rfl (hb hby at_115) ?_
    exact k)
  by_cases hgt1 : (1 : Int32) < (Int32.ofNat cn)
  · have pre33 : ∀ t, Steps p.tables e below (T29.setTop (mkF m 119 #[.val (.int xa), .val (.int xb), .val (.int xc), .val (.int xd), .val (.int xk), .val (.int (Int32.ofNat cn)), .val (.int (Int32.ofNat nn)), .val (.int (Int32.ofNat y0)), .val (.int (Int32.ofNat y1)), .val (.int (Int32.ofNat y2)), .val (.int (Int32.ofNat y3)), .val (.ref bx14), .val (.ref b17), .val (.int (1 : Int32))] [])) t → Steps p.tables e below (s₁.setTop (entryFrame m #[(.int xa), (.int xb), (.int xc), (.int xd), (.int xk)] maxLocals)) t := fun t k => pre32 t (by show Steps p.tables e below (T29.setTop (mkF m 116 #[.val (.int xa), .val (.int xb), .val (.int xc), .val (.int xd), .val (.int xk), .val (.int (Int32.ofNat cn)), .val (.int (Int32.ofNat nn)), .val (.int (Int32.ofNat y0)), .val (.int (Int32.ofNat y1)), .val (.int (Int32.ofNat y2)), .val (.int (Int32.ofNat y3)), .val (.ref bx14), .val (.ref b17), .val (.int (1 : Int32))] [(.int (1 : Int32)), (.int (Int32.ofNat cn))])) _; refine XS.icmpNo X29.here hx rfl (hb hby at_116) rfl (tlt hgt1).2.2.2 ?_; exact k)
    have pre35 : ∀ t, Steps p.tables e below (T29.setTop (mkF m 121 #[.val (.int xa), .val (.int xb), .val (.int xc), .val (.int xd), .val (.int xk), .val (.int (Int32.ofNat cn)), .val (.int (Int32.ofNat nn)), .val (.int (Int32.ofNat y0)), .val (.int (Int32.ofNat y1)), .val (.int (Int32.ofNat y2)), .val (.int (Int32.ofNat y3)), .val (.ref bx14), .val (.ref b17), .val (.int (1 : Int32))] [(.int (1 : Int32))])) t → Steps p.tables e below (s₁.setTop (entryFrame m #[(.int xa), (.int xb), (.int xc), (.int xd), (.int xk)] maxLocals)) t := fun t k => pre33 t (by
      show Steps p.tables e below (T29.setTop (mkF m 119 #[.val (.int xa), .val (.int xb), .val (.int xc), .val (.int xd), .val (.int xk), .val (.int (Int32.ofNat cn)), .val (.int (Int32.ofNat nn)), .val (.int (Int32.ofNat y0)), .val (.int (Int32.ofNat y1)), .val (.int (Int32.ofNat y2)), .val (.int (Int32.ofNat y3)), .val (.ref bx14), .val (.ref b17), .val (.int (1 : Int32))] [])) _
      refine XS.iload X29.here hx rfl (hb hby at_119) rfl ?_
      exact k)
    have hb34 : ¬ ((1 : Int32) = (0 : Int32)) := (by decide)
    have pre36 : ∀ t, Steps p.tables e below (T29.setTop (mkF m 127 #[.val (.int xa), .val (.int xb), .val (.int xc), .val (.int xd), .val (.int xk), .val (.int (Int32.ofNat cn)), .val (.int (Int32.ofNat nn)), .val (.int (Int32.ofNat y0)), .val (.int (Int32.ofNat y1)), .val (.int (Int32.ofNat y2)), .val (.int (Int32.ofNat y3)), .val (.ref bx14), .val (.ref b17), .val (.int (1 : Int32))] [(.int (1 : Int32)), (.ref b17)])) t → Steps p.tables e below (s₁.setTop (entryFrame m #[(.int xa), (.int xb), (.int xc), (.int xd), (.int xk)] maxLocals)) t := fun t k => pre35 t (by
      show Steps p.tables e below (T29.setTop (mkF m 121 #[.val (.int xa), .val (.int xb), .val (.int xc), .val (.int xd), .val (.int xk), .val (.int (Int32.ofNat cn)), .val (.int (Int32.ofNat nn)), .val (.int (Int32.ofNat y0)), .val (.int (Int32.ofNat y1)), .val (.int (Int32.ofNat y2)), .val (.int (Int32.ofNat y3)), .val (.ref bx14), .val (.ref b17), .val (.int (1 : Int32))] [(.int (1 : Int32))])) _
      refine XS.ifNo X29.here hx rfl (hb hby at_121) rfl ((if0 _ _).trans (feq hb34).1) ?_
      refine XS.aload X29.here hx rfl (hb hby at_124) rfl rfl ?_
      refine XS.iconst X29.here hx rfl (hb hby at_126) ?_
      exact k)
    obtain ⟨cq37, kq37, q37a, q37b, q37c⟩ := isOf hZ rfl (R29.exa (i := 0) rfl)
    obtain ⟨_, _, ⟨T37, L37, k37, n37⟩, -, X37, ⟨Lc37, hQ37, l37, y37, z37⟩, st37⟩ := X29.virtualBack hx (y := (⟨"com/example/witgen/witgen/regex/Partition", "size", "(I)I"⟩ : MethodName)) (z := (⟨"com/example/witgen/witgen/regex/Partition", "size", "(I)I"⟩ : MethodName)) hown (mvT hZ (hw _ (List.mem_of_getElem? (i := 50) rfl))) (mvT hZ (hw _ (List.mem_of_getElem? (i := 51) rfl))) (notFace_of_selects (args := #[]) (mvT hZ (hw _ (List.mem_of_getElem? (i := 53) rfl)))) (mvT hZ (hw _ (List.mem_of_getElem? (i := 53) rfl))) (mvT hZ (hw _ (List.mem_of_getElem? (i := 52) rfl))) (by decide) (backOf (W := 0) (rm6 l Z a0 hw [] b17 1 _ _ _ _ _ _ _ _ _ _ T29.heap n0 _ R29 (by have := hpp.2.1; have := own_gt (k := 1) hgt1 (by decide) (by omega); omega) (by decide) (by have := hpp.2.2; have := own_gt (k := 1) hgt1 (by decide) (by omega); omega) (by decide)) hZ (hw _ (List.mem_of_getElem? (i := 54) rfl)) (hw _ (List.mem_of_getElem? (i := 8) rfl)) (by decide) (by decide)) q37a q37c (g := (mkF m 127 #[.val (.int xa), .val (.int xb), .val (.int xc), .val (.int xd), .val (.int xk), .val (.int (Int32.ofNat cn)), .val (.int (Int32.ofNat nn)), .val (.int (Int32.ofNat y0)), .val (.int (Int32.ofNat y1)), .val (.int (Int32.ofNat y2)), .val (.int (Int32.ofNat y3)), .val (.ref bx14), .val (.ref b17), .val (.int (1 : Int32))] [(.int (1 : Int32)), (.ref b17)])) rfl (by rw [hml]; rfl) (Steps.refl _) (argsL := [(.int (1 : Int32))]) (rest := []) (lenOf pd__28I_29I rfl) rfl (by show 2 * 0 + _ ≤ _; exact Nat.le_of_eq rfl) (hb hby at_127) (fun _ _ => ⟨rfl, rfl, (by decide : 10 + 0 ≤ _), (by decide : 65 + 0 ≤ _)⟩)
    dsimp only [Pt.U, Pt.locs, Pt.cells, Pt.slots] at X37 l37 y37 z37 st37 hQ37
    subst y37 z37
    obtain ⟨rfl, N37q, R37⟩ := hQ37
    have N37 : Fr n0 L37 := by rw [l37]; exact Fr.app N29 N37q
    replace R37 : Rep Z n0 T37.heap ((b17, Obj "com/example/witgen/witgen/regex/Partition" [("elements", "[I", (.ref b120)), ("location", "[I", (.ref b220)), ("blockOf", "[I", (.ref b320)), ("start", "[I", (.ref b420)), ("end", "[I", (.ref b520)), ("marked", "[I", (.ref b620)), ("touched", "[I", (.ref b720)), ("blocks", "I", (.int (Int32.ofNat cn)))]) :: (b420, Ar .int (nl (pSt (mk nn y0 y1 y2 y3) cn))) :: (b520, Ar .int (nl (pEn (mk nn y0 y1 y2 y3) cn))) :: (b120, Ar .int (nl (pS4 (mk nn y0 y1 y2 y3) cn).1)) :: (b220, Ar .int (nl (pS4 (mk nn y0 y1 y2 y3) cn).2.1)) :: (b320, Ar .int (nl (mk nn y0 y1 y2 y3))) :: (b620, Ar .int (nl (List.replicate (max (mk nn y0 y1 y2 y3).length cn) 0))) :: (b720, Ar .int (nl (List.replicate (max (mk nn y0 y1 y2 y3).length cn) 0))) :: (bx14, Ar .int (nl (mk nn y0 y1 y2 y3))) :: []) := R37
    have pre38 : ∀ t, Steps p.tables e below (T37.setTop (mkF m 130 #[.val (.int xa), .val (.int xb), .val (.int xc), .val (.int xd), .val (.int xk), .val (.int (Int32.ofNat cn)), .val (.int (Int32.ofNat nn)), .val (.int (Int32.ofNat y0)), .val (.int (Int32.ofNat y1)), .val (.int (Int32.ofNat y2)), .val (.int (Int32.ofNat y3)), .val (.ref bx14), .val (.ref b17), .val (.int (1 : Int32))] [(.int ((Int32.ofNat ((pEn (mk nn y0 y1 y2 y3) cn).getD 1 0)) - (Int32.ofNat ((pSt (mk nn y0 y1 y2 y3) cn).getD 1 0))))])) t → Steps p.tables e below (s₁.setTop (entryFrame m #[(.int xa), (.int xb), (.int xc), (.int xd), (.int xk)] maxLocals)) t := fun t k => pre36 t (st37.trans k)
    have pre39 : ∀ t, Steps p.tables e below (T37.setTop (mkF m 141 #[.val (.int xa), .val (.int xb), .val (.int xc), .val (.int xd), .val (.int xk), .val (.int (Int32.ofNat cn)), .val (.int (Int32.ofNat nn)), .val (.int (Int32.ofNat y0)), .val (.int (Int32.ofNat y1)), .val (.int (Int32.ofNat y2)), .val (.int (Int32.ofNat y3)), .val (.ref bx14), .val (.ref b17), .val (.int (1 : Int32))] [(.int (Int32.ofNat y3)), (.int (Int32.ofNat y2)), (.int (Int32.ofNat y1)), (.int (Int32.ofNat y0)), (.int (Int32.ofNat nn)), (.int (1 : Int32)), (.int ((Int32.ofNat ((pEn (mk nn y0 y1 y2 y3) cn).getD 1 0)) - (Int32.ofNat ((pSt (mk nn y0 y1 y2 y3) cn).getD 1 0))))])) t → Steps p.tables e below (s₁.setTop (entryFrame m #[(.int xa), (.int xb), (.int xc), (.int xd), (.int xk)] maxLocals)) t := fun t k => pre38 t (by
      show Steps p.tables e below (T37.setTop (mkF m 130 #[.val (.int xa), .val (.int xb), .val (.int xc), .val (.int xd), .val (.int xk), .val (.int (Int32.ofNat cn)), .val (.int (Int32.ofNat nn)), .val (.int (Int32.ofNat y0)), .val (.int (Int32.ofNat y1)), .val (.int (Int32.ofNat y2)), .val (.int (Int32.ofNat y3)), .val (.ref bx14), .val (.ref b17), .val (.int (1 : Int32))] [(.int ((Int32.ofNat ((pEn (mk nn y0 y1 y2 y3) cn).getD 1 0)) - (Int32.ofNat ((pSt (mk nn y0 y1 y2 y3) cn).getD 1 0))))])) _
      refine XS.iconst X37.here hx rfl (hb hby at_130) ?_
      refine XS.iload X37.here hx rfl (hb hby at_131) rfl ?_
      refine XS.iload X37.here hx rfl (hb hby at_133) rfl ?_
      refine XS.iload X37.here hx rfl (hb hby at_135) rfl ?_
      refine XS.iload X37.here hx rfl (hb hby at_137) rfl ?_
      refine XS.iload X37.here hx rfl (hb hby at_139) rfl ?_
      exact k)
    obtain ⟨_, _, ⟨T40, L40, k40, n40⟩, -, X40, ⟨Lc40, hQ40, l40, y40, z40⟩, st40⟩ := Jvm.LawKit.callS X37 hx (y := (⟨"com/example/witgen/witgen/regex/PartitionSizePinLaw", "ref", "(IIIIII)I"⟩ : MethodName)) hown (mvT hZ (hw _ (List.mem_of_getElem? (i := 55) rfl))) (mvT hZ (hw _ (List.mem_of_getElem? (i := 56) rfl))) (mvT hZ (hw _ (List.mem_of_getElem? (i := 3) rfl))) (mvT hZ (hw _ (List.mem_of_getElem? (i := 57) rfl))) (by decide) (backOf (W := 1) (rm7 l Z a0 hw [] (1 : Int32) (Int32.ofNat nn) (Int32.ofNat y0) (Int32.ofNat y1) (Int32.ofNat y2) (Int32.ofNat y3)  T37.heap n0 _ R37 ) hZ (hw _ (List.mem_of_getElem? (i := 57) rfl)) (hw _ (List.mem_of_getElem? (i := 3) rfl)) (by decide) (by decide)) (g := (mkF m 141 #[.val (.int xa), .val (.int xb), .val (.int xc), .val (.int xd), .val (.int xk), .val (.int (Int32.ofNat cn)), .val (.int (Int32.ofNat nn)), .val (.int (Int32.ofNat y0)), .val (.int (Int32.ofNat y1)), .val (.int (Int32.ofNat y2)), .val (.int (Int32.ofNat y3)), .val (.ref bx14), .val (.ref b17), .val (.int (1 : Int32))] [(.int (Int32.ofNat y3)), (.int (Int32.ofNat y2)), (.int (Int32.ofNat y1)), (.int (Int32.ofNat y0)), (.int (Int32.ofNat nn)), (.int (1 : Int32)), (.int ((Int32.ofNat ((pEn (mk nn y0 y1 y2 y3) cn).getD 1 0)) - (Int32.ofNat ((pSt (mk nn y0 y1 y2 y3) cn).getD 1 0))))])) rfl (by rw [hml]; rfl) (argsL := [(.int (1 : Int32)), (.int (Int32.ofNat nn)), (.int (Int32.ofNat y0)), (.int (Int32.ofNat y1)), (.int (Int32.ofNat y2)), (.int (Int32.ofNat y3))]) (rest := [(.int ((Int32.ofNat ((pEn (mk nn y0 y1 y2 y3) cn).getD 1 0)) - (Int32.ofNat ((pSt (mk nn y0 y1 y2 y3) cn).getD 1 0))))]) (lenOf pd__28IIIIII_29I rfl) rfl (by show 2 * 0 + _ ≤ _; exact Nat.le_of_eq rfl) (hb hby at_141) (fun _ _ => ⟨rfl, rfl, (by decide : 10 + 0 ≤ _), (by decide : 65 + 0 ≤ _)⟩)
    dsimp only [Pt.U, Pt.locs, Pt.cells, Pt.slots] at X40 l40 y40 z40 st40 hQ40
    subst y40 z40
    obtain ⟨rfl, N40q, R40⟩ := hQ40
    have N40 : Fr n0 L40 := by rw [l40]; exact Fr.app N37 N40q
    replace R40 : Rep Z n0 T40.heap ((b17, Obj "com/example/witgen/witgen/regex/Partition" [("elements", "[I", (.ref b120)), ("location", "[I", (.ref b220)), ("blockOf", "[I", (.ref b320)), ("start", "[I", (.ref b420)), ("end", "[I", (.ref b520)), ("marked", "[I", (.ref b620)), ("touched", "[I", (.ref b720)), ("blocks", "I", (.int (Int32.ofNat cn)))]) :: (b420, Ar .int (nl (pSt (mk nn y0 y1 y2 y3) cn))) :: (b520, Ar .int (nl (pEn (mk nn y0 y1 y2 y3) cn))) :: (b120, Ar .int (nl (pS4 (mk nn y0 y1 y2 y3) cn).1)) :: (b220, Ar .int (nl (pS4 (mk nn y0 y1 y2 y3) cn).2.1)) :: (b320, Ar .int (nl (mk nn y0 y1 y2 y3))) :: (b620, Ar .int (nl (List.replicate (max (mk nn y0 y1 y2 y3).length cn) 0))) :: (b720, Ar .int (nl (List.replicate (max (mk nn y0 y1 y2 y3).length cn) 0))) :: (bx14, Ar .int (nl (mk nn y0 y1 y2 y3))) :: []) := R40
    have pre41 : ∀ t, Steps p.tables e below (T40.setTop (mkF m 144 #[.val (.int xa), .val (.int xb), .val (.int xc), .val (.int xd), .val (.int xk), .val (.int (Int32.ofNat cn)), .val (.int (Int32.ofNat nn)), .val (.int (Int32.ofNat y0)), .val (.int (Int32.ofNat y1)), .val (.int (Int32.ofNat y2)), .val (.int (Int32.ofNat y3)), .val (.ref bx14), .val (.ref b17), .val (.int (1 : Int32))] [(.int (F7 (1 : Int32) (Int32.ofNat nn) (Int32.ofNat y0) (Int32.ofNat y1) (Int32.ofNat y2) (Int32.ofNat y3))), (.int ((Int32.ofNat ((pEn (mk nn y0 y1 y2 y3) cn).getD 1 0)) - (Int32.ofNat ((pSt (mk nn y0 y1 y2 y3) cn).getD 1 0))))])) t → Steps p.tables e below (s₁.setTop (entryFrame m #[(.int xa), (.int xb), (.int xc), (.int xd), (.int xk)] maxLocals)) t := fun t k => pre39 t (st40 t k)
    have hb42 : ((Int32.ofNat ((pEn (mk nn y0 y1 y2 y3) cn).getD 1 0)) - (Int32.ofNat ((pSt (mk nn y0 y1 y2 y3) cn).getD 1 0))) = (F7 (1 : Int32) (Int32.ofNat nn) (Int32.ofNat y0) (Int32.ofNat y1) (Int32.ofNat y2) (Int32.ofNat y3)) := own_sz hok 1 (by have := own_gt (k := 1) hgt1 (by decide) (by omega); omega)
    have pre43 : ∀ t, Steps p.tables e below (T40.setTop (mkF m 157 #[.val (.int xa), .val (.int xb), .val (.int xc), .val (.int xd), .val (.int xk), .val (.int (Int32.ofNat cn)), .val (.int (Int32.ofNat nn)), .val (.int (Int32.ofNat y0)), .val (.int (Int32.ofNat y1)), .val (.int (Int32.ofNat y2)), .val (.int (Int32.ofNat y3)), .val (.ref bx14), .val (.ref b17), .val (.int (1 : Int32))] [(.int (2 : Int32)), (.int (Int32.ofNat cn))])) t → Steps p.tables e below (s₁.setTop (entryFrame m #[(.int xa), (.int xb), (.int xc), (.int xd), (.int xk)] maxLocals)) t := fun t k => pre41 t (by
      show Steps p.tables e below (T40.setTop (mkF m 144 #[.val (.int xa), .val (.int xb), .val (.int xc), .val (.int xd), .val (.int xk), .val (.int (Int32.ofNat cn)), .val (.int (Int32.ofNat nn)), .val (.int (Int32.ofNat y0)), .val (.int (Int32.ofNat y1)), .val (.int (Int32.ofNat y2)), .val (.int (Int32.ofNat y3)), .val (.ref bx14), .val (.ref b17), .val (.int (1 : Int32))] [(.int (F7 (1 : Int32) (Int32.ofNat nn) (Int32.ofNat y0) (Int32.ofNat y1) (Int32.ofNat y2) (Int32.ofNat y3))), (.int ((Int32.ofNat ((pEn (mk nn y0 y1 y2 y3) cn).getD 1 0)) - (Int32.ofNat ((pSt (mk nn y0 y1 y2 y3) cn).getD 1 0))))])) _
      refine XS.icmpNo X40.here hx rfl (hb hby at_144) rfl (teq hb42).2 ?_
      refine XS.iconst X40.here hx rfl (hb hby at_147) ?_
      refine XS.goto X40.here hx rfl (pc0 := 148) (pc' := 152) rfl (hb hby at_148) (by decide) (by decide) ?_
      refine XS.istore X40.here hx rfl (hb hby at_152) rfl (l' := #[.val (.int xa), .val (.int xb), .val (.int xc), .val (.int xd), .val (.int xk), .val (.int (Int32.ofNat cn)), .val (.int (Int32.ofNat nn)), .val (.int (Int32.ofNat y0)), .val (.int (Int32.ofNat y1)), .val (.int (Int32.ofNat y2)), .val (.int (Int32.ofNat y3)), .val (.ref bx14), .val (.ref b17), .val (.int (1 : Int32))]) rfl ?_
      refine XS.iload X40.here hx rfl (hb hby at_154) rfl ?_
      refine XS.iconst X40.here hx rfl (hb hby at_156) ?_
      exact k)
    by_cases hgt2 : (2 : Int32) < (Int32.ofNat cn)
    · have pre44 : ∀ t, Steps p.tables e below (T40.setTop (mkF m 160 #[.val (.int xa), .val (.int xb), .val (.int xc), .val (.int xd), .val (.int xk), .val (.int (Int32.ofNat cn)), .val (.int (Int32.ofNat nn)), .val (.int (Int32.ofNat y0)), .val (.int (Int32.ofNat y1)), .val (.int (Int32.ofNat y2)), .val (.int (Int32.ofNat y3)), .val (.ref bx14), .val (.ref b17), .val (.int (1 : Int32))] [])) t → Steps p.tables e below (s₁.setTop (entryFrame m #[(.int xa), (.int xb), (.int xc), (.int xd), (.int xk)] maxLocals)) t := fun t k => pre43 t (by show Steps p.tables e below (T40.setTop (mkF m 157 #[.val (.int xa), .val (.int xb), .val (.int xc), .val (.int xd), .val (.int xk), .val (.int (Int32.ofNat cn)), .val (.int (Int32.ofNat nn)), .val (.int (Int32.ofNat y0)), .val (.int (Int32.ofNat y1)), .val (.int (Int32.ofNat y2)), .val (.int (Int32.ofNat y3)), .val (.ref bx14), .val (.ref b17), .val (.int (1 : Int32))] [(.int (2 : Int32)), (.int (Int32.ofNat cn))])) _; refine XS.icmpNo X40.here hx rfl (hb hby at_157) rfl (tlt hgt2).2.2.2 ?_; exact k)
      have pre46 : ∀ t, Steps p.tables e below (T40.setTop (mkF m 162 #[.val (.int xa), .val (.int xb), .val (.int xc), .val (.int xd), .val (.int xk), .val (.int (Int32.ofNat cn)), .val (.int (Int32.ofNat nn)), .val (.int (Int32.ofNat y0)), .val (.int (Int32.ofNat y1)), .val (.int (Int32.ofNat y2)), .val (.int (Int32.ofNat y3)), .val (.ref bx14), .val (.ref b17), .val (.int (1 : Int32))] [(.int (1 : Int32))])) t → Steps p.tables e below (s₁.setTop (entryFrame m #[(.int xa), (.int xb), (.int xc), (.int xd), (.int xk)] maxLocals)) t := fun t k => pre44 t (by
        show Steps p.tables e below (T40.setTop (mkF m 160 #[.val (.int xa), .val (.int xb), .val (.int xc), .val (.int xd), .val (.int xk), .val (.int (Int32.ofNat cn)), .val (.int (Int32.ofNat nn)), .val (.int (Int32.ofNat y0)), .val (.int (Int32.ofNat y1)), .val (.int (Int32.ofNat y2)), .val (.int (Int32.ofNat y3)), .val (.ref bx14), .val (.ref b17), .val (.int (1 : Int32))] [])) _
        refine XS.iload X40.here hx rfl (hb hby at_160) rfl ?_
        exact k)
      have hb45 : ¬ ((1 : Int32) = (0 : Int32)) := (by decide)
      have pre47 : ∀ t, Steps p.tables e below (T40.setTop (mkF m 168 #[.val (.int xa), .val (.int xb), .val (.int xc), .val (.int xd), .val (.int xk), .val (.int (Int32.ofNat cn)), .val (.int (Int32.ofNat nn)), .val (.int (Int32.ofNat y0)), .val (.int (Int32.ofNat y1)), .val (.int (Int32.ofNat y2)), .val (.int (Int32.ofNat y3)), .val (.ref bx14), .val (.ref b17), .val (.int (1 : Int32))] [(.int (2 : Int32)), (.ref b17)])) t → Steps p.tables e below (s₁.setTop (entryFrame m #[(.int xa), (.int xb), (.int xc), (.int xd), (.int xk)] maxLocals)) t := fun t k => pre46 t (by
        show Steps p.tables e below (T40.setTop (mkF m 162 #[.val (.int xa), .val (.int xb), .val (.int xc), .val (.int xd), .val (.int xk), .val (.int (Int32.ofNat cn)), .val (.int (Int32.ofNat nn)), .val (.int (Int32.ofNat y0)), .val (.int (Int32.ofNat y1)), .val (.int (Int32.ofNat y2)), .val (.int (Int32.ofNat y3)), .val (.ref bx14), .val (.ref b17), .val (.int (1 : Int32))] [(.int (1 : Int32))])) _
        refine XS.ifNo X40.here hx rfl (hb hby at_162) rfl ((if0 _ _).trans (feq hb45).1) ?_
        refine XS.aload X40.here hx rfl (hb hby at_165) rfl rfl ?_
        refine XS.iconst X40.here hx rfl (hb hby at_167) ?_
        exact k)
      obtain ⟨cq48, kq48, q48a, q48b, q48c⟩ := isOf hZ rfl (R40.exa (i := 0) rfl)
      obtain ⟨_, _, ⟨T48, L48, k48, n48⟩, -, X48, ⟨Lc48, hQ48, l48, y48, z48⟩, st48⟩ := X40.virtualBack hx (y := (⟨"com/example/witgen/witgen/regex/Partition", "size", "(I)I"⟩ : MethodName)) (z := (⟨"com/example/witgen/witgen/regex/Partition", "size", "(I)I"⟩ : MethodName)) hown (mvT hZ (hw _ (List.mem_of_getElem? (i := 50) rfl))) (mvT hZ (hw _ (List.mem_of_getElem? (i := 51) rfl))) (notFace_of_selects (args := #[]) (mvT hZ (hw _ (List.mem_of_getElem? (i := 53) rfl)))) (mvT hZ (hw _ (List.mem_of_getElem? (i := 53) rfl))) (mvT hZ (hw _ (List.mem_of_getElem? (i := 52) rfl))) (by decide) (backOf (W := 0) (rm6 l Z a0 hw [] b17 2 _ _ _ _ _ _ _ _ _ _ T40.heap n0 _ R40 (by have := hpp.2.1; have := own_gt (k := 2) hgt2 (by decide) (by omega); omega) (by decide) (by have := hpp.2.2; have := own_gt (k := 2) hgt2 (by decide) (by omega); omega) (by decide)) hZ (hw _ (List.mem_of_getElem? (i := 54) rfl)) (hw _ (List.mem_of_getElem? (i := 8) rfl)) (by decide) (by decide)) q48a q48c (g := (mkF m 168 #[.val (.int xa), .val (.int xb), .val (.int xc), .val (.int xd), .val (.int xk), .val (.int (Int32.ofNat cn)), .val (.int (Int32.ofNat nn)), .val (.int (Int32.ofNat y0)), .val (.int (Int32.ofNat y1)), .val (.int (Int32.ofNat y2)), .val (.int (Int32.ofNat y3)), .val (.ref bx14), .val (.ref b17), .val (.int (1 : Int32))] [(.int (2 : Int32)), (.ref b17)])) rfl (by rw [hml]; rfl) (Steps.refl _) (argsL := [(.int (2 : Int32))]) (rest := []) (lenOf pd__28I_29I rfl) rfl (by show 2 * 0 + _ ≤ _; exact Nat.le_of_eq rfl) (hb hby at_168) (fun _ _ => ⟨rfl, rfl, (by decide : 10 + 0 ≤ _), (by decide : 65 + 0 ≤ _)⟩)
      dsimp only [Pt.U, Pt.locs, Pt.cells, Pt.slots] at X48 l48 y48 z48 st48 hQ48
      subst y48 z48
      obtain ⟨rfl, N48q, R48⟩ := hQ48
      have N48 : Fr n0 L48 := by rw [l48]; exact Fr.app N40 N48q
      replace R48 : Rep Z n0 T48.heap ((b17, Obj "com/example/witgen/witgen/regex/Partition" [("elements", "[I", (.ref b120)), ("location", "[I", (.ref b220)), ("blockOf", "[I", (.ref b320)), ("start", "[I", (.ref b420)), ("end", "[I", (.ref b520)), ("marked", "[I", (.ref b620)), ("touched", "[I", (.ref b720)), ("blocks", "I", (.int (Int32.ofNat cn)))]) :: (b420, Ar .int (nl (pSt (mk nn y0 y1 y2 y3) cn))) :: (b520, Ar .int (nl (pEn (mk nn y0 y1 y2 y3) cn))) :: (b120, Ar .int (nl (pS4 (mk nn y0 y1 y2 y3) cn).1)) :: (b220, Ar .int (nl (pS4 (mk nn y0 y1 y2 y3) cn).2.1)) :: (b320, Ar .int (nl (mk nn y0 y1 y2 y3))) :: (b620, Ar .int (nl (List.replicate (max (mk nn y0 y1 y2 y3).length cn) 0))) :: (b720, Ar .int (nl (List.replicate (max (mk nn y0 y1 y2 y3).length cn) 0))) :: (bx14, Ar .int (nl (mk nn y0 y1 y2 y3))) :: []) := R48
      have pre49 : ∀ t, Steps p.tables e below (T48.setTop (mkF m 171 #[.val (.int xa), .val (.int xb), .val (.int xc), .val (.int xd), .val (.int xk), .val (.int (Int32.ofNat cn)), .val (.int (Int32.ofNat nn)), .val (.int (Int32.ofNat y0)), .val (.int (Int32.ofNat y1)), .val (.int (Int32.ofNat y2)), .val (.int (Int32.ofNat y3)), .val (.ref bx14), .val (.ref b17), .val (.int (1 : Int32))] [(.int ((Int32.ofNat ((pEn (mk nn y0 y1 y2 y3) cn).getD 2 0)) - (Int32.ofNat ((pSt (mk nn y0 y1 y2 y3) cn).getD 2 0))))])) t → Steps p.tables e below (s₁.setTop (entryFrame m #[(.int xa), (.int xb), (.int xc), (.int xd), (.int xk)] maxLocals)) t := fun t k => pre47 t (st48.trans k)
      have pre50 : ∀ t, Steps p.tables e below (T48.setTop (mkF m 182 #[.val (.int xa), .val (.int xb), .val (.int xc), .val (.int xd), .val (.int xk), .val (.int (Int32.ofNat cn)), .val (.int (Int32.ofNat nn)), .val (.int (Int32.ofNat y0)), .val (.int (Int32.ofNat y1)), .val (.int (Int32.ofNat y2)), .val (.int (Int32.ofNat y3)), .val (.ref bx14), .val (.ref b17), .val (.int (1 : Int32))] [(.int (Int32.ofNat y3)), (.int (Int32.ofNat y2)), (.int (Int32.ofNat y1)), (.int (Int32.ofNat y0)), (.int (Int32.ofNat nn)), (.int (2 : Int32)), (.int ((Int32.ofNat ((pEn (mk nn y0 y1 y2 y3) cn).getD 2 0)) - (Int32.ofNat ((pSt (mk nn y0 y1 y2 y3) cn).getD 2 0))))])) t → Steps p.tables e below (s₁.setTop (entryFrame m #[(.int xa), (.int xb), (.int xc), (.int xd), (.int xk)] maxLocals)) t := fun t k => pre49 t (by
        show Steps p.tables e below (T48.setTop (mkF m 171 #[.val (.int xa), .val (.int xb), .val (.int xc), .val (.int xd), .val (.int xk), .val (.int (Int32.ofNat cn)), .val (.int (Int32.ofNat nn)), .val (.int (Int32.ofNat y0)), .val (.int (Int32.ofNat y1)), .val (.int (Int32.ofNat y2)), .val (.int (Int32.ofNat y3)), .val (.ref bx14), .val (.ref b17), .val (.int (1 : Int32))] [(.int ((Int32.ofNat ((pEn (mk nn y0 y1 y2 y3) cn).getD 2 0)) - (Int32.ofNat ((pSt (mk nn y0 y1 y2 y3) cn).getD 2 0))))])) _
        refine XS.iconst X48.here hx rfl (hb hby at_171) ?_
        refine XS.iload X48.here hx rfl (hb hby at_172) rfl ?_
        refine XS.iload X48.here hx rfl (hb hby at_174) rfl ?_
        refine XS.iload X48.here hx rfl (hb hby at_176) rfl ?_
        refine XS.iload X48.here hx rfl (hb hby at_178) rfl ?_
        refine XS.iload X48.here hx rfl (hb hby at_180) rfl ?_
        exact k)
      obtain ⟨_, _, ⟨T51, L51, k51, n51⟩, -, X51, ⟨Lc51, hQ51, l51, y51, z51⟩, st51⟩ := Jvm.LawKit.callS X48 hx (y := (⟨"com/example/witgen/witgen/regex/PartitionSizePinLaw", "ref", "(IIIIII)I"⟩ : MethodName)) hown (mvT hZ (hw _ (List.mem_of_getElem? (i := 55) rfl))) (mvT hZ (hw _ (List.mem_of_getElem? (i := 56) rfl))) (mvT hZ (hw _ (List.mem_of_getElem? (i := 3) rfl))) (mvT hZ (hw _ (List.mem_of_getElem? (i := 57) rfl))) (by decide) (backOf (W := 1) (rm7 l Z a0 hw [] (2 : Int32) (Int32.ofNat nn) (Int32.ofNat y0) (Int32.ofNat y1) (Int32.ofNat y2) (Int32.ofNat y3)  T48.heap n0 _ R48 ) hZ (hw _ (List.mem_of_getElem? (i := 57) rfl)) (hw _ (List.mem_of_getElem? (i := 3) rfl)) (by decide) (by decide)) (g := (mkF m 182 #[.val (.int xa), .val (.int xb), .val (.int xc), .val (.int xd), .val (.int xk), .val (.int (Int32.ofNat cn)), .val (.int (Int32.ofNat nn)), .val (.int (Int32.ofNat y0)), .val (.int (Int32.ofNat y1)), .val (.int (Int32.ofNat y2)), .val (.int (Int32.ofNat y3)), .val (.ref bx14), .val (.ref b17), .val (.int (1 : Int32))] [(.int (Int32.ofNat y3)), (.int (Int32.ofNat y2)), (.int (Int32.ofNat y1)), (.int (Int32.ofNat y0)), (.int (Int32.ofNat nn)), (.int (2 : Int32)), (.int ((Int32.ofNat ((pEn (mk nn y0 y1 y2 y3) cn).getD 2 0)) - (Int32.ofNat ((pSt (mk nn y0 y1 y2 y3) cn).getD 2 0))))])) rfl (by rw [hml]; rfl) (argsL := [(.int (2 : Int32)), (.int (Int32.ofNat nn)), (.int (Int32.ofNat y0)), (.int (Int32.ofNat y1)), (.int (Int32.ofNat y2)), (.int (Int32.ofNat y3))]) (rest := [(.int ((Int32.ofNat ((pEn (mk nn y0 y1 y2 y3) cn).getD 2 0)) - (Int32.ofNat ((pSt (mk nn y0 y1 y2 y3) cn).getD 2 0))))]) (lenOf pd__28IIIIII_29I rfl) rfl (by show 2 * 0 + _ ≤ _; exact Nat.le_of_eq rfl) (hb hby at_182) (fun _ _ => ⟨rfl, rfl, (by decide : 10 + 0 ≤ _), (by decide : 65 + 0 ≤ _)⟩)
      dsimp only [Pt.U, Pt.locs, Pt.cells, Pt.slots] at X51 l51 y51 z51 st51 hQ51
      subst y51 z51
      obtain ⟨rfl, N51q, R51⟩ := hQ51
      have N51 : Fr n0 L51 := by rw [l51]; exact Fr.app N48 N51q
      replace R51 : Rep Z n0 T51.heap ((b17, Obj "com/example/witgen/witgen/regex/Partition" [("elements", "[I", (.ref b120)), ("location", "[I", (.ref b220)), ("blockOf", "[I", (.ref b320)), ("start", "[I", (.ref b420)), ("end", "[I", (.ref b520)), ("marked", "[I", (.ref b620)), ("touched", "[I", (.ref b720)), ("blocks", "I", (.int (Int32.ofNat cn)))]) :: (b420, Ar .int (nl (pSt (mk nn y0 y1 y2 y3) cn))) :: (b520, Ar .int (nl (pEn (mk nn y0 y1 y2 y3) cn))) :: (b120, Ar .int (nl (pS4 (mk nn y0 y1 y2 y3) cn).1)) :: (b220, Ar .int (nl (pS4 (mk nn y0 y1 y2 y3) cn).2.1)) :: (b320, Ar .int (nl (mk nn y0 y1 y2 y3))) :: (b620, Ar .int (nl (List.replicate (max (mk nn y0 y1 y2 y3).length cn) 0))) :: (b720, Ar .int (nl (List.replicate (max (mk nn y0 y1 y2 y3).length cn) 0))) :: (bx14, Ar .int (nl (mk nn y0 y1 y2 y3))) :: []) := R51
      have pre52 : ∀ t, Steps p.tables e below (T51.setTop (mkF m 185 #[.val (.int xa), .val (.int xb), .val (.int xc), .val (.int xd), .val (.int xk), .val (.int (Int32.ofNat cn)), .val (.int (Int32.ofNat nn)), .val (.int (Int32.ofNat y0)), .val (.int (Int32.ofNat y1)), .val (.int (Int32.ofNat y2)), .val (.int (Int32.ofNat y3)), .val (.ref bx14), .val (.ref b17), .val (.int (1 : Int32))] [(.int (F7 (2 : Int32) (Int32.ofNat nn) (Int32.ofNat y0) (Int32.ofNat y1) (Int32.ofNat y2) (Int32.ofNat y3))), (.int ((Int32.ofNat ((pEn (mk nn y0 y1 y2 y3) cn).getD 2 0)) - (Int32.ofNat ((pSt (mk nn y0 y1 y2 y3) cn).getD 2 0))))])) t → Steps p.tables e below (s₁.setTop (entryFrame m #[(.int xa), (.int xb), (.int xc), (.int xd), (.int xk)] maxLocals)) t := fun t k => pre50 t (st51 t k)
      have hb53 : ((Int32.ofNat ((pEn (mk nn y0 y1 y2 y3) cn).getD 2 0)) - (Int32.ofNat ((pSt (mk nn y0 y1 y2 y3) cn).getD 2 0))) = (F7 (2 : Int32) (Int32.ofNat nn) (Int32.ofNat y0) (Int32.ofNat y1) (Int32.ofNat y2) (Int32.ofNat y3)) := own_sz hok 2 (by have := own_gt (k := 2) hgt2 (by decide) (by omega); omega)
      have pre54 : ∀ t, Steps p.tables e below (T51.setTop (mkF m 198 #[.val (.int xa), .val (.int xb), .val (.int xc), .val (.int xd), .val (.int xk), .val (.int (Int32.ofNat cn)), .val (.int (Int32.ofNat nn)), .val (.int (Int32.ofNat y0)), .val (.int (Int32.ofNat y1)), .val (.int (Int32.ofNat y2)), .val (.int (Int32.ofNat y3)), .val (.ref bx14), .val (.ref b17), .val (.int (1 : Int32))] [(.int (3 : Int32)), (.int (Int32.ofNat cn))])) t → Steps p.tables e below (s₁.setTop (entryFrame m #[(.int xa), (.int xb), (.int xc), (.int xd), (.int xk)] maxLocals)) t := fun t k => pre52 t (by
        show Steps p.tables e below (T51.setTop (mkF m 185 #[.val (.int xa), .val (.int xb), .val (.int xc), .val (.int xd), .val (.int xk), .val (.int (Int32.ofNat cn)), .val (.int (Int32.ofNat nn)), .val (.int (Int32.ofNat y0)), .val (.int (Int32.ofNat y1)), .val (.int (Int32.ofNat y2)), .val (.int (Int32.ofNat y3)), .val (.ref bx14), .val (.ref b17), .val (.int (1 : Int32))] [(.int (F7 (2 : Int32) (Int32.ofNat nn) (Int32.ofNat y0) (Int32.ofNat y1) (Int32.ofNat y2) (Int32.ofNat y3))), (.int ((Int32.ofNat ((pEn (mk nn y0 y1 y2 y3) cn).getD 2 0)) - (Int32.ofNat ((pSt (mk nn y0 y1 y2 y3) cn).getD 2 0))))])) _
        refine XS.icmpNo X51.here hx rfl (hb hby at_185) rfl (teq hb53).2 ?_
        refine XS.iconst X51.here hx rfl (hb hby at_188) ?_
        refine XS.goto X51.here hx rfl (pc0 := 189) (pc' := 193) rfl (hb hby at_189) (by decide) (by decide) ?_
        refine XS.istore X51.here hx rfl (hb hby at_193) rfl (l' := #[.val (.int xa), .val (.int xb), .val (.int xc), .val (.int xd), .val (.int xk), .val (.int (Int32.ofNat cn)), .val (.int (Int32.ofNat nn)), .val (.int (Int32.ofNat y0)), .val (.int (Int32.ofNat y1)), .val (.int (Int32.ofNat y2)), .val (.int (Int32.ofNat y3)), .val (.ref bx14), .val (.ref b17), .val (.int (1 : Int32))]) rfl ?_
        refine XS.iload X51.here hx rfl (hb hby at_195) rfl ?_
        refine XS.iconst X51.here hx rfl (hb hby at_197) ?_
        exact k)
      by_cases hgt3 : (3 : Int32) < (Int32.ofNat cn)
      · have pre55 : ∀ t, Steps p.tables e below (T51.setTop (mkF m 201 #[.val (.int xa), .val (.int xb), .val (.int xc), .val (.int xd), .val (.int xk), .val (.int (Int32.ofNat cn)), .val (.int (Int32.ofNat nn)), .val (.int (Int32.ofNat y0)), .val (.int (Int32.ofNat y1)), .val (.int (Int32.ofNat y2)), .val (.int (Int32.ofNat y3)), .val (.ref bx14), .val (.ref b17), .val (.int (1 : Int32))] [])) t → Steps p.tables e below (s₁.setTop (entryFrame m #[(.int xa), (.int xb), (.int xc), (.int xd), (.int xk)] maxLocals)) t := fun t k => pre54 t (by show Steps p.tables e below (T51.setTop (mkF m 198 #[.val (.int xa), .val (.int xb), .val (.int xc), .val (.int xd), .val (.int xk), .val (.int (Int32.ofNat cn)), .val (.int (Int32.ofNat nn)), .val (.int (Int32.ofNat y0)), .val (.int (Int32.ofNat y1)), .val (.int (Int32.ofNat y2)), .val (.int (Int32.ofNat y3)), .val (.ref bx14), .val (.ref b17), .val (.int (1 : Int32))] [(.int (3 : Int32)), (.int (Int32.ofNat cn))])) _; refine XS.icmpNo X51.here hx rfl (hb hby at_198) rfl (tlt hgt3).2.2.2 ?_; exact k)
        have pre57 : ∀ t, Steps p.tables e below (T51.setTop (mkF m 203 #[.val (.int xa), .val (.int xb), .val (.int xc), .val (.int xd), .val (.int xk), .val (.int (Int32.ofNat cn)), .val (.int (Int32.ofNat nn)), .val (.int (Int32.ofNat y0)), .val (.int (Int32.ofNat y1)), .val (.int (Int32.ofNat y2)), .val (.int (Int32.ofNat y3)), .val (.ref bx14), .val (.ref b17), .val (.int (1 : Int32))] [(.int (1 : Int32))])) t → Steps p.tables e below (s₁.setTop (entryFrame m #[(.int xa), (.int xb), (.int xc), (.int xd), (.int xk)] maxLocals)) t := fun t k => pre55 t (by
          show Steps p.tables e below (T51.setTop (mkF m 201 #[.val (.int xa), .val (.int xb), .val (.int xc), .val (.int xd), .val (.int xk), .val (.int (Int32.ofNat cn)), .val (.int (Int32.ofNat nn)), .val (.int (Int32.ofNat y0)), .val (.int (Int32.ofNat y1)), .val (.int (Int32.ofNat y2)), .val (.int (Int32.ofNat y3)), .val (.ref bx14), .val (.ref b17), .val (.int (1 : Int32))] [])) _
          refine XS.iload X51.here hx rfl (hb hby at_201) rfl ?_
          exact k)
        have hb56 : ¬ ((1 : Int32) = (0 : Int32)) := (by decide)
        have pre58 : ∀ t, Steps p.tables e below (T51.setTop (mkF m 209 #[.val (.int xa), .val (.int xb), .val (.int xc), .val (.int xd), .val (.int xk), .val (.int (Int32.ofNat cn)), .val (.int (Int32.ofNat nn)), .val (.int (Int32.ofNat y0)), .val (.int (Int32.ofNat y1)), .val (.int (Int32.ofNat y2)), .val (.int (Int32.ofNat y3)), .val (.ref bx14), .val (.ref b17), .val (.int (1 : Int32))] [(.int (3 : Int32)), (.ref b17)])) t → Steps p.tables e below (s₁.setTop (entryFrame m #[(.int xa), (.int xb), (.int xc), (.int xd), (.int xk)] maxLocals)) t := fun t k => pre57 t (by
          show Steps p.tables e below (T51.setTop (mkF m 203 #[.val (.int xa), .val (.int xb), .val (.int xc), .val (.int xd), .val (.int xk), .val (.int (Int32.ofNat cn)), .val (.int (Int32.ofNat nn)), .val (.int (Int32.ofNat y0)), .val (.int (Int32.ofNat y1)), .val (.int (Int32.ofNat y2)), .val (.int (Int32.ofNat y3)), .val (.ref bx14), .val (.ref b17), .val (.int (1 : Int32))] [(.int (1 : Int32))])) _
          refine XS.ifNo X51.here hx rfl (hb hby at_203) rfl ((if0 _ _).trans (feq hb56).1) ?_
          refine XS.aload X51.here hx rfl (hb hby at_206) rfl rfl ?_
          refine XS.iconst X51.here hx rfl (hb hby at_208) ?_
          exact k)
        obtain ⟨cq59, kq59, q59a, q59b, q59c⟩ := isOf hZ rfl (R51.exa (i := 0) rfl)
        obtain ⟨_, _, ⟨T59, L59, k59, n59⟩, -, X59, ⟨Lc59, hQ59, l59, y59, z59⟩, st59⟩ := X51.virtualBack hx (y := (⟨"com/example/witgen/witgen/regex/Partition", "size", "(I)I"⟩ : MethodName)) (z := (⟨"com/example/witgen/witgen/regex/Partition", "size", "(I)I"⟩ : MethodName)) hown (mvT hZ (hw _ (List.mem_of_getElem? (i := 50) rfl))) (mvT hZ (hw _ (List.mem_of_getElem? (i := 51) rfl))) (notFace_of_selects (args := #[]) (mvT hZ (hw _ (List.mem_of_getElem? (i := 53) rfl)))) (mvT hZ (hw _ (List.mem_of_getElem? (i := 53) rfl))) (mvT hZ (hw _ (List.mem_of_getElem? (i := 52) rfl))) (by decide) (backOf (W := 0) (rm6 l Z a0 hw [] b17 3 _ _ _ _ _ _ _ _ _ _ T51.heap n0 _ R51 (by have := hpp.2.1; have := own_gt (k := 3) hgt3 (by decide) (by omega); omega) (by decide) (by have := hpp.2.2; have := own_gt (k := 3) hgt3 (by decide) (by omega); omega) (by decide)) hZ (hw _ (List.mem_of_getElem? (i := 54) rfl)) (hw _ (List.mem_of_getElem? (i := 8) rfl)) (by decide) (by decide)) q59a q59c (g := (mkF m 209 #[.val (.int xa), .val (.int xb), .val (.int xc), .val (.int xd), .val (.int xk), .val (.int (Int32.ofNat cn)), .val (.int (Int32.ofNat nn)), .val (.int (Int32.ofNat y0)), .val (.int (Int32.ofNat y1)), .val (.int (Int32.ofNat y2)), .val (.int (Int32.ofNat y3)), .val (.ref bx14), .val (.ref b17), .val (.int (1 : Int32))] [(.int (3 : Int32)), (.ref b17)])) rfl (by rw [hml]; rfl) (Steps.refl _) (argsL := [(.int (3 : Int32))]) (rest := []) (lenOf pd__28I_29I rfl) rfl (by show 2 * 0 + _ ≤ _; exact Nat.le_of_eq rfl) (hb hby at_209) (fun _ _ => ⟨rfl, rfl, (by decide : 10 + 0 ≤ _), (by decide : 65 + 0 ≤ _)⟩)
        dsimp only [Pt.U, Pt.locs, Pt.cells, Pt.slots] at X59 l59 y59 z59 st59 hQ59
        subst y59 z59
        obtain ⟨rfl, N59q, R59⟩ := hQ59
        have N59 : Fr n0 L59 := by rw [l59]; exact Fr.app N51 N59q
        replace R59 : Rep Z n0 T59.heap ((b17, Obj "com/example/witgen/witgen/regex/Partition" [("elements", "[I", (.ref b120)), ("location", "[I", (.ref b220)), ("blockOf", "[I", (.ref b320)), ("start", "[I", (.ref b420)), ("end", "[I", (.ref b520)), ("marked", "[I", (.ref b620)), ("touched", "[I", (.ref b720)), ("blocks", "I", (.int (Int32.ofNat cn)))]) :: (b420, Ar .int (nl (pSt (mk nn y0 y1 y2 y3) cn))) :: (b520, Ar .int (nl (pEn (mk nn y0 y1 y2 y3) cn))) :: (b120, Ar .int (nl (pS4 (mk nn y0 y1 y2 y3) cn).1)) :: (b220, Ar .int (nl (pS4 (mk nn y0 y1 y2 y3) cn).2.1)) :: (b320, Ar .int (nl (mk nn y0 y1 y2 y3))) :: (b620, Ar .int (nl (List.replicate (max (mk nn y0 y1 y2 y3).length cn) 0))) :: (b720, Ar .int (nl (List.replicate (max (mk nn y0 y1 y2 y3).length cn) 0))) :: (bx14, Ar .int (nl (mk nn y0 y1 y2 y3))) :: []) := R59
        have pre60 : ∀ t, Steps p.tables e below (T59.setTop (mkF m 212 #[.val (.int xa), .val (.int xb), .val (.int xc), .val (.int xd), .val (.int xk), .val (.int (Int32.ofNat cn)), .val (.int (Int32.ofNat nn)), .val (.int (Int32.ofNat y0)), .val (.int (Int32.ofNat y1)), .val (.int (Int32.ofNat y2)), .val (.int (Int32.ofNat y3)), .val (.ref bx14), .val (.ref b17), .val (.int (1 : Int32))] [(.int ((Int32.ofNat ((pEn (mk nn y0 y1 y2 y3) cn).getD 3 0)) - (Int32.ofNat ((pSt (mk nn y0 y1 y2 y3) cn).getD 3 0))))])) t → Steps p.tables e below (s₁.setTop (entryFrame m #[(.int xa), (.int xb), (.int xc), (.int xd), (.int xk)] maxLocals)) t := fun t k => pre58 t (st59.trans k)
        have pre61 : ∀ t, Steps p.tables e below (T59.setTop (mkF m 223 #[.val (.int xa), .val (.int xb), .val (.int xc), .val (.int xd), .val (.int xk), .val (.int (Int32.ofNat cn)), .val (.int (Int32.ofNat nn)), .val (.int (Int32.ofNat y0)), .val (.int (Int32.ofNat y1)), .val (.int (Int32.ofNat y2)), .val (.int (Int32.ofNat y3)), .val (.ref bx14), .val (.ref b17), .val (.int (1 : Int32))] [(.int (Int32.ofNat y3)), (.int (Int32.ofNat y2)), (.int (Int32.ofNat y1)), (.int (Int32.ofNat y0)), (.int (Int32.ofNat nn)), (.int (3 : Int32)), (.int ((Int32.ofNat ((pEn (mk nn y0 y1 y2 y3) cn).getD 3 0)) - (Int32.ofNat ((pSt (mk nn y0 y1 y2 y3) cn).getD 3 0))))])) t → Steps p.tables e below (s₁.setTop (entryFrame m #[(.int xa), (.int xb), (.int xc), (.int xd), (.int xk)] maxLocals)) t := fun t k => pre60 t (by
          show Steps p.tables e below (T59.setTop (mkF m 212 #[.val (.int xa), .val (.int xb), .val (.int xc), .val (.int xd), .val (.int xk), .val (.int (Int32.ofNat cn)), .val (.int (Int32.ofNat nn)), .val (.int (Int32.ofNat y0)), .val (.int (Int32.ofNat y1)), .val (.int (Int32.ofNat y2)), .val (.int (Int32.ofNat y3)), .val (.ref bx14), .val (.ref b17), .val (.int (1 : Int32))] [(.int ((Int32.ofNat ((pEn (mk nn y0 y1 y2 y3) cn).getD 3 0)) - (Int32.ofNat ((pSt (mk nn y0 y1 y2 y3) cn).getD 3 0))))])) _
          refine XS.iconst X59.here hx rfl (hb hby at_212) ?_
          refine XS.iload X59.here hx rfl (hb hby at_213) rfl ?_
          refine XS.iload X59.here hx rfl (hb hby at_215) rfl ?_
          refine XS.iload X59.here hx rfl (hb hby at_217) rfl ?_
          refine XS.iload X59.here hx rfl (hb hby at_219) rfl ?_
          refine XS.iload X59.here hx rfl (hb hby at_221) rfl ?_
          exact k)
        obtain ⟨_, _, ⟨T62, L62, k62, n62⟩, -, X62, ⟨Lc62, hQ62, l62, y62, z62⟩, st62⟩ := Jvm.LawKit.callS X59 hx (y := (⟨"com/example/witgen/witgen/regex/PartitionSizePinLaw", "ref", "(IIIIII)I"⟩ : MethodName)) hown (mvT hZ (hw _ (List.mem_of_getElem? (i := 55) rfl))) (mvT hZ (hw _ (List.mem_of_getElem? (i := 56) rfl))) (mvT hZ (hw _ (List.mem_of_getElem? (i := 3) rfl))) (mvT hZ (hw _ (List.mem_of_getElem? (i := 57) rfl))) (by decide) (backOf (W := 1) (rm7 l Z a0 hw [] (3 : Int32) (Int32.ofNat nn) (Int32.ofNat y0) (Int32.ofNat y1) (Int32.ofNat y2) (Int32.ofNat y3)  T59.heap n0 _ R59 ) hZ (hw _ (List.mem_of_getElem? (i := 57) rfl)) (hw _ (List.mem_of_getElem? (i := 3) rfl)) (by decide) (by decide)) (g := (mkF m 223 #[.val (.int xa), .val (.int xb), .val (.int xc), .val (.int xd), .val (.int xk), .val (.int (Int32.ofNat cn)), .val (.int (Int32.ofNat nn)), .val (.int (Int32.ofNat y0)), .val (.int (Int32.ofNat y1)), .val (.int (Int32.ofNat y2)), .val (.int (Int32.ofNat y3)), .val (.ref bx14), .val (.ref b17), .val (.int (1 : Int32))] [(.int (Int32.ofNat y3)), (.int (Int32.ofNat y2)), (.int (Int32.ofNat y1)), (.int (Int32.ofNat y0)), (.int (Int32.ofNat nn)), (.int (3 : Int32)), (.int ((Int32.ofNat ((pEn (mk nn y0 y1 y2 y3) cn).getD 3 0)) - (Int32.ofNat ((pSt (mk nn y0 y1 y2 y3) cn).getD 3 0))))])) rfl (by rw [hml]; rfl) (argsL := [(.int (3 : Int32)), (.int (Int32.ofNat nn)), (.int (Int32.ofNat y0)), (.int (Int32.ofNat y1)), (.int (Int32.ofNat y2)), (.int (Int32.ofNat y3))]) (rest := [(.int ((Int32.ofNat ((pEn (mk nn y0 y1 y2 y3) cn).getD 3 0)) - (Int32.ofNat ((pSt (mk nn y0 y1 y2 y3) cn).getD 3 0))))]) (lenOf pd__28IIIIII_29I rfl) rfl (by show 2 * 0 + _ ≤ _; exact Nat.le_of_eq rfl) (hb hby at_223) (fun _ _ => ⟨rfl, rfl, (by decide : 10 + 0 ≤ _), (by decide : 65 + 0 ≤ _)⟩)
        dsimp only [Pt.U, Pt.locs, Pt.cells, Pt.slots] at X62 l62 y62 z62 st62 hQ62
        subst y62 z62
        obtain ⟨rfl, N62q, R62⟩ := hQ62
        have N62 : Fr n0 L62 := by rw [l62]; exact Fr.app N59 N62q
        replace R62 : Rep Z n0 T62.heap ((b17, Obj "com/example/witgen/witgen/regex/Partition" [("elements", "[I", (.ref b120)), ("location", "[I", (.ref b220)), ("blockOf", "[I", (.ref b320)), ("start", "[I", (.ref b420)), ("end", "[I", (.ref b520)), ("marked", "[I", (.ref b620)), ("touched", "[I", (.ref b720)), ("blocks", "I", (.int (Int32.ofNat cn)))]) :: (b420, Ar .int (nl (pSt (mk nn y0 y1 y2 y3) cn))) :: (b520, Ar .int (nl (pEn (mk nn y0 y1 y2 y3) cn))) :: (b120, Ar .int (nl (pS4 (mk nn y0 y1 y2 y3) cn).1)) :: (b220, Ar .int (nl (pS4 (mk nn y0 y1 y2 y3) cn).2.1)) :: (b320, Ar .int (nl (mk nn y0 y1 y2 y3))) :: (b620, Ar .int (nl (List.replicate (max (mk nn y0 y1 y2 y3).length cn) 0))) :: (b720, Ar .int (nl (List.replicate (max (mk nn y0 y1 y2 y3).length cn) 0))) :: (bx14, Ar .int (nl (mk nn y0 y1 y2 y3))) :: []) := R62
        have pre63 : ∀ t, Steps p.tables e below (T62.setTop (mkF m 226 #[.val (.int xa), .val (.int xb), .val (.int xc), .val (.int xd), .val (.int xk), .val (.int (Int32.ofNat cn)), .val (.int (Int32.ofNat nn)), .val (.int (Int32.ofNat y0)), .val (.int (Int32.ofNat y1)), .val (.int (Int32.ofNat y2)), .val (.int (Int32.ofNat y3)), .val (.ref bx14), .val (.ref b17), .val (.int (1 : Int32))] [(.int (F7 (3 : Int32) (Int32.ofNat nn) (Int32.ofNat y0) (Int32.ofNat y1) (Int32.ofNat y2) (Int32.ofNat y3))), (.int ((Int32.ofNat ((pEn (mk nn y0 y1 y2 y3) cn).getD 3 0)) - (Int32.ofNat ((pSt (mk nn y0 y1 y2 y3) cn).getD 3 0))))])) t → Steps p.tables e below (s₁.setTop (entryFrame m #[(.int xa), (.int xb), (.int xc), (.int xd), (.int xk)] maxLocals)) t := fun t k => pre61 t (st62 t k)
        have hb64 : ((Int32.ofNat ((pEn (mk nn y0 y1 y2 y3) cn).getD 3 0)) - (Int32.ofNat ((pSt (mk nn y0 y1 y2 y3) cn).getD 3 0))) = (F7 (3 : Int32) (Int32.ofNat nn) (Int32.ofNat y0) (Int32.ofNat y1) (Int32.ofNat y2) (Int32.ofNat y3)) := own_sz hok 3 (by have := own_gt (k := 3) hgt3 (by decide) (by omega); omega)
        have pre65 : ∀ t, Steps p.tables e below (T62.setTop (mkF m 238 #[.val (.int xa), .val (.int xb), .val (.int xc), .val (.int xd), .val (.int xk), .val (.int (Int32.ofNat cn)), .val (.int (Int32.ofNat nn)), .val (.int (Int32.ofNat y0)), .val (.int (Int32.ofNat y1)), .val (.int (Int32.ofNat y2)), .val (.int (Int32.ofNat y3)), .val (.ref bx14), .val (.ref b17), .val (.int (1 : Int32))] [(.int (1 : Int32))])) t → Steps p.tables e below (s₁.setTop (entryFrame m #[(.int xa), (.int xb), (.int xc), (.int xd), (.int xk)] maxLocals)) t := fun t k => pre63 t (by
          show Steps p.tables e below (T62.setTop (mkF m 226 #[.val (.int xa), .val (.int xb), .val (.int xc), .val (.int xd), .val (.int xk), .val (.int (Int32.ofNat cn)), .val (.int (Int32.ofNat nn)), .val (.int (Int32.ofNat y0)), .val (.int (Int32.ofNat y1)), .val (.int (Int32.ofNat y2)), .val (.int (Int32.ofNat y3)), .val (.ref bx14), .val (.ref b17), .val (.int (1 : Int32))] [(.int (F7 (3 : Int32) (Int32.ofNat nn) (Int32.ofNat y0) (Int32.ofNat y1) (Int32.ofNat y2) (Int32.ofNat y3))), (.int ((Int32.ofNat ((pEn (mk nn y0 y1 y2 y3) cn).getD 3 0)) - (Int32.ofNat ((pSt (mk nn y0 y1 y2 y3) cn).getD 3 0))))])) _
          refine XS.icmpNo X62.here hx rfl (hb hby at_226) rfl (teq hb64).2 ?_
          refine XS.iconst X62.here hx rfl (hb hby at_229) ?_
          refine XS.goto X62.here hx rfl (pc0 := 230) (pc' := 234) rfl (hb hby at_230) (by decide) (by decide) ?_
          refine XS.istore X62.here hx rfl (hb hby at_234) rfl (l' := #[.val (.int xa), .val (.int xb), .val (.int xc), .val (.int xd), .val (.int xk), .val (.int (Int32.ofNat cn)), .val (.int (Int32.ofNat nn)), .val (.int (Int32.ofNat y0)), .val (.int (Int32.ofNat y1)), .val (.int (Int32.ofNat y2)), .val (.int (Int32.ofNat y3)), .val (.ref bx14), .val (.ref b17), .val (.int (1 : Int32))]) rfl ?_
          refine XS.iload X62.here hx rfl (hb hby at_236) rfl ?_
          exact k)
        obtain ⟨fs, hr, hrun, hended, hW, hsame⟩ := X62.leave (v := some (.int (nar .boolean (1 : Int32)))) (fun h => by rw [Bd.returns] at h; cases h)
        refine ⟨_, _, pre65 _ ?_, hrun, hended, _, _, rfl, ?_, ⟨_, rfl⟩, hW, hsame.mono (by decide) (by decide)⟩
        · show Steps p.tables e below (T62.setTop (mkF m 238 #[.val (.int xa), .val (.int xb), .val (.int xc), .val (.int xd), .val (.int xk), .val (.int (Int32.ofNat cn)), .val (.int (Int32.ofNat nn)), .val (.int (Int32.ofNat y0)), .val (.int (Int32.ofNat y1)), .val (.int (Int32.ofNat y2)), .val (.int (Int32.ofNat y3)), .val (.ref bx14), .val (.ref b17), .val (.int (1 : Int32))] [(.int (1 : Int32))])) _
          exact retN X62 hx (t := .boolean) Bd.returns (by simp) (hb hby at_238) hr
        · show Q0 Z xa xb xc xd xk n0 [] _ T62.heap _
          have R66 : Rep Z n0 T62.heap ((b420, Ar .int (nl (pSt (mk nn y0 y1 y2 y3) cn))) :: (b520, Ar .int (nl (pEn (mk nn y0 y1 y2 y3) cn))) :: (b120, Ar .int (nl (pS4 (mk nn y0 y1 y2 y3) cn).1)) :: (b220, Ar .int (nl (pS4 (mk nn y0 y1 y2 y3) cn).2.1)) :: (b320, Ar .int (nl (mk nn y0 y1 y2 y3))) :: (b620, Ar .int (nl (List.replicate (max (mk nn y0 y1 y2 y3).length cn) 0))) :: (b720, Ar .int (nl (List.replicate (max (mk nn y0 y1 y2 y3).length cn) 0))) :: (bx14, Ar .int (nl (mk nn y0 y1 y2 y3))) :: []) := (R62.front 0 rfl rfl : Rep Z n0 T62.heap ((b17, Obj "com/example/witgen/witgen/regex/Partition" [("elements", "[I", (.ref b120)), ("location", "[I", (.ref b220)), ("blockOf", "[I", (.ref b320)), ("start", "[I", (.ref b420)), ("end", "[I", (.ref b520)), ("marked", "[I", (.ref b620)), ("touched", "[I", (.ref b720)), ("blocks", "I", (.int (Int32.ofNat cn)))]) :: (b420, Ar .int (nl (pSt (mk nn y0 y1 y2 y3) cn))) :: (b520, Ar .int (nl (pEn (mk nn y0 y1 y2 y3) cn))) :: (b120, Ar .int (nl (pS4 (mk nn y0 y1 y2 y3) cn).1)) :: (b220, Ar .int (nl (pS4 (mk nn y0 y1 y2 y3) cn).2.1)) :: (b320, Ar .int (nl (mk nn y0 y1 y2 y3))) :: (b620, Ar .int (nl (List.replicate (max (mk nn y0 y1 y2 y3).length cn) 0))) :: (b720, Ar .int (nl (List.replicate (max (mk nn y0 y1 y2 y3).length cn) 0))) :: (bx14, Ar .int (nl (mk nn y0 y1 y2 y3))) :: [])).tail
          have R67 : Rep Z n0 T62.heap ((b520, Ar .int (nl (pEn (mk nn y0 y1 y2 y3) cn))) :: (b120, Ar .int (nl (pS4 (mk nn y0 y1 y2 y3) cn).1)) :: (b220, Ar .int (nl (pS4 (mk nn y0 y1 y2 y3) cn).2.1)) :: (b320, Ar .int (nl (mk nn y0 y1 y2 y3))) :: (b620, Ar .int (nl (List.replicate (max (mk nn y0 y1 y2 y3).length cn) 0))) :: (b720, Ar .int (nl (List.replicate (max (mk nn y0 y1 y2 y3).length cn) 0))) :: (bx14, Ar .int (nl (mk nn y0 y1 y2 y3))) :: []) := (R66.front 0 rfl rfl : Rep Z n0 T62.heap ((b420, Ar .int (nl (pSt (mk nn y0 y1 y2 y3) cn))) :: (b520, Ar .int (nl (pEn (mk nn y0 y1 y2 y3) cn))) :: (b120, Ar .int (nl (pS4 (mk nn y0 y1 y2 y3) cn).1)) :: (b220, Ar .int (nl (pS4 (mk nn y0 y1 y2 y3) cn).2.1)) :: (b320, Ar .int (nl (mk nn y0 y1 y2 y3))) :: (b620, Ar .int (nl (List.replicate (max (mk nn y0 y1 y2 y3).length cn) 0))) :: (b720, Ar .int (nl (List.replicate (max (mk nn y0 y1 y2 y3).length cn) 0))) :: (bx14, Ar .int (nl (mk nn y0 y1 y2 y3))) :: [])).tail
          have R68 : Rep Z n0 T62.heap ((b120, Ar .int (nl (pS4 (mk nn y0 y1 y2 y3) cn).1)) :: (b220, Ar .int (nl (pS4 (mk nn y0 y1 y2 y3) cn).2.1)) :: (b320, Ar .int (nl (mk nn y0 y1 y2 y3))) :: (b620, Ar .int (nl (List.replicate (max (mk nn y0 y1 y2 y3).length cn) 0))) :: (b720, Ar .int (nl (List.replicate (max (mk nn y0 y1 y2 y3).length cn) 0))) :: (bx14, Ar .int (nl (mk nn y0 y1 y2 y3))) :: []) := (R67.front 0 rfl rfl : Rep Z n0 T62.heap ((b520, Ar .int (nl (pEn (mk nn y0 y1 y2 y3) cn))) :: (b120, Ar .int (nl (pS4 (mk nn y0 y1 y2 y3) cn).1)) :: (b220, Ar .int (nl (pS4 (mk nn y0 y1 y2 y3) cn).2.1)) :: (b320, Ar .int (nl (mk nn y0 y1 y2 y3))) :: (b620, Ar .int (nl (List.replicate (max (mk nn y0 y1 y2 y3).length cn) 0))) :: (b720, Ar .int (nl (List.replicate (max (mk nn y0 y1 y2 y3).length cn) 0))) :: (bx14, Ar .int (nl (mk nn y0 y1 y2 y3))) :: [])).tail
          have R69 : Rep Z n0 T62.heap ((b220, Ar .int (nl (pS4 (mk nn y0 y1 y2 y3) cn).2.1)) :: (b320, Ar .int (nl (mk nn y0 y1 y2 y3))) :: (b620, Ar .int (nl (List.replicate (max (mk nn y0 y1 y2 y3).length cn) 0))) :: (b720, Ar .int (nl (List.replicate (max (mk nn y0 y1 y2 y3).length cn) 0))) :: (bx14, Ar .int (nl (mk nn y0 y1 y2 y3))) :: []) := (R68.front 0 rfl rfl : Rep Z n0 T62.heap ((b120, Ar .int (nl (pS4 (mk nn y0 y1 y2 y3) cn).1)) :: (b220, Ar .int (nl (pS4 (mk nn y0 y1 y2 y3) cn).2.1)) :: (b320, Ar .int (nl (mk nn y0 y1 y2 y3))) :: (b620, Ar .int (nl (List.replicate (max (mk nn y0 y1 y2 y3).length cn) 0))) :: (b720, Ar .int (nl (List.replicate (max (mk nn y0 y1 y2 y3).length cn) 0))) :: (bx14, Ar .int (nl (mk nn y0 y1 y2 y3))) :: [])).tail
          have R70 : Rep Z n0 T62.heap ((b320, Ar .int (nl (mk nn y0 y1 y2 y3))) :: (b620, Ar .int (nl (List.replicate (max (mk nn y0 y1 y2 y3).length cn) 0))) :: (b720, Ar .int (nl (List.replicate (max (mk nn y0 y1 y2 y3).length cn) 0))) :: (bx14, Ar .int (nl (mk nn y0 y1 y2 y3))) :: []) := (R69.front 0 rfl rfl : Rep Z n0 T62.heap ((b220, Ar .int (nl (pS4 (mk nn y0 y1 y2 y3) cn).2.1)) :: (b320, Ar .int (nl (mk nn y0 y1 y2 y3))) :: (b620, Ar .int (nl (List.replicate (max (mk nn y0 y1 y2 y3).length cn) 0))) :: (b720, Ar .int (nl (List.replicate (max (mk nn y0 y1 y2 y3).length cn) 0))) :: (bx14, Ar .int (nl (mk nn y0 y1 y2 y3))) :: [])).tail
          have R71 : Rep Z n0 T62.heap ((b620, Ar .int (nl (List.replicate (max (mk nn y0 y1 y2 y3).length cn) 0))) :: (b720, Ar .int (nl (List.replicate (max (mk nn y0 y1 y2 y3).length cn) 0))) :: (bx14, Ar .int (nl (mk nn y0 y1 y2 y3))) :: []) := (R70.front 0 rfl rfl : Rep Z n0 T62.heap ((b320, Ar .int (nl (mk nn y0 y1 y2 y3))) :: (b620, Ar .int (nl (List.replicate (max (mk nn y0 y1 y2 y3).length cn) 0))) :: (b720, Ar .int (nl (List.replicate (max (mk nn y0 y1 y2 y3).length cn) 0))) :: (bx14, Ar .int (nl (mk nn y0 y1 y2 y3))) :: [])).tail
          have R72 : Rep Z n0 T62.heap ((b720, Ar .int (nl (List.replicate (max (mk nn y0 y1 y2 y3).length cn) 0))) :: (bx14, Ar .int (nl (mk nn y0 y1 y2 y3))) :: []) := (R71.front 0 rfl rfl : Rep Z n0 T62.heap ((b620, Ar .int (nl (List.replicate (max (mk nn y0 y1 y2 y3).length cn) 0))) :: (b720, Ar .int (nl (List.replicate (max (mk nn y0 y1 y2 y3).length cn) 0))) :: (bx14, Ar .int (nl (mk nn y0 y1 y2 y3))) :: [])).tail
          have R73 : Rep Z n0 T62.heap ((bx14, Ar .int (nl (mk nn y0 y1 y2 y3))) :: []) := (R72.front 0 rfl rfl : Rep Z n0 T62.heap ((b720, Ar .int (nl (List.replicate (max (mk nn y0 y1 y2 y3).length cn) 0))) :: (bx14, Ar .int (nl (mk nn y0 y1 y2 y3))) :: [])).tail
          have R74 : Rep Z n0 T62.heap ([]) := (R73.front 0 rfl rfl : Rep Z n0 T62.heap ((bx14, Ar .int (nl (mk nn y0 y1 y2 y3))) :: [])).tail
          exact ⟨(by rfl), N62, R74⟩
      · have pre75 : ∀ t, Steps p.tables e below (T51.setTop (mkF m 236 #[.val (.int xa), .val (.int xb), .val (.int xc), .val (.int xd), .val (.int xk), .val (.int (Int32.ofNat cn)), .val (.int (Int32.ofNat nn)), .val (.int (Int32.ofNat y0)), .val (.int (Int32.ofNat y1)), .val (.int (Int32.ofNat y2)), .val (.int (Int32.ofNat y3)), .val (.ref bx14), .val (.ref b17), .val (.int (1 : Int32))] [])) t → Steps p.tables e below (s₁.setTop (entryFrame m #[(.int xa), (.int xb), (.int xc), (.int xd), (.int xk)] maxLocals)) t := fun t k => pre54 t (by show Steps p.tables e below (T51.setTop (mkF m 198 #[.val (.int xa), .val (.int xb), .val (.int xc), .val (.int xd), .val (.int xk), .val (.int (Int32.ofNat cn)), .val (.int (Int32.ofNat nn)), .val (.int (Int32.ofNat y0)), .val (.int (Int32.ofNat y1)), .val (.int (Int32.ofNat y2)), .val (.int (Int32.ofNat y3)), .val (.ref bx14), .val (.ref b17), .val (.int (1 : Int32))] [(.int (3 : Int32)), (.int (Int32.ofNat cn))])) _; refine XS.icmpYes X51.here hx rfl (pc0 := 198) (pc' := 236) rfl (hb hby at_198) rfl (flt hgt3).2.2.2 (by decide) (by decide) ?_; exact k)
        have pre76 : ∀ t, Steps p.tables e below (T51.setTop (mkF m 238 #[.val (.int xa), .val (.int xb), .val (.int xc), .val (.int xd), .val (.int xk), .val (.int (Int32.ofNat cn)), .val (.int (Int32.ofNat nn)), .val (.int (Int32.ofNat y0)), .val (.int (Int32.ofNat y1)), .val (.int (Int32.ofNat y2)), .val (.int (Int32.ofNat y3)), .val (.ref bx14), .val (.ref b17), .val (.int (1 : Int32))] [(.int (1 : Int32))])) t → Steps p.tables e below (s₁.setTop (entryFrame m #[(.int xa), (.int xb), (.int xc), (.int xd), (.int xk)] maxLocals)) t := fun t k => pre75 t (by
          show Steps p.tables e below (T51.setTop (mkF m 236 #[.val (.int xa), .val (.int xb), .val (.int xc), .val (.int xd), .val (.int xk), .val (.int (Int32.ofNat cn)), .val (.int (Int32.ofNat nn)), .val (.int (Int32.ofNat y0)), .val (.int (Int32.ofNat y1)), .val (.int (Int32.ofNat y2)), .val (.int (Int32.ofNat y3)), .val (.ref bx14), .val (.ref b17), .val (.int (1 : Int32))] [])) _
          refine XS.iload X51.here hx rfl (hb hby at_236) rfl ?_
          exact k)
        obtain ⟨fs, hr, hrun, hended, hW, hsame⟩ := X51.leave (v := some (.int (nar .boolean (1 : Int32)))) (fun h => by rw [Bd.returns] at h; cases h)
        refine ⟨_, _, pre76 _ ?_, hrun, hended, _, _, rfl, ?_, ⟨_, rfl⟩, hW, hsame.mono (by decide) (by decide)⟩
        · show Steps p.tables e below (T51.setTop (mkF m 238 #[.val (.int xa), .val (.int xb), .val (.int xc), .val (.int xd), .val (.int xk), .val (.int (Int32.ofNat cn)), .val (.int (Int32.ofNat nn)), .val (.int (Int32.ofNat y0)), .val (.int (Int32.ofNat y1)), .val (.int (Int32.ofNat y2)), .val (.int (Int32.ofNat y3)), .val (.ref bx14), .val (.ref b17), .val (.int (1 : Int32))] [(.int (1 : Int32))])) _
          exact retN X51 hx (t := .boolean) Bd.returns (by simp) (hb hby at_238) hr
        · show Q0 Z xa xb xc xd xk n0 [] _ T51.heap _
          have R77 : Rep Z n0 T51.heap ((b420, Ar .int (nl (pSt (mk nn y0 y1 y2 y3) cn))) :: (b520, Ar .int (nl (pEn (mk nn y0 y1 y2 y3) cn))) :: (b120, Ar .int (nl (pS4 (mk nn y0 y1 y2 y3) cn).1)) :: (b220, Ar .int (nl (pS4 (mk nn y0 y1 y2 y3) cn).2.1)) :: (b320, Ar .int (nl (mk nn y0 y1 y2 y3))) :: (b620, Ar .int (nl (List.replicate (max (mk nn y0 y1 y2 y3).length cn) 0))) :: (b720, Ar .int (nl (List.replicate (max (mk nn y0 y1 y2 y3).length cn) 0))) :: (bx14, Ar .int (nl (mk nn y0 y1 y2 y3))) :: []) := (R51.front 0 rfl rfl : Rep Z n0 T51.heap ((b17, Obj "com/example/witgen/witgen/regex/Partition" [("elements", "[I", (.ref b120)), ("location", "[I", (.ref b220)), ("blockOf", "[I", (.ref b320)), ("start", "[I", (.ref b420)), ("end", "[I", (.ref b520)), ("marked", "[I", (.ref b620)), ("touched", "[I", (.ref b720)), ("blocks", "I", (.int (Int32.ofNat cn)))]) :: (b420, Ar .int (nl (pSt (mk nn y0 y1 y2 y3) cn))) :: (b520, Ar .int (nl (pEn (mk nn y0 y1 y2 y3) cn))) :: (b120, Ar .int (nl (pS4 (mk nn y0 y1 y2 y3) cn).1)) :: (b220, Ar .int (nl (pS4 (mk nn y0 y1 y2 y3) cn).2.1)) :: (b320, Ar .int (nl (mk nn y0 y1 y2 y3))) :: (b620, Ar .int (nl (List.replicate (max (mk nn y0 y1 y2 y3).length cn) 0))) :: (b720, Ar .int (nl (List.replicate (max (mk nn y0 y1 y2 y3).length cn) 0))) :: (bx14, Ar .int (nl (mk nn y0 y1 y2 y3))) :: [])).tail
          have R78 : Rep Z n0 T51.heap ((b520, Ar .int (nl (pEn (mk nn y0 y1 y2 y3) cn))) :: (b120, Ar .int (nl (pS4 (mk nn y0 y1 y2 y3) cn).1)) :: (b220, Ar .int (nl (pS4 (mk nn y0 y1 y2 y3) cn).2.1)) :: (b320, Ar .int (nl (mk nn y0 y1 y2 y3))) :: (b620, Ar .int (nl (List.replicate (max (mk nn y0 y1 y2 y3).length cn) 0))) :: (b720, Ar .int (nl (List.replicate (max (mk nn y0 y1 y2 y3).length cn) 0))) :: (bx14, Ar .int (nl (mk nn y0 y1 y2 y3))) :: []) := (R77.front 0 rfl rfl : Rep Z n0 T51.heap ((b420, Ar .int (nl (pSt (mk nn y0 y1 y2 y3) cn))) :: (b520, Ar .int (nl (pEn (mk nn y0 y1 y2 y3) cn))) :: (b120, Ar .int (nl (pS4 (mk nn y0 y1 y2 y3) cn).1)) :: (b220, Ar .int (nl (pS4 (mk nn y0 y1 y2 y3) cn).2.1)) :: (b320, Ar .int (nl (mk nn y0 y1 y2 y3))) :: (b620, Ar .int (nl (List.replicate (max (mk nn y0 y1 y2 y3).length cn) 0))) :: (b720, Ar .int (nl (List.replicate (max (mk nn y0 y1 y2 y3).length cn) 0))) :: (bx14, Ar .int (nl (mk nn y0 y1 y2 y3))) :: [])).tail
          have R79 : Rep Z n0 T51.heap ((b120, Ar .int (nl (pS4 (mk nn y0 y1 y2 y3) cn).1)) :: (b220, Ar .int (nl (pS4 (mk nn y0 y1 y2 y3) cn).2.1)) :: (b320, Ar .int (nl (mk nn y0 y1 y2 y3))) :: (b620, Ar .int (nl (List.replicate (max (mk nn y0 y1 y2 y3).length cn) 0))) :: (b720, Ar .int (nl (List.replicate (max (mk nn y0 y1 y2 y3).length cn) 0))) :: (bx14, Ar .int (nl (mk nn y0 y1 y2 y3))) :: []) := (R78.front 0 rfl rfl : Rep Z n0 T51.heap ((b520, Ar .int (nl (pEn (mk nn y0 y1 y2 y3) cn))) :: (b120, Ar .int (nl (pS4 (mk nn y0 y1 y2 y3) cn).1)) :: (b220, Ar .int (nl (pS4 (mk nn y0 y1 y2 y3) cn).2.1)) :: (b320, Ar .int (nl (mk nn y0 y1 y2 y3))) :: (b620, Ar .int (nl (List.replicate (max (mk nn y0 y1 y2 y3).length cn) 0))) :: (b720, Ar .int (nl (List.replicate (max (mk nn y0 y1 y2 y3).length cn) 0))) :: (bx14, Ar .int (nl (mk nn y0 y1 y2 y3))) :: [])).tail
          have R80 : Rep Z n0 T51.heap ((b220, Ar .int (nl (pS4 (mk nn y0 y1 y2 y3) cn).2.1)) :: (b320, Ar .int (nl (mk nn y0 y1 y2 y3))) :: (b620, Ar .int (nl (List.replicate (max (mk nn y0 y1 y2 y3).length cn) 0))) :: (b720, Ar .int (nl (List.replicate (max (mk nn y0 y1 y2 y3).length cn) 0))) :: (bx14, Ar .int (nl (mk nn y0 y1 y2 y3))) :: []) := (R79.front 0 rfl rfl : Rep Z n0 T51.heap ((b120, Ar .int (nl (pS4 (mk nn y0 y1 y2 y3) cn).1)) :: (b220, Ar .int (nl (pS4 (mk nn y0 y1 y2 y3) cn).2.1)) :: (b320, Ar .int (nl (mk nn y0 y1 y2 y3))) :: (b620, Ar .int (nl (List.replicate (max (mk nn y0 y1 y2 y3).length cn) 0))) :: (b720, Ar .int (nl (List.replicate (max (mk nn y0 y1 y2 y3).length cn) 0))) :: (bx14, Ar .int (nl (mk nn y0 y1 y2 y3))) :: [])).tail
          have R81 : Rep Z n0 T51.heap ((b320, Ar .int (nl (mk nn y0 y1 y2 y3))) :: (b620, Ar .int (nl (List.replicate (max (mk nn y0 y1 y2 y3).length cn) 0))) :: (b720, Ar .int (nl (List.replicate (max (mk nn y0 y1 y2 y3).length cn) 0))) :: (bx14, Ar .int (nl (mk nn y0 y1 y2 y3))) :: []) := (R80.front 0 rfl rfl : Rep Z n0 T51.heap ((b220, Ar .int (nl (pS4 (mk nn y0 y1 y2 y3) cn).2.1)) :: (b320, Ar .int (nl (mk nn y0 y1 y2 y3))) :: (b620, Ar .int (nl (List.replicate (max (mk nn y0 y1 y2 y3).length cn) 0))) :: (b720, Ar .int (nl (List.replicate (max (mk nn y0 y1 y2 y3).length cn) 0))) :: (bx14, Ar .int (nl (mk nn y0 y1 y2 y3))) :: [])).tail
          have R82 : Rep Z n0 T51.heap ((b620, Ar .int (nl (List.replicate (max (mk nn y0 y1 y2 y3).length cn) 0))) :: (b720, Ar .int (nl (List.replicate (max (mk nn y0 y1 y2 y3).length cn) 0))) :: (bx14, Ar .int (nl (mk nn y0 y1 y2 y3))) :: []) := (R81.front 0 rfl rfl : Rep Z n0 T51.heap ((b320, Ar .int (nl (mk nn y0 y1 y2 y3))) :: (b620, Ar .int (nl (List.replicate (max (mk nn y0 y1 y2 y3).length cn) 0))) :: (b720, Ar .int (nl (List.replicate (max (mk nn y0 y1 y2 y3).length cn) 0))) :: (bx14, Ar .int (nl (mk nn y0 y1 y2 y3))) :: [])).tail
          have R83 : Rep Z n0 T51.heap ((b720, Ar .int (nl (List.replicate (max (mk nn y0 y1 y2 y3).length cn) 0))) :: (bx14, Ar .int (nl (mk nn y0 y1 y2 y3))) :: []) := (R82.front 0 rfl rfl : Rep Z n0 T51.heap ((b620, Ar .int (nl (List.replicate (max (mk nn y0 y1 y2 y3).length cn) 0))) :: (b720, Ar .int (nl (List.replicate (max (mk nn y0 y1 y2 y3).length cn) 0))) :: (bx14, Ar .int (nl (mk nn y0 y1 y2 y3))) :: [])).tail
          have R84 : Rep Z n0 T51.heap ((bx14, Ar .int (nl (mk nn y0 y1 y2 y3))) :: []) := (R83.front 0 rfl rfl : Rep Z n0 T51.heap ((b720, Ar .int (nl (List.replicate (max (mk nn y0 y1 y2 y3).length cn) 0))) :: (bx14, Ar .int (nl (mk nn y0 y1 y2 y3))) :: [])).tail
          have R85 : Rep Z n0 T51.heap ([]) := (R84.front 0 rfl rfl : Rep Z n0 T51.heap ((bx14, Ar .int (nl (mk nn y0 y1 y2 y3))) :: [])).tail
          exact ⟨(by rfl), N51, R85⟩
    · have pre86 : ∀ t, Steps p.tables e below (T40.setTop (mkF m 195 #[.val (.int xa), .val (.int xb), .val (.int xc), .val (.int xd), .val (.int xk), .val (.int (Int32.ofNat cn)), .val (.int (Int32.ofNat nn)), .val (.int (Int32.ofNat y0)), .val (.int (Int32.ofNat y1)), .val (.int (Int32.ofNat y2)), .val (.int (Int32.ofNat y3)), .val (.ref bx14), .val (.ref b17), .val (.int (1 : Int32))] [])) t → Steps p.tables e below (s₁.setTop (entryFrame m #[(.int xa), (.int xb), (.int xc), (.int xd), (.int xk)] maxLocals)) t := fun t k => pre43 t (by show Steps p.tables e below (T40.setTop (mkF m 157 #[.val (.int xa), .val (.int xb), .val (.int xc), .val (.int xd), .val (.int xk), .val (.int (Int32.ofNat cn)), .val (.int (Int32.ofNat nn)), .val (.int (Int32.ofNat y0)), .val (.int (Int32.ofNat y1)), .val (.int (Int32.ofNat y2)), .val (.int (Int32.ofNat y3)), .val (.ref bx14), .val (.ref b17), .val (.int (1 : Int32))] [(.int (2 : Int32)), (.int (Int32.ofNat cn))])) _; refine XS.icmpYes X40.here hx rfl (pc0 := 157) (pc' := 195) rfl (hb hby at_157) rfl (flt hgt2).2.2.2 (by decide) (by decide) ?_; exact k)
      have pre88 : ∀ t, Steps p.tables e below (T40.setTop (mkF m 198 #[.val (.int xa), .val (.int xb), .val (.int xc), .val (.int xd), .val (.int xk), .val (.int (Int32.ofNat cn)), .val (.int (Int32.ofNat nn)), .val (.int (Int32.ofNat y0)), .val (.int (Int32.ofNat y1)), .val (.int (Int32.ofNat y2)), .val (.int (Int32.ofNat y3)), .val (.ref bx14), .val (.ref b17), .val (.int (1 : Int32))] [(.int (3 : Int32)), (.int (Int32.ofNat cn))])) t → Steps p.tables e below (s₁.setTop (entryFrame m #[(.int xa), (.int xb), (.int xc), (.int xd), (.int xk)] maxLocals)) t := fun t k => pre86 t (by
        show Steps p.tables e below (T40.setTop (mkF m 195 #[.val (.int xa), .val (.int xb), .val (.int xc), .val (.int xd), .val (.int xk), .val (.int (Int32.ofNat cn)), .val (.int (Int32.ofNat nn)), .val (.int (Int32.ofNat y0)), .val (.int (Int32.ofNat y1)), .val (.int (Int32.ofNat y2)), .val (.int (Int32.ofNat y3)), .val (.ref bx14), .val (.ref b17), .val (.int (1 : Int32))] [])) _
        refine XS.iload X40.here hx rfl (hb hby at_195) rfl ?_
        refine XS.iconst X40.here hx rfl (hb hby at_197) ?_
        exact k)
      have hb87 : ¬ ((3 : Int32) < (Int32.ofNat cn)) := fun q => hgt2 (Int32.lt_trans (by decide) q)
      have pre89 : ∀ t, Steps p.tables e below (T40.setTop (mkF m 238 #[.val (.int xa), .val (.int xb), .val (.int xc), .val (.int xd), .val (.int xk), .val (.int (Int32.ofNat cn)), .val (.int (Int32.ofNat nn)), .val (.int (Int32.ofNat y0)), .val (.int (Int32.ofNat y1)), .val (.int (Int32.ofNat y2)), .val (.int (Int32.ofNat y3)), .val (.ref bx14), .val (.ref b17), .val (.int (1 : Int32))] [(.int (1 : Int32))])) t → Steps p.tables e below (s₁.setTop (entryFrame m #[(.int xa), (.int xb), (.int xc), (.int xd), (.int xk)] maxLocals)) t := fun t k => pre88 t (by
        show Steps p.tables e below (T40.setTop (mkF m 198 #[.val (.int xa), .val (.int xb), .val (.int xc), .val (.int xd), .val (.int xk), .val (.int (Int32.ofNat cn)), .val (.int (Int32.ofNat nn)), .val (.int (Int32.ofNat y0)), .val (.int (Int32.ofNat y1)), .val (.int (Int32.ofNat y2)), .val (.int (Int32.ofNat y3)), .val (.ref bx14), .val (.ref b17), .val (.int (1 : Int32))] [(.int (3 : Int32)), (.int (Int32.ofNat cn))])) _
        refine XS.icmpYes X40.here hx rfl (pc0 := 198) (pc' := 236) rfl (hb hby at_198) rfl (flt hb87).2.2.2 (by decide) (by decide) ?_
        refine XS.iload X40.here hx rfl (hb hby at_236) rfl ?_
        exact k)
      obtain ⟨fs, hr, hrun, hended, hW, hsame⟩ := X40.leave (v := some (.int (nar .boolean (1 : Int32)))) (fun h => by rw [Bd.returns] at h; cases h)
      refine ⟨_, _, pre89 _ ?_, hrun, hended, _, _, rfl, ?_, ⟨_, rfl⟩, hW, hsame.mono (by decide) (by decide)⟩
      · show Steps p.tables e below (T40.setTop (mkF m 238 #[.val (.int xa), .val (.int xb), .val (.int xc), .val (.int xd), .val (.int xk), .val (.int (Int32.ofNat cn)), .val (.int (Int32.ofNat nn)), .val (.int (Int32.ofNat y0)), .val (.int (Int32.ofNat y1)), .val (.int (Int32.ofNat y2)), .val (.int (Int32.ofNat y3)), .val (.ref bx14), .val (.ref b17), .val (.int (1 : Int32))] [(.int (1 : Int32))])) _
        exact retN X40 hx (t := .boolean) Bd.returns (by simp) (hb hby at_238) hr
      · show Q0 Z xa xb xc xd xk n0 [] _ T40.heap _
        have R90 : Rep Z n0 T40.heap ((b420, Ar .int (nl (pSt (mk nn y0 y1 y2 y3) cn))) :: (b520, Ar .int (nl (pEn (mk nn y0 y1 y2 y3) cn))) :: (b120, Ar .int (nl (pS4 (mk nn y0 y1 y2 y3) cn).1)) :: (b220, Ar .int (nl (pS4 (mk nn y0 y1 y2 y3) cn).2.1)) :: (b320, Ar .int (nl (mk nn y0 y1 y2 y3))) :: (b620, Ar .int (nl (List.replicate (max (mk nn y0 y1 y2 y3).length cn) 0))) :: (b720, Ar .int (nl (List.replicate (max (mk nn y0 y1 y2 y3).length cn) 0))) :: (bx14, Ar .int (nl (mk nn y0 y1 y2 y3))) :: []) := (R40.front 0 rfl rfl : Rep Z n0 T40.heap ((b17, Obj "com/example/witgen/witgen/regex/Partition" [("elements", "[I", (.ref b120)), ("location", "[I", (.ref b220)), ("blockOf", "[I", (.ref b320)), ("start", "[I", (.ref b420)), ("end", "[I", (.ref b520)), ("marked", "[I", (.ref b620)), ("touched", "[I", (.ref b720)), ("blocks", "I", (.int (Int32.ofNat cn)))]) :: (b420, Ar .int (nl (pSt (mk nn y0 y1 y2 y3) cn))) :: (b520, Ar .int (nl (pEn (mk nn y0 y1 y2 y3) cn))) :: (b120, Ar .int (nl (pS4 (mk nn y0 y1 y2 y3) cn).1)) :: (b220, Ar .int (nl (pS4 (mk nn y0 y1 y2 y3) cn).2.1)) :: (b320, Ar .int (nl (mk nn y0 y1 y2 y3))) :: (b620, Ar .int (nl (List.replicate (max (mk nn y0 y1 y2 y3).length cn) 0))) :: (b720, Ar .int (nl (List.replicate (max (mk nn y0 y1 y2 y3).length cn) 0))) :: (bx14, Ar .int (nl (mk nn y0 y1 y2 y3))) :: [])).tail
        have R91 : Rep Z n0 T40.heap ((b520, Ar .int (nl (pEn (mk nn y0 y1 y2 y3) cn))) :: (b120, Ar .int (nl (pS4 (mk nn y0 y1 y2 y3) cn).1)) :: (b220, Ar .int (nl (pS4 (mk nn y0 y1 y2 y3) cn).2.1)) :: (b320, Ar .int (nl (mk nn y0 y1 y2 y3))) :: (b620, Ar .int (nl (List.replicate (max (mk nn y0 y1 y2 y3).length cn) 0))) :: (b720, Ar .int (nl (List.replicate (max (mk nn y0 y1 y2 y3).length cn) 0))) :: (bx14, Ar .int (nl (mk nn y0 y1 y2 y3))) :: []) := (R90.front 0 rfl rfl : Rep Z n0 T40.heap ((b420, Ar .int (nl (pSt (mk nn y0 y1 y2 y3) cn))) :: (b520, Ar .int (nl (pEn (mk nn y0 y1 y2 y3) cn))) :: (b120, Ar .int (nl (pS4 (mk nn y0 y1 y2 y3) cn).1)) :: (b220, Ar .int (nl (pS4 (mk nn y0 y1 y2 y3) cn).2.1)) :: (b320, Ar .int (nl (mk nn y0 y1 y2 y3))) :: (b620, Ar .int (nl (List.replicate (max (mk nn y0 y1 y2 y3).length cn) 0))) :: (b720, Ar .int (nl (List.replicate (max (mk nn y0 y1 y2 y3).length cn) 0))) :: (bx14, Ar .int (nl (mk nn y0 y1 y2 y3))) :: [])).tail
        have R92 : Rep Z n0 T40.heap ((b120, Ar .int (nl (pS4 (mk nn y0 y1 y2 y3) cn).1)) :: (b220, Ar .int (nl (pS4 (mk nn y0 y1 y2 y3) cn).2.1)) :: (b320, Ar .int (nl (mk nn y0 y1 y2 y3))) :: (b620, Ar .int (nl (List.replicate (max (mk nn y0 y1 y2 y3).length cn) 0))) :: (b720, Ar .int (nl (List.replicate (max (mk nn y0 y1 y2 y3).length cn) 0))) :: (bx14, Ar .int (nl (mk nn y0 y1 y2 y3))) :: []) := (R91.front 0 rfl rfl : Rep Z n0 T40.heap ((b520, Ar .int (nl (pEn (mk nn y0 y1 y2 y3) cn))) :: (b120, Ar .int (nl (pS4 (mk nn y0 y1 y2 y3) cn).1)) :: (b220, Ar .int (nl (pS4 (mk nn y0 y1 y2 y3) cn).2.1)) :: (b320, Ar .int (nl (mk nn y0 y1 y2 y3))) :: (b620, Ar .int (nl (List.replicate (max (mk nn y0 y1 y2 y3).length cn) 0))) :: (b720, Ar .int (nl (List.replicate (max (mk nn y0 y1 y2 y3).length cn) 0))) :: (bx14, Ar .int (nl (mk nn y0 y1 y2 y3))) :: [])).tail
        have R93 : Rep Z n0 T40.heap ((b220, Ar .int (nl (pS4 (mk nn y0 y1 y2 y3) cn).2.1)) :: (b320, Ar .int (nl (mk nn y0 y1 y2 y3))) :: (b620, Ar .int (nl (List.replicate (max (mk nn y0 y1 y2 y3).length cn) 0))) :: (b720, Ar .int (nl (List.replicate (max (mk nn y0 y1 y2 y3).length cn) 0))) :: (bx14, Ar .int (nl (mk nn y0 y1 y2 y3))) :: []) := (R92.front 0 rfl rfl : Rep Z n0 T40.heap ((b120, Ar .int (nl (pS4 (mk nn y0 y1 y2 y3) cn).1)) :: (b220, Ar .int (nl (pS4 (mk nn y0 y1 y2 y3) cn).2.1)) :: (b320, Ar .int (nl (mk nn y0 y1 y2 y3))) :: (b620, Ar .int (nl (List.replicate (max (mk nn y0 y1 y2 y3).length cn) 0))) :: (b720, Ar .int (nl (List.replicate (max (mk nn y0 y1 y2 y3).length cn) 0))) :: (bx14, Ar .int (nl (mk nn y0 y1 y2 y3))) :: [])).tail
        have R94 : Rep Z n0 T40.heap ((b320, Ar .int (nl (mk nn y0 y1 y2 y3))) :: (b620, Ar .int (nl (List.replicate (max (mk nn y0 y1 y2 y3).length cn) 0))) :: (b720, Ar .int (nl (List.replicate (max (mk nn y0 y1 y2 y3).length cn) 0))) :: (bx14, Ar .int (nl (mk nn y0 y1 y2 y3))) :: []) := (R93.front 0 rfl rfl : Rep Z n0 T40.heap ((b220, Ar .int (nl (pS4 (mk nn y0 y1 y2 y3) cn).2.1)) :: (b320, Ar .int (nl (mk nn y0 y1 y2 y3))) :: (b620, Ar .int (nl (List.replicate (max (mk nn y0 y1 y2 y3).length cn) 0))) :: (b720, Ar .int (nl (List.replicate (max (mk nn y0 y1 y2 y3).length cn) 0))) :: (bx14, Ar .int (nl (mk nn y0 y1 y2 y3))) :: [])).tail
        have R95 : Rep Z n0 T40.heap ((b620, Ar .int (nl (List.replicate (max (mk nn y0 y1 y2 y3).length cn) 0))) :: (b720, Ar .int (nl (List.replicate (max (mk nn y0 y1 y2 y3).length cn) 0))) :: (bx14, Ar .int (nl (mk nn y0 y1 y2 y3))) :: []) := (R94.front 0 rfl rfl : Rep Z n0 T40.heap ((b320, Ar .int (nl (mk nn y0 y1 y2 y3))) :: (b620, Ar .int (nl (List.replicate (max (mk nn y0 y1 y2 y3).length cn) 0))) :: (b720, Ar .int (nl (List.replicate (max (mk nn y0 y1 y2 y3).length cn) 0))) :: (bx14, Ar .int (nl (mk nn y0 y1 y2 y3))) :: [])).tail
        have R96 : Rep Z n0 T40.heap ((b720, Ar .int (nl (List.replicate (max (mk nn y0 y1 y2 y3).length cn) 0))) :: (bx14, Ar .int (nl (mk nn y0 y1 y2 y3))) :: []) := (R95.front 0 rfl rfl : Rep Z n0 T40.heap ((b620, Ar .int (nl (List.replicate (max (mk nn y0 y1 y2 y3).length cn) 0))) :: (b720, Ar .int (nl (List.replicate (max (mk nn y0 y1 y2 y3).length cn) 0))) :: (bx14, Ar .int (nl (mk nn y0 y1 y2 y3))) :: [])).tail
        have R97 : Rep Z n0 T40.heap ((bx14, Ar .int (nl (mk nn y0 y1 y2 y3))) :: []) := (R96.front 0 rfl rfl : Rep Z n0 T40.heap ((b720, Ar .int (nl (List.replicate (max (mk nn y0 y1 y2 y3).length cn) 0))) :: (bx14, Ar .int (nl (mk nn y0 y1 y2 y3))) :: [])).tail
        have R98 : Rep Z n0 T40.heap ([]) := (R97.front 0 rfl rfl : Rep Z n0 T40.heap ((bx14, Ar .int (nl (mk nn y0 y1 y2 y3))) :: [])).tail
        exact ⟨(by rfl), N40, R98⟩
  · have pre99 : ∀ t, Steps p.tables e below (T29.setTop (mkF m 154 #[.val (.int xa), .val (.int xb), .val (.int xc), .val (.int xd), .val (.int xk), .val (.int (Int32.ofNat cn)), .val (.int (Int32.ofNat nn)), .val (.int (Int32.ofNat y0)), .val (.int (Int32.ofNat y1)), .val (.int (Int32.ofNat y2)), .val (.int (Int32.ofNat y3)), .val (.ref bx14), .val (.ref b17), .val (.int (1 : Int32))] [])) t → Steps p.tables e below (s₁.setTop (entryFrame m #[(.int xa), (.int xb), (.int xc), (.int xd), (.int xk)] maxLocals)) t := fun t k => pre32 t (by show Steps p.tables e below (T29.setTop (mkF m 116 #[.val (.int xa), .val (.int xb), .val (.int xc), .val (.int xd), .val (.int xk), .val (.int (Int32.ofNat cn)), .val (.int (Int32.ofNat nn)), .val (.int (Int32.ofNat y0)), .val (.int (Int32.ofNat y1)), .val (.int (Int32.ofNat y2)), .val (.int (Int32.ofNat y3)), .val (.ref bx14), .val (.ref b17), .val (.int (1 : Int32))] [(.int (1 : Int32)), (.int (Int32.ofNat cn))])) _; refine XS.icmpYes X29.here hx rfl (pc0 := 116) (pc' := 154) rfl (hb hby at_116) rfl (flt hgt1).2.2.2 (by decide) (by decide) ?_; exact k)
    have pre101 : ∀ t, Steps p.tables e below (T29.setTop (mkF m 157 #[.val (.int xa), .val (.int xb), .val (.int xc), .val (.int xd), .val (.int xk), .val (.int (Int32.ofNat cn)), .val (.int (Int32.ofNat nn)), .val (.int (Int32.ofNat y0)), .val (.int (Int32.ofNat y1)), .val (.int (Int32.ofNat y2)), .val (.int (Int32.ofNat y3)), .val (.ref bx14), .val (.ref b17), .val (.int (1 : Int32))] [(.int (2 : Int32)), (.int (Int32.ofNat cn))])) t → Steps p.tables e below (s₁.setTop (entryFrame m #[(.int xa), (.int xb), (.int xc), (.int xd), (.int xk)] maxLocals)) t := fun t k => pre99 t (by
      show Steps p.tables e below (T29.setTop (mkF m 154 #[.val (.int xa), .val (.int xb), .val (.int xc), .val (.int xd), .val (.int xk), .val (.int (Int32.ofNat cn)), .val (.int (Int32.ofNat nn)), .val (.int (Int32.ofNat y0)), .val (.int (Int32.ofNat y1)), .val (.int (Int32.ofNat y2)), .val (.int (Int32.ofNat y3)), .val (.ref bx14), .val (.ref b17), .val (.int (1 : Int32))] [])) _
      refine XS.iload X29.here hx rfl (hb hby at_154) rfl ?_
      refine XS.iconst X29.here hx rfl (hb hby at_156) ?_
      exact k)
    have hb100 : ¬ ((2 : Int32) < (Int32.ofNat cn)) := fun q => hgt1 (Int32.lt_trans (by decide) q)
    have pre103 : ∀ t, Steps p.tables e below (T29.setTop (mkF m 198 #[.val (.int xa), .val (.int xb), .val (.int xc), .val (.int xd), .val (.int xk), .val (.int (Int32.ofNat cn)), .val (.int (Int32.ofNat nn)), .val (.int (Int32.ofNat y0)), .val (.int (Int32.ofNat y1)), .val (.int (Int32.ofNat y2)), .val (.int (Int32.ofNat y3)), .val (.ref bx14), .val (.ref b17), .val (.int (1 : Int32))] [(.int (3 : Int32)), (.int (Int32.ofNat cn))])) t → Steps p.tables e below (s₁.setTop (entryFrame m #[(.int xa), (.int xb), (.int xc), (.int xd), (.int xk)] maxLocals)) t := fun t k => pre101 t (by
      show Steps p.tables e below (T29.setTop (mkF m 157 #[.val (.int xa), .val (.int xb), .val (.int xc), .val (.int xd), .val (.int xk), .val (.int (Int32.ofNat cn)), .val (.int (Int32.ofNat nn)), .val (.int (Int32.ofNat y0)), .val (.int (Int32.ofNat y1)), .val (.int (Int32.ofNat y2)), .val (.int (Int32.ofNat y3)), .val (.ref bx14), .val (.ref b17), .val (.int (1 : Int32))] [(.int (2 : Int32)), (.int (Int32.ofNat cn))])) _
      refine XS.icmpYes X29.here hx rfl (pc0 := 157) (pc' := 195) rfl (hb hby at_157) rfl (flt hb100).2.2.2 (by decide) (by decide) ?_
      refine XS.iload X29.here hx rfl (hb hby at_195) rfl ?_
      refine XS.iconst X29.here hx rfl (hb hby at_197) ?_
      exact k)
    have hb102 : ¬ ((3 : Int32) < (Int32.ofNat cn)) := fun q => hgt1 (Int32.lt_trans (by decide) q)
    have pre104 : ∀ t, Steps p.tables e below (T29.setTop (mkF m 238 #[.val (.int xa), .val (.int xb), .val (.int xc), .val (.int xd), .val (.int xk), .val (.int (Int32.ofNat cn)), .val (.int (Int32.ofNat nn)), .val (.int (Int32.ofNat y0)), .val (.int (Int32.ofNat y1)), .val (.int (Int32.ofNat y2)), .val (.int (Int32.ofNat y3)), .val (.ref bx14), .val (.ref b17), .val (.int (1 : Int32))] [(.int (1 : Int32))])) t → Steps p.tables e below (s₁.setTop (entryFrame m #[(.int xa), (.int xb), (.int xc), (.int xd), (.int xk)] maxLocals)) t := fun t k => pre103 t (by
      show Steps p.tables e below (T29.setTop (mkF m 198 #[.val (.int xa), .val (.int xb), .val (.int xc), .val (.int xd), .val (.int xk), .val (.int (Int32.ofNat cn)), .val (.int (Int32.ofNat nn)), .val (.int (Int32.ofNat y0)), .val (.int (Int32.ofNat y1)), .val (.int (Int32.ofNat y2)), .val (.int (Int32.ofNat y3)), .val (.ref bx14), .val (.ref b17), .val (.int (1 : Int32))] [(.int (3 : Int32)), (.int (Int32.ofNat cn))])) _
      refine XS.icmpYes X29.here hx rfl (pc0 := 198) (pc' := 236) rfl (hb hby at_198) rfl (flt hb102).2.2.2 (by decide) (by decide) ?_
      refine XS.iload X29.here hx rfl (hb hby at_236) rfl ?_
      exact k)
    obtain ⟨fs, hr, hrun, hended, hW, hsame⟩ := X29.leave (v := some (.int (nar .boolean (1 : Int32)))) (fun h => by rw [Bd.returns] at h; cases h)
    refine ⟨_, _, pre104 _ ?_, hrun, hended, _, _, rfl, ?_, ⟨_, rfl⟩, hW, hsame.mono (by decide) (by decide)⟩
    · show Steps p.tables e below (T29.setTop (mkF m 238 #[.val (.int xa), .val (.int xb), .val (.int xc), .val (.int xd), .val (.int xk), .val (.int (Int32.ofNat cn)), .val (.int (Int32.ofNat nn)), .val (.int (Int32.ofNat y0)), .val (.int (Int32.ofNat y1)), .val (.int (Int32.ofNat y2)), .val (.int (Int32.ofNat y3)), .val (.ref bx14), .val (.ref b17), .val (.int (1 : Int32))] [(.int (1 : Int32))])) _
      exact retN X29 hx (t := .boolean) Bd.returns (by simp) (hb hby at_238) hr
    · show Q0 Z xa xb xc xd xk n0 [] _ T29.heap _
      have R105 : Rep Z n0 T29.heap ((b420, Ar .int (nl (pSt (mk nn y0 y1 y2 y3) cn))) :: (b520, Ar .int (nl (pEn (mk nn y0 y1 y2 y3) cn))) :: (b120, Ar .int (nl (pS4 (mk nn y0 y1 y2 y3) cn).1)) :: (b220, Ar .int (nl (pS4 (mk nn y0 y1 y2 y3) cn).2.1)) :: (b320, Ar .int (nl (mk nn y0 y1 y2 y3))) :: (b620, Ar .int (nl (List.replicate (max (mk nn y0 y1 y2 y3).length cn) 0))) :: (b720, Ar .int (nl (List.replicate (max (mk nn y0 y1 y2 y3).length cn) 0))) :: (bx14, Ar .int (nl (mk nn y0 y1 y2 y3))) :: []) := (R29.front 0 rfl rfl : Rep Z n0 T29.heap ((b17, Obj "com/example/witgen/witgen/regex/Partition" [("elements", "[I", (.ref b120)), ("location", "[I", (.ref b220)), ("blockOf", "[I", (.ref b320)), ("start", "[I", (.ref b420)), ("end", "[I", (.ref b520)), ("marked", "[I", (.ref b620)), ("touched", "[I", (.ref b720)), ("blocks", "I", (.int (Int32.ofNat cn)))]) :: (b420, Ar .int (nl (pSt (mk nn y0 y1 y2 y3) cn))) :: (b520, Ar .int (nl (pEn (mk nn y0 y1 y2 y3) cn))) :: (b120, Ar .int (nl (pS4 (mk nn y0 y1 y2 y3) cn).1)) :: (b220, Ar .int (nl (pS4 (mk nn y0 y1 y2 y3) cn).2.1)) :: (b320, Ar .int (nl (mk nn y0 y1 y2 y3))) :: (b620, Ar .int (nl (List.replicate (max (mk nn y0 y1 y2 y3).length cn) 0))) :: (b720, Ar .int (nl (List.replicate (max (mk nn y0 y1 y2 y3).length cn) 0))) :: (bx14, Ar .int (nl (mk nn y0 y1 y2 y3))) :: [])).tail
      have R106 : Rep Z n0 T29.heap ((b520, Ar .int (nl (pEn (mk nn y0 y1 y2 y3) cn))) :: (b120, Ar .int (nl (pS4 (mk nn y0 y1 y2 y3) cn).1)) :: (b220, Ar .int (nl (pS4 (mk nn y0 y1 y2 y3) cn).2.1)) :: (b320, Ar .int (nl (mk nn y0 y1 y2 y3))) :: (b620, Ar .int (nl (List.replicate (max (mk nn y0 y1 y2 y3).length cn) 0))) :: (b720, Ar .int (nl (List.replicate (max (mk nn y0 y1 y2 y3).length cn) 0))) :: (bx14, Ar .int (nl (mk nn y0 y1 y2 y3))) :: []) := (R105.front 0 rfl rfl : Rep Z n0 T29.heap ((b420, Ar .int (nl (pSt (mk nn y0 y1 y2 y3) cn))) :: (b520, Ar .int (nl (pEn (mk nn y0 y1 y2 y3) cn))) :: (b120, Ar .int (nl (pS4 (mk nn y0 y1 y2 y3) cn).1)) :: (b220, Ar .int (nl (pS4 (mk nn y0 y1 y2 y3) cn).2.1)) :: (b320, Ar .int (nl (mk nn y0 y1 y2 y3))) :: (b620, Ar .int (nl (List.replicate (max (mk nn y0 y1 y2 y3).length cn) 0))) :: (b720, Ar .int (nl (List.replicate (max (mk nn y0 y1 y2 y3).length cn) 0))) :: (bx14, Ar .int (nl (mk nn y0 y1 y2 y3))) :: [])).tail
      have R107 : Rep Z n0 T29.heap ((b120, Ar .int (nl (pS4 (mk nn y0 y1 y2 y3) cn).1)) :: (b220, Ar .int (nl (pS4 (mk nn y0 y1 y2 y3) cn).2.1)) :: (b320, Ar .int (nl (mk nn y0 y1 y2 y3))) :: (b620, Ar .int (nl (List.replicate (max (mk nn y0 y1 y2 y3).length cn) 0))) :: (b720, Ar .int (nl (List.replicate (max (mk nn y0 y1 y2 y3).length cn) 0))) :: (bx14, Ar .int (nl (mk nn y0 y1 y2 y3))) :: []) := (R106.front 0 rfl rfl : Rep Z n0 T29.heap ((b520, Ar .int (nl (pEn (mk nn y0 y1 y2 y3) cn))) :: (b120, Ar .int (nl (pS4 (mk nn y0 y1 y2 y3) cn).1)) :: (b220, Ar .int (nl (pS4 (mk nn y0 y1 y2 y3) cn).2.1)) :: (b320, Ar .int (nl (mk nn y0 y1 y2 y3))) :: (b620, Ar .int (nl (List.replicate (max (mk nn y0 y1 y2 y3).length cn) 0))) :: (b720, Ar .int (nl (List.replicate (max (mk nn y0 y1 y2 y3).length cn) 0))) :: (bx14, Ar .int (nl (mk nn y0 y1 y2 y3))) :: [])).tail
      have R108 : Rep Z n0 T29.heap ((b220, Ar .int (nl (pS4 (mk nn y0 y1 y2 y3) cn).2.1)) :: (b320, Ar .int (nl (mk nn y0 y1 y2 y3))) :: (b620, Ar .int (nl (List.replicate (max (mk nn y0 y1 y2 y3).length cn) 0))) :: (b720, Ar .int (nl (List.replicate (max (mk nn y0 y1 y2 y3).length cn) 0))) :: (bx14, Ar .int (nl (mk nn y0 y1 y2 y3))) :: []) := (R107.front 0 rfl rfl : Rep Z n0 T29.heap ((b120, Ar .int (nl (pS4 (mk nn y0 y1 y2 y3) cn).1)) :: (b220, Ar .int (nl (pS4 (mk nn y0 y1 y2 y3) cn).2.1)) :: (b320, Ar .int (nl (mk nn y0 y1 y2 y3))) :: (b620, Ar .int (nl (List.replicate (max (mk nn y0 y1 y2 y3).length cn) 0))) :: (b720, Ar .int (nl (List.replicate (max (mk nn y0 y1 y2 y3).length cn) 0))) :: (bx14, Ar .int (nl (mk nn y0 y1 y2 y3))) :: [])).tail
      have R109 : Rep Z n0 T29.heap ((b320, Ar .int (nl (mk nn y0 y1 y2 y3))) :: (b620, Ar .int (nl (List.replicate (max (mk nn y0 y1 y2 y3).length cn) 0))) :: (b720, Ar .int (nl (List.replicate (max (mk nn y0 y1 y2 y3).length cn) 0))) :: (bx14, Ar .int (nl (mk nn y0 y1 y2 y3))) :: []) := (R108.front 0 rfl rfl : Rep Z n0 T29.heap ((b220, Ar .int (nl (pS4 (mk nn y0 y1 y2 y3) cn).2.1)) :: (b320, Ar .int (nl (mk nn y0 y1 y2 y3))) :: (b620, Ar .int (nl (List.replicate (max (mk nn y0 y1 y2 y3).length cn) 0))) :: (b720, Ar .int (nl (List.replicate (max (mk nn y0 y1 y2 y3).length cn) 0))) :: (bx14, Ar .int (nl (mk nn y0 y1 y2 y3))) :: [])).tail
      have R110 : Rep Z n0 T29.heap ((b620, Ar .int (nl (List.replicate (max (mk nn y0 y1 y2 y3).length cn) 0))) :: (b720, Ar .int (nl (List.replicate (max (mk nn y0 y1 y2 y3).length cn) 0))) :: (bx14, Ar .int (nl (mk nn y0 y1 y2 y3))) :: []) := (R109.front 0 rfl rfl : Rep Z n0 T29.heap ((b320, Ar .int (nl (mk nn y0 y1 y2 y3))) :: (b620, Ar .int (nl (List.replicate (max (mk nn y0 y1 y2 y3).length cn) 0))) :: (b720, Ar .int (nl (List.replicate (max (mk nn y0 y1 y2 y3).length cn) 0))) :: (bx14, Ar .int (nl (mk nn y0 y1 y2 y3))) :: [])).tail
      have R111 : Rep Z n0 T29.heap ((b720, Ar .int (nl (List.replicate (max (mk nn y0 y1 y2 y3).length cn) 0))) :: (bx14, Ar .int (nl (mk nn y0 y1 y2 y3))) :: []) := (R110.front 0 rfl rfl : Rep Z n0 T29.heap ((b620, Ar .int (nl (List.replicate (max (mk nn y0 y1 y2 y3).length cn) 0))) :: (b720, Ar .int (nl (List.replicate (max (mk nn y0 y1 y2 y3).length cn) 0))) :: (bx14, Ar .int (nl (mk nn y0 y1 y2 y3))) :: [])).tail
      have R112 : Rep Z n0 T29.heap ((bx14, Ar .int (nl (mk nn y0 y1 y2 y3))) :: []) := (R111.front 0 rfl rfl : Rep Z n0 T29.heap ((b720, Ar .int (nl (List.replicate (max (mk nn y0 y1 y2 y3).length cn) 0))) :: (bx14, Ar .int (nl (mk nn y0 y1 y2 y3))) :: [])).tail
      have R113 : Rep Z n0 T29.heap ([]) := (R112.front 0 rfl rfl : Rep Z n0 T29.heap ((bx14, Ar .int (nl (mk nn y0 y1 y2 y3))) :: [])).tail
      exact ⟨(by rfl), N29, R113⟩
set_option maxRecDepth 65536 in
set_option maxHeartbeats 40000000 in
theorem comes_1 {Post : Tables → Env → Array Value → State → Outcome → State → Prop} (hpost : ∀ tb e args s v u, (limb_1_1.after args s (.returned v) u = true ∧ limb_1_2.after args s (.returned v) u = true ∧ True) → FrameEnd s (.returned v) u (Jvm.fieldLocs frame_1_writes args s ++ Jvm.arrayLocs frame_1_arrays args s ++ Jvm.staticLocs frame_1_statics s) 32 192 → Post tb e args s (.returned v) u) :
    ArmFor flags0 classFile x code maxLocals ret World_1 tables_1 room_1 Calls_1 rest_1 Pre_1 Post := by
  intro l hfl _ _ p e ha hc hk s m args below hf hA hF happ hP
  obtain ⟨hcalls, hrest, hpre⟩ := hP
  obtain ⟨-, -, -, hnamed, -, -, -, hat⟩ := (Spec.applies_iff hf).mp happ
  obtain ⟨hg, hn⟩ := and_e (Cond.before_iff.mp (show (Jvm.Cond.and given_1 narrow_1).before args s = true from hpre))
  obtain ⟨hct, hg⟩ := and_e hg
  obtain ⟨hg0, hg⟩ := and_e hg
  obtain ⟨hg1, hg⟩ := and_e hg
  obtain ⟨hg2, hg⟩ := and_e hg
  obtain ⟨hg3, hg⟩ := and_e hg
  have hg4 := hg
  obtain ⟨w0, w1, w2, w3, w4, rfl⟩ : ∃ w0 w1 w2 w3 w4 : Value, args = #[w0, w1, w2, w3, w4] := by
    have hs : args.size = 5 := by simpa [Cond.value, given_1] using hct
    obtain ⟨L⟩ := args
    match L, hs with
    | [w0, w1, w2, w3, w4], _ => exact ⟨w0, w1, w2, w3, w4, rfl⟩
  have hw := fun d (hd : d ∈ tables_1) => atoms_spec (ws := Jvm.Cond.code x code maxLocals ret :: tables_1) hat d (List.mem_cons_of_mem _ hd)
  obtain ⟨i0, ei0⟩ := is_v hg0
  obtain rfl : w0 = (.int i0) := Option.some.inj ei0
  obtain ⟨i1, ei1⟩ := is_v hg1
  obtain rfl : w1 = (.int i1) := Option.some.inj ei1
  obtain ⟨i2, ei2⟩ := is_v hg2
  obtain rfl : w2 = (.int i2) := Option.some.inj ei2
  obtain ⟨i3, ei3⟩ := is_v hg3
  obtain rfl : w3 = (.int i3) := Option.some.inj ei3
  obtain ⟨i4, ei4⟩ := is_v hg4
  obtain rfl : w4 = (.int i4) := Option.some.inj ei4
  obtain ⟨n, o, h1, h2, h3, _, L, rfl, ⟨rfl, N, -⟩, hq⟩ := rm0 l s _ hw tables_1 i0 i1 i2 i3 i4 s.heap s.heap.size (Rep.nil _) p e ha hc hk s m _ below hf ((Spec.applies_iff_loose hf).mp happ).1 ⟨rfl, State.Warmed39.refl s, rfl⟩ trivial
  refine ⟨n, _, h1, h2, h3, hpost _ _ _ _ _ _ ⟨Cond.after_iff.mpr rfl, Cond.after_iff.mpr (eq_i res_at (Term.int_eval (1)) rfl), trivial⟩ ⟨hq.1, hq.2.1, (hq.2.2.sift fun y hy => Or.inr (N y hy)).mono (by decide) (by decide)⟩⟩
theorem main_1_1 : Claimed_1_1 := comes_1 fun _ _ _ _ _ _ h hF => ⟨h.1, hF⟩
theorem main_1_2 : Claimed_1_2 := comes_1 fun _ _ _ _ _ _ h hF => ⟨h.2.1, hF⟩
end Jvm.Pilot.@@N@@
namespace Jvm.Pilot.@@N@@
open Jvm Jvm.ClassFile Sem Op Lib Jvm.Free Jvm.Stand Jvm.Pilot.@@N@@.Jvm.D
/-! MADE BY PROGRAM (witnessworld.py) out of the Statement's table words and the real class files: 12 classes; the members and pool entries that the words name. The judged class is class 1, her method 1. -/
namespace start1
open Jvm.ClassFile
def u (s : String) : CpInfo := .utf8 (stringToUtf16 s)
/-- a pool by its gaps: so many unusable entries, then the entry; so many at the end -/
def gap : Nat → List CpInfo → List CpInfo
  | 0, r => r
  | n + 1, r => .unusable :: gap n r
def poolList (es : List (Nat × CpInfo)) (last : Nat) : List CpInfo := es.foldr (fun e r => gap e.1 (e.2 :: r)) (gap last [])
def pool (es : List (Nat × CpInfo)) (last : Nat) : Array CpInfo := ⟨poolList es last⟩
def fileOf (pool : Array CpInfo) (this : Nat) (attrs : Array Attribute := #[]) (ms : Array MethodInfo := #[]) (fl : Nat := 33) (sup : Nat := 0) (ifs : Array Nat := #[]) (fds : Array FieldInfo := #[]) : ClassFile where
  minorVersion := 0
  majorVersion := 65
  constantPool := pool
  accessFlags := fl
  thisClass := this
  superClass := sup
  interfaces := ifs
  fields := fds
  methods := ms
  attributes := attrs
def plain (name : String) (sup : Option ClassId) : Class where
  name := name
  kind := .ordinary
  loader := none
  accessFlags := 33
  super := sup
  interfaces := #[]
  cf := none
  fields := #[]
  methods := #[]
  instanceTypes := #[]
  staticTypes := #[]
  resolved := #[]
  callSites := []
  init := .initialized
  statics := none
  mirror := none

def pool0 : Array CpInfo := pool [(5, u "<init>"), (0, u "()V"), (1, .class_ 10), (1, u "java/lang/Object"), (85, u "clone"), (0, u "()Ljava/lang/Object;")] 26

def k0c0 : Code := { maxStack := 0, maxLocals := 1, code := object_method_1_code, exceptionTable := #[], attributes := #[] }
def k0m0 : Method := { name := "<init>", desc := "()V", sig := { parameters := [], returnType := none }, accessFlags := 1, code := some k0c0 }
def k0m1 : Method := { name := "clone", desc := "()Ljava/lang/Object;", sig := { parameters := [], returnType := some (.object "java/lang/Object") }, accessFlags := 260, code := none }
/-- java/lang/Object -/
def k0 : Class := { plain "java/lang/Object" none with
  accessFlags := 33
  interfaces := #[]
  cf := some (fileOf pool0 8 #[] #[{ accessFlags := 1, nameIndex := 5, descriptorIndex := 6, attributes := #[] }, { accessFlags := 260, nameIndex := 96, descriptorIndex := 97, attributes := #[] }] 33 0 #[] #[])
  fields := #[]
  methods := #[k0m0, k0m1]
  instanceTypes := #[]
  staticTypes := #[]
  resolved := Array.replicate 124 none
  statics := none }

def pool1 : Array CpInfo := pool [(2, .class_ 4), (1, u "java/lang/Object"), (0, u "<init>"), (0, u "()V"), (0, .integer 2147483647), (0, .methodref 9 10), (0, .class_ 11), (0, .nameAndType 12 13), (0, u "com/example/witgen/witgen/regex/PartitionSizePinLaw"), (0, u "make"), (0, u "(IIIII)[I"), (0, .class_ 15), (0, u "com/example/witgen/witgen/regex/Partition"), (0, .methodref 14 17), (0, .nameAndType 5 18), (0, u "([II)V"), (0, .methodref 14 20), (0, .nameAndType 21 22), (0, u "size"), (0, u "(I)I"), (0, .methodref 9 24), (0, .nameAndType 25 26), (0, u "ref"), (0, u "(IIIIII)I"), (2, u "law"), (0, u "(IIIII)Z")] 5

def k1m0 : Method := { name := "<init>", desc := "()V", sig := { parameters := [], returnType := none }, accessFlags := 1, code := none }
def k1c1 : Code := { maxStack := 7, maxLocals := 14, code := code, exceptionTable := #[], attributes := #[] }
def k1m1 : Method := { name := "law", desc := "(IIIII)Z", sig := { parameters := [.int, .int, .int, .int, .int], returnType := some .boolean }, accessFlags := 9, code := some k1c1 }
def k1c2 : Code := { maxStack := 4, maxLocals := 5, code := method_3_code, exceptionTable := #[], attributes := #[] }
def k1m2 : Method := { name := "make", desc := "(IIIII)[I", sig := { parameters := [.int, .int, .int, .int, .int], returnType := some (.array .int) }, accessFlags := 10, code := some k1c2 }
def k1c3 : Code := { maxStack := 2, maxLocals := 7, code := method_4_code, exceptionTable := #[], attributes := #[] }
def k1m3 : Method := { name := "ref", desc := "(IIIIII)I", sig := { parameters := [.int, .int, .int, .int, .int, .int], returnType := some .int }, accessFlags := 10, code := some k1c3 }
/-- com/example/witgen/witgen/regex/PartitionSizePinLaw -/
def k1 : Class := { plain "com/example/witgen/witgen/regex/PartitionSizePinLaw" (some 0) with
  accessFlags := 49
  interfaces := #[]
  cf := some (fileOf pool1 9 #[] #[{ accessFlags := 1, nameIndex := 5, descriptorIndex := 6, attributes := #[] }, { accessFlags := 9, nameIndex := 29, descriptorIndex := 30, attributes := #[] }, { accessFlags := 10, nameIndex := 12, descriptorIndex := 13, attributes := #[] }, { accessFlags := 10, nameIndex := 25, descriptorIndex := 26, attributes := #[] }] 49 2 #[] #[])
  fields := #[]
  methods := #[k1m0, k1m1, k1m2, k1m3]
  instanceTypes := #[]
  staticTypes := #[]
  resolved := Array.replicate 36 none
  statics := none }

def pool2 : Array CpInfo := pool [(1, .methodref 2 3), (0, .class_ 4), (0, .nameAndType 5 6), (0, u "java/lang/Object"), (0, u "<init>"), (0, u "()V"), (0, .methodref 8 9), (0, .class_ 10), (0, .nameAndType 11 12), (0, u "java/lang/Math"), (0, u "max"), (0, u "(II)I"), (0, .fieldref 14 15), (0, .class_ 16), (0, .nameAndType 17 18), (0, u "com/example/witgen/witgen/regex/Partition"), (0, u "elements"), (0, u "[I"), (0, .fieldref 14 20), (0, .nameAndType 21 18), (0, u "location"), (0, .methodref 23 24), (0, .class_ 18), (0, .nameAndType 25 26), (0, u "clone"), (0, u "()Ljava/lang/Object;"), (0, .fieldref 14 28), (0, .nameAndType 29 18), (0, u "blockOf"), (0, .fieldref 14 31), (0, .nameAndType 32 18), (0, u "start"), (0, .fieldref 14 34), (0, .nameAndType 35 18), (0, u "end"), (0, .fieldref 14 37), (0, .nameAndType 38 18), (0, u "marked"), (0, .fieldref 14 40), (0, .nameAndType 41 18), (0, u "touched"), (0, .fieldref 14 43), (0, .nameAndType 44 45), (0, u "blocks"), (0, u "I"), (0, .methodref 47 48), (0, .class_ 49), (0, .nameAndType 50 51), (0, u "java/util/Arrays"), (0, u "copyOf"), (0, u "([II)[I"), (2, u "touchedCount"), (2, u "size"), (0, u "(I)I"), (1, .class_ 62), (1, u "com/example/witgen/witgen/regex/Partition$Split"), (8, u "([II)V")] 19

def k2c0 : Code := { maxStack := 7, maxLocals := 9, code := prog_15_method_1_code, exceptionTable := #[], attributes := #[] }
def k2m0 : Method := { name := "<init>", desc := "([II)V", sig := { parameters := [(.array .int), .int], returnType := none }, accessFlags := 0, code := some k2c0 }
def k2c1 : Code := { maxStack := 3, maxLocals := 2, code := prog_15_method_4_code, exceptionTable := #[], attributes := #[] }
def k2m1 : Method := { name := "size", desc := "(I)I", sig := { parameters := [.int], returnType := some .int }, accessFlags := 0, code := some k2c1 }
/-- com/example/witgen/witgen/regex/Partition -/
def k2 : Class := { plain "com/example/witgen/witgen/regex/Partition" (some 0) with
  accessFlags := 48
  interfaces := #[]
  cf := some (fileOf pool2 14 #[.nestMembers #[60]] #[{ accessFlags := 0, nameIndex := 5, descriptorIndex := 71, attributes := #[] }, { accessFlags := 0, nameIndex := 57, descriptorIndex := 58, attributes := #[] }] 48 2 #[] #[{ accessFlags := 18, nameIndex := 17, descriptorIndex := 18, attributes := #[] }, { accessFlags := 18, nameIndex := 21, descriptorIndex := 18, attributes := #[] }, { accessFlags := 18, nameIndex := 29, descriptorIndex := 18, attributes := #[] }, { accessFlags := 18, nameIndex := 32, descriptorIndex := 18, attributes := #[] }, { accessFlags := 18, nameIndex := 35, descriptorIndex := 18, attributes := #[] }, { accessFlags := 18, nameIndex := 38, descriptorIndex := 18, attributes := #[] }, { accessFlags := 18, nameIndex := 41, descriptorIndex := 18, attributes := #[] }, { accessFlags := 2, nameIndex := 54, descriptorIndex := 45, attributes := #[] }, { accessFlags := 2, nameIndex := 44, descriptorIndex := 45, attributes := #[] }])
  fields := #[{ name := "elements", type := (.array .int), accessFlags := 18, slot := 0, constantValue := 0 }, { name := "location", type := (.array .int), accessFlags := 18, slot := 1, constantValue := 0 }, { name := "blockOf", type := (.array .int), accessFlags := 18, slot := 2, constantValue := 0 }, { name := "start", type := (.array .int), accessFlags := 18, slot := 3, constantValue := 0 }, { name := "end", type := (.array .int), accessFlags := 18, slot := 4, constantValue := 0 }, { name := "marked", type := (.array .int), accessFlags := 18, slot := 5, constantValue := 0 }, { name := "touched", type := (.array .int), accessFlags := 18, slot := 6, constantValue := 0 }, { name := "touchedCount", type := .int, accessFlags := 2, slot := 7, constantValue := 0 }, { name := "blocks", type := .int, accessFlags := 2, slot := 8, constantValue := 0 }]
  methods := #[k2m0, k2m1]
  instanceTypes := #[(.array .int), (.array .int), (.array .int), (.array .int), (.array .int), (.array .int), (.array .int), .int, .int]
  staticTypes := #[]
  resolved := Array.replicate 91 none
  statics := none }

def pool3 : Array CpInfo := pool [(1, .class_ 2), (0, u "java/lang/Math"), (1, .class_ 6), (1, u "java/lang/Object"), (0, u "<init>"), (0, u "()V"), (89, .class_ 100), (1, u "java/lang/Math$RandomNumberGeneratorHolder"), (71, u "negativeZeroFloatBits"), (0, u "J"), (2, u "negativeZeroDoubleBits"), (21, u "max"), (2, u "min"), (43, u "$assertionsDisabled"), (0, u "Z"), (88, u "(II)I"), (2, u "twoToTheDoubleScaleDown"), (0, u "D"), (4, u "twoToTheDoubleScaleUp"), (9, u "E"), (3, u "PI"), (2, u "TAU"), (2, u "DEGREES_TO_RADIANS"), (0, u "RADIANS_TO_DEGREES")] 94

def k3m0 : Method := { name := "<init>", desc := "()V", sig := { parameters := [], returnType := none }, accessFlags := 2, code := none }
def k3c1 : Code := { maxStack := 2, maxLocals := 2, code := jdk_29_method_65_code, exceptionTable := #[], attributes := #[] }
def k3m1 : Method := { name := "max", desc := "(II)I", sig := { parameters := [.int, .int], returnType := some .int }, accessFlags := 9, code := some k3c1 }
def k3c2 : Code := { maxStack := 2, maxLocals := 2, code := jdk_29_method_69_code, exceptionTable := #[], attributes := #[] }
def k3m2 : Method := { name := "min", desc := "(II)I", sig := { parameters := [.int, .int], returnType := some .int }, accessFlags := 9, code := some k3c2 }
/-- java/lang/Math -/
def k3 : Class := { plain "java/lang/Math" (some 0) with
  accessFlags := 49
  interfaces := #[]
  cf := some (fileOf pool3 1 #[.nestMembers #[98]] #[{ accessFlags := 2, nameIndex := 7, descriptorIndex := 8, attributes := #[] }, { accessFlags := 9, nameIndex := 198, descriptorIndex := 335, attributes := #[] }, { accessFlags := 9, nameIndex := 201, descriptorIndex := 335, attributes := #[] }] 49 4 #[] #[{ accessFlags := 25, nameIndex := 354, descriptorIndex := 339, attributes := #[] }, { accessFlags := 25, nameIndex := 358, descriptorIndex := 339, attributes := #[] }, { accessFlags := 25, nameIndex := 361, descriptorIndex := 339, attributes := #[] }, { accessFlags := 26, nameIndex := 364, descriptorIndex := 339, attributes := #[] }, { accessFlags := 26, nameIndex := 365, descriptorIndex := 339, attributes := #[] }, { accessFlags := 26, nameIndex := 172, descriptorIndex := 173, attributes := #[] }, { accessFlags := 26, nameIndex := 176, descriptorIndex := 173, attributes := #[] }, { accessFlags := 8, nameIndex := 344, descriptorIndex := 339, attributes := #[] }, { accessFlags := 8, nameIndex := 338, descriptorIndex := 339, attributes := #[] }, { accessFlags := 4120, nameIndex := 245, descriptorIndex := 246, attributes := #[] }])
  fields := #[{ name := "E", type := .double, accessFlags := 25, slot := 0, constantValue := 0 }, { name := "PI", type := .double, accessFlags := 25, slot := 1, constantValue := 0 }, { name := "TAU", type := .double, accessFlags := 25, slot := 2, constantValue := 0 }, { name := "DEGREES_TO_RADIANS", type := .double, accessFlags := 26, slot := 3, constantValue := 0 }, { name := "RADIANS_TO_DEGREES", type := .double, accessFlags := 26, slot := 4, constantValue := 0 }, { name := "negativeZeroFloatBits", type := .long, accessFlags := 26, slot := 5, constantValue := 0 }, { name := "negativeZeroDoubleBits", type := .long, accessFlags := 26, slot := 6, constantValue := 0 }, { name := "twoToTheDoubleScaleUp", type := .double, accessFlags := 8, slot := 7, constantValue := 0 }, { name := "twoToTheDoubleScaleDown", type := .double, accessFlags := 8, slot := 8, constantValue := 0 }, { name := "$assertionsDisabled", type := .boolean, accessFlags := 4120, slot := 9, constantValue := 0 }]
  methods := #[k3m0, k3m1, k3m2]
  instanceTypes := #[]
  staticTypes := #[.double, .double, .double, .double, .double, .long, .long, .double, .double, .boolean]
  resolved := Array.replicate 460 none
  statics := none }

def pool4 : Array CpInfo := pool [(1, .class_ 2), (0, u "java/lang/Cloneable"), (0, .class_ 4), (0, u "java/lang/Object")] 2

/-- java/lang/Cloneable -/
def k4 : Class := { plain "java/lang/Cloneable" (some 0) with
  accessFlags := 1537
  interfaces := #[]
  cf := some (fileOf pool4 1 #[] #[] 1537 3 #[] #[])
  fields := #[]
  methods := #[]
  instanceTypes := #[]
  staticTypes := #[]
  resolved := Array.replicate 7 none
  statics := none }

def pool5 : Array CpInfo := pool [(2, .class_ 4), (1, u "java/lang/Object"), (0, u "<init>"), (0, u "()V"), (7, .class_ 16), (1, u "java/util/Arrays"), (57, .class_ 76), (1, u "java/util/Arrays$NaturalOrder"), (32, u "()Ljava/lang/Object;"), (3, .class_ 115), (1, u "java/util/Arrays$LegacyMergeSort"), (1, u "Z"), (10, .nameAndType 129 109), (0, u "clone"), (20, .methodref 151 152), (0, .class_ 153), (0, .nameAndType 154 155), (0, u "java/lang/System"), (0, u "arraycopy"), (0, u "(Ljava/lang/Object;ILjava/lang/Object;II)V"), (146, u "copyOf"), (1, .methodref 305 306), (0, .class_ 307), (0, .nameAndType 308 309), (0, u "java/lang/Math"), (0, u "min"), (0, u "(II)I"), (6, .methodref 317 128), (0, .class_ 318), (0, u "[I"), (56, .class_ 376), (0, u "java/util/Arrays$ArrayList"), (68, u "$assertionsDisabled"), (269, u "MIN_ARRAY_SORT_GRAN"), (0, u "I"), (2, u "INSERTIONSORT_THRESHOLD"), (151, u "([II)[I"), (103, .class_ 976), (0, u "java/util/Arrays$ArrayItr")] 52

def k5m0 : Method := { name := "<init>", desc := "()V", sig := { parameters := [], returnType := none }, accessFlags := 2, code := none }
def k5c1 : Code := { maxStack := 6, maxLocals := 3, code := jdk_65_method_123_code, exceptionTable := #[], attributes := #[] }
def k5m1 : Method := { name := "copyOf", desc := "([II)[I", sig := { parameters := [(.array .int), .int], returnType := some (.array .int) }, accessFlags := 9, code := some k5c1 }
/-- java/util/Arrays -/
def k5 : Class := { plain "java/util/Arrays" (some 0) with
  accessFlags := 49
  interfaces := #[]
  cf := some (fileOf pool5 14 #[.nestMembers #[975, 375, 113, 74]] #[{ accessFlags := 2, nameIndex := 5, descriptorIndex := 6, attributes := #[] }, { accessFlags := 9, nameIndex := 302, descriptorIndex := 871, attributes := #[] }] 49 2 #[] #[{ accessFlags := 26, nameIndex := 715, descriptorIndex := 716, attributes := #[] }, { accessFlags := 26, nameIndex := 719, descriptorIndex := 716, attributes := #[] }, { accessFlags := 4120, nameIndex := 445, descriptorIndex := 117, attributes := #[] }])
  fields := #[{ name := "MIN_ARRAY_SORT_GRAN", type := .int, accessFlags := 26, slot := 0, constantValue := 0 }, { name := "INSERTIONSORT_THRESHOLD", type := .int, accessFlags := 26, slot := 1, constantValue := 0 }, { name := "$assertionsDisabled", type := .boolean, accessFlags := 4120, slot := 2, constantValue := 0 }]
  methods := #[k5m0, k5m1]
  instanceTypes := #[]
  staticTypes := #[.int, .int, .boolean]
  resolved := Array.replicate 1029 none
  statics := none }

def pool6 : Array CpInfo := pool [(2, .class_ 4), (1, u "java/lang/Object"), (0, u "<init>"), (0, u "()V"), (1, .class_ 10), (1, u "java/lang/System"), (0, u "allowSecurityManager"), (0, u "I"), (16, u "cons"), (0, u "Ljava/io/Console;"), (77, .class_ 110), (1, u "java/lang/System$CallersHolder"), (43, u "initialErrStream"), (0, u "Ljava/io/PrintStream;"), (19, u "security"), (0, u "Ljava/lang/SecurityManager;"), (31, .class_ 209), (0, u "java/lang/System$1"), (7, u "props"), (0, u "Ljava/util/Properties;"), (2, u "lineSeparator"), (0, u "Ljava/lang/String;"), (96, .class_ 321), (1, u "java/lang/System$LoggerFinder"), (5, .class_ 328), (0, u "java/lang/System$Logger"), (67, u "err"), (2, u "out"), (91, u "notSupportedJnuEncoding"), (15, u "in"), (17, u "initialIn"), (0, u "Ljava/io/InputStream;"), (35, u "bootLayer"), (0, u "Ljava/lang/ModuleLayer;"), (99, .class_ 664), (0, u "java/lang/System$2"), (9, u "NEVER"), (2, u "MAYBE"), (49, u "arraycopy"), (0, u "(Ljava/lang/Object;ILjava/lang/Object;II)V"), (72, .class_ 802), (0, u "java/lang/System$Logger$Level")] 31

def k6m0 : Method := { name := "<init>", desc := "()V", sig := { parameters := [], returnType := none }, accessFlags := 2, code := none }
def k6m1 : Method := { name := "arraycopy", desc := "(Ljava/lang/Object;ILjava/lang/Object;II)V", sig := { parameters := [(.object "java/lang/Object"), .int, (.object "java/lang/Object"), .int, .int], returnType := none }, accessFlags := 265, code := none }
/-- java/lang/System -/
def k6 : Class := { plain "java/lang/System" (some 0) with
  accessFlags := 49
  interfaces := #[]
  cf := some (fileOf pool6 8 #[.nestMembers #[319, 327, 801, 108, 663, 208]] #[{ accessFlags := 2, nameIndex := 5, descriptorIndex := 6, attributes := #[] }, { accessFlags := 265, nameIndex := 727, descriptorIndex := 728, attributes := #[] }] 49 2 #[] #[{ accessFlags := 25, nameIndex := 507, descriptorIndex := 526, attributes := #[] }, { accessFlags := 25, nameIndex := 399, descriptorIndex := 155, attributes := #[] }, { accessFlags := 25, nameIndex := 396, descriptorIndex := 155, attributes := #[] }, { accessFlags := 10, nameIndex := 525, descriptorIndex := 526, attributes := #[] }, { accessFlags := 26, nameIndex := 674, descriptorIndex := 12, attributes := #[] }, { accessFlags := 26, nameIndex := 677, descriptorIndex := 12, attributes := #[] }, { accessFlags := 10, nameIndex := 11, descriptorIndex := 12, attributes := #[] }, { accessFlags := 74, nameIndex := 175, descriptorIndex := 176, attributes := #[] }, { accessFlags := 10, nameIndex := 491, descriptorIndex := 222, attributes := #[] }, { accessFlags := 74, nameIndex := 29, descriptorIndex := 30, attributes := #[] }, { accessFlags := 74, nameIndex := 154, descriptorIndex := 155, attributes := #[] }, { accessFlags := 10, nameIndex := 217, descriptorIndex := 218, attributes := #[] }, { accessFlags := 10, nameIndex := 221, descriptorIndex := 222, attributes := #[] }, { accessFlags := 8, nameIndex := 562, descriptorIndex := 563, attributes := #[] }])
  fields := #[{ name := "in", type := (.object "java/io/InputStream"), accessFlags := 25, slot := 0, constantValue := 0 }, { name := "out", type := (.object "java/io/PrintStream"), accessFlags := 25, slot := 1, constantValue := 0 }, { name := "err", type := (.object "java/io/PrintStream"), accessFlags := 25, slot := 2, constantValue := 0 }, { name := "initialIn", type := (.object "java/io/InputStream"), accessFlags := 10, slot := 3, constantValue := 0 }, { name := "NEVER", type := .int, accessFlags := 26, slot := 4, constantValue := 0 }, { name := "MAYBE", type := .int, accessFlags := 26, slot := 5, constantValue := 0 }, { name := "allowSecurityManager", type := .int, accessFlags := 10, slot := 6, constantValue := 0 }, { name := "security", type := (.object "java/lang/SecurityManager"), accessFlags := 74, slot := 7, constantValue := 0 }, { name := "notSupportedJnuEncoding", type := (.object "java/lang/String"), accessFlags := 10, slot := 8, constantValue := 0 }, { name := "cons", type := (.object "java/io/Console"), accessFlags := 74, slot := 9, constantValue := 0 }, { name := "initialErrStream", type := (.object "java/io/PrintStream"), accessFlags := 74, slot := 10, constantValue := 0 }, { name := "props", type := (.object "java/util/Properties"), accessFlags := 10, slot := 11, constantValue := 0 }, { name := "lineSeparator", type := (.object "java/lang/String"), accessFlags := 10, slot := 12, constantValue := 0 }, { name := "bootLayer", type := (.object "java/lang/ModuleLayer"), accessFlags := 8, slot := 13, constantValue := 0 }]
  methods := #[k6m0, k6m1]
  instanceTypes := #[]
  staticTypes := #[(.object "java/io/InputStream"), (.object "java/io/PrintStream"), (.object "java/io/PrintStream"), (.object "java/io/InputStream"), .int, .int, .int, (.object "java/lang/SecurityManager"), (.object "java/lang/String"), (.object "java/io/Console"), (.object "java/io/PrintStream"), (.object "java/util/Properties"), (.object "java/lang/String"), (.object "java/lang/ModuleLayer")]
  resolved := Array.replicate 834 none
  statics := none }

def pool7 : Array CpInfo := pool [(1, u "java/io/Serializable"), (0, .class_ 1), (0, u "java/lang/Object"), (0, .class_ 3)] 3

/-- java/io/Serializable -/
def k7 : Class := { plain "java/io/Serializable" (some 0) with
  accessFlags := 1537
  interfaces := #[]
  cf := some (fileOf pool7 2 #[] #[] 1537 4 #[] #[])
  fields := #[]
  methods := #[]
  instanceTypes := #[]
  staticTypes := #[]
  resolved := Array.replicate 8 none
  statics := none }

/-- the primitive byte -/
def k8 : Class := { plain "byte" none with kind := .primitive 'B', accessFlags := 0x411 }
/-- [B -/
def k9 : Class := { plain "[B" (some 0) with kind := .array 8 .byte, interfaces := #[4, 7], accessFlags := 1041 }

/-- the primitive int -/
def k10 : Class := { plain "int" none with kind := .primitive 'I', accessFlags := 0x411 }
/-- [I -/
def k11 : Class := { plain "[I" (some 0) with kind := .array 10 .int, interfaces := #[4, 7], accessFlags := 1041 }

def heap : Heap := #[]
def classes : Array Class := #[k0, k1, k2, k3, k4, k5, k6, k7, k8, k9, k10, k11]
def interned : List (Array UInt16 × Addr) := []
def slotsUsed : Nat := 0
def theMethod : MethodId := ⟨1, 1⟩
def args0 : Array Value := #[.int 5, .int 6, .int 7, .int 8, .int 9]
def aboutOver (below : List Frame) : State where
  vm := { classes := classes, interned := interned.toArray }
  heap := heap
  slotsUsed := slotsUsed
  threads := #[{ frames := .invoking theMethod args0 :: below }]
def below0 : List Frame := [.native { method := ⟨0, 0⟩, args := #[] }]
def about1 : State := aboutOver below0
def p0 : Program := .bare "" "" ""
def e0 : Env := launch0.env 0 0 0
theorem w_frames : about1.frames = Frame.invoking theMethod args0 :: below0 := rfl
set_option maxRecDepth 65536 in
theorem w_args : argsFit about1.vm theMethod args0 = true := by decide +kernel
set_option maxRecDepth 65536 in
theorem w_heap : heapFits about1 = true := by decide +kernel
set_option maxRecDepth 65536 in
theorem w_runnable : about1.curStatus? = some .runnable := by decide +kernel
set_option maxRecDepth 65536 in
theorem w_alone : about1.alone = true := by decide +kernel
set_option maxRecDepth 65536 in
theorem w_named : about1.methodNamed? x = some theMethod := by decide +kernel
set_option maxRecDepth 65536 in
theorem w_hears : about1.hears theMethod below0 = true := by decide +kernel
set_option maxRecDepth 65536 in
theorem w_ripe : about1.ripe theMethod args0 below0 = true := by decide +kernel
theorem w_running : about1.status = .running := rfl
set_option maxRecDepth 65536 in
theorem w_room : about1.hasRoom e0.platform room_1 = true :=
  launch0.hasRoom_least _ room_1 (by decide +kernel) (by decide +kernel) (by decide +kernel) (by decide +kernel) (by decide +kernel) (by decide +kernel)
theorem allAtoms_all (ts : List Jvm.Cond) (a : Array Jvm.Value) (st : Jvm.State) : (allAtoms ts).before a st = ts.all (fun c => c.before a st) := by
  induction ts with
  | nil => rfl
  | cons c t ih =>
    show (Jvm.Cond.and c (allAtoms t)).before a st = _
    rw [Jvm.Cond.before_and, ih, List.all_cons]
def words1 : List Jvm.Cond := Jvm.Cond.code x code maxLocals ret :: tables_1
/-- a 'code' word, met by the world's own term for the bytes: nothing is compared byte by byte -/
theorem code_word {y : MethodName} {bytes : ByteArray} {mx : Nat} {rt : Option FieldType} {a : Array Value} {s : State} {m : MethodId} {meth : Method} {c : Code} (h1 : s.methodNamed? y = some m) (h2 : s.vm.method? m = some meth) (h3 : meth.code = some c) (h4 : c.code = bytes)
    (h5 : (c.maxLocals == mx && c.exceptionTable.isEmpty && decide (c.maxStack ≤ mostOperands) && decide (meth.sig.returnType = rt) && !meth.locks && decide (parseMethodDescriptor y.desc = some meth.sig)) = true) : (Jvm.Cond.code y bytes mx rt).before a s = true := by
  simp only [Bool.and_eq_true, beq_iff_eq, Bool.not_eq_true', decide_eq_true_eq] at h5
  obtain ⟨⟨⟨⟨⟨g1, g2⟩, g3⟩, g4⟩, g5⟩, g6⟩ := h5
  simp [Cond.before, Cond.holds, Cond.value, h1, h2, h3, h4, g1, g2, g3, g4, g5, g6]
def isCode : Jvm.Cond → Bool
  | .code _ _ _ _ => true
  | _ => false
theorem all_split {L : List Jvm.Cond} {P : Jvm.Cond → Bool} (h1 : L.all (fun c => isCode c || P c) = true) (h2 : ∀ c ∈ L.filter isCode, P c = true) : L.all P = true := by
  refine List.all_eq_true.mpr fun c hc => ?_
  have h := List.all_eq_true.mp h1 c hc
  rcases Bool.eq_false_or_eq_true (isCode c) with hi | hi
  · exact h2 c (List.mem_filter.mpr ⟨hc, hi⟩)
  · simpa [hi] using h
set_option maxRecDepth 65536 in
theorem w_c0 : (Jvm.Cond.code x code maxLocals ret).before args0 about1 = true := code_word (m := ⟨1, 1⟩) (meth := k1m1) (c := k1c1) (by decide +kernel) rfl rfl rfl (by decide +kernel)
set_option maxRecDepth 65536 in
theorem w_c1 : (Jvm.Cond.code ({ cls := "com/example/witgen/witgen/regex/PartitionSizePinLaw", name := "make", desc := "(IIIII)[I" } : Jvm.MethodName) method_3_code (5 : Nat) (Option.some (Jvm.ClassFile.FieldType.array Jvm.ClassFile.FieldType.int))).before args0 about1 = true := code_word (m := ⟨1, 2⟩) (meth := k1m2) (c := k1c2) (by decide +kernel) rfl rfl rfl (by decide +kernel)
set_option maxRecDepth 65536 in
theorem w_c2 : (Jvm.Cond.code ({ cls := "com/example/witgen/witgen/regex/Partition", name := "<init>", desc := "([II)V" } : Jvm.MethodName) prog_15_method_1_code (9 : Nat) (Option.none : Option Jvm.ClassFile.FieldType)).before args0 about1 = true := code_word (m := ⟨2, 0⟩) (meth := k2m0) (c := k2c0) (by decide +kernel) rfl rfl rfl (by decide +kernel)
set_option maxRecDepth 65536 in
theorem w_c3 : (Jvm.Cond.code ({ cls := "java/lang/Object", name := "<init>", desc := "()V" } : Jvm.MethodName) object_method_1_code (1 : Nat) (Option.none : Option Jvm.ClassFile.FieldType)).before args0 about1 = true := code_word (m := ⟨0, 0⟩) (meth := k0m0) (c := k0c0) (by decide +kernel) rfl rfl rfl (by decide +kernel)
set_option maxRecDepth 65536 in
theorem w_c4 : (Jvm.Cond.code ({ cls := "java/lang/Math", name := "max", desc := "(II)I" } : Jvm.MethodName) jdk_29_method_65_code (2 : Nat) (Option.some Jvm.ClassFile.FieldType.int)).before args0 about1 = true := code_word (m := ⟨3, 1⟩) (meth := k3m1) (c := k3c1) (by decide +kernel) rfl rfl rfl (by decide +kernel)
set_option maxRecDepth 65536 in
theorem w_c5 : (Jvm.Cond.code ({ cls := "java/util/Arrays", name := "copyOf", desc := "([II)[I" } : Jvm.MethodName) jdk_65_method_123_code (3 : Nat) (Option.some (Jvm.ClassFile.FieldType.array Jvm.ClassFile.FieldType.int))).before args0 about1 = true := code_word (m := ⟨5, 1⟩) (meth := k5m1) (c := k5c1) (by decide +kernel) rfl rfl rfl (by decide +kernel)
set_option maxRecDepth 65536 in
theorem w_c6 : (Jvm.Cond.code ({ cls := "com/example/witgen/witgen/regex/Partition", name := "size", desc := "(I)I" } : Jvm.MethodName) prog_15_method_4_code (2 : Nat) (Option.some Jvm.ClassFile.FieldType.int)).before args0 about1 = true := code_word (m := ⟨2, 1⟩) (meth := k2m1) (c := k2c1) (by decide +kernel) rfl rfl rfl (by decide +kernel)
set_option maxRecDepth 65536 in
theorem w_c7 : (Jvm.Cond.code ({ cls := "com/example/witgen/witgen/regex/PartitionSizePinLaw", name := "ref", desc := "(IIIIII)I" } : Jvm.MethodName) method_4_code (7 : Nat) (Option.some Jvm.ClassFile.FieldType.int)).before args0 about1 = true := code_word (m := ⟨1, 3⟩) (meth := k1m3) (c := k1c3) (by decide +kernel) rfl rfl rfl (by decide +kernel)
set_option maxRecDepth 65536 in
theorem w_c8 : (Jvm.Cond.code ({ cls := "java/lang/Math", name := "min", desc := "(II)I" } : Jvm.MethodName) jdk_29_method_69_code (2 : Nat) (Option.some Jvm.ClassFile.FieldType.int)).before args0 about1 = true := code_word (m := ⟨3, 2⟩) (meth := k3m2) (c := k3c2) (by decide +kernel) rfl rfl rfl (by decide +kernel)
def codes1 : List Jvm.Cond := [Jvm.Cond.code x code maxLocals ret, Jvm.Cond.code ({ cls := "com/example/witgen/witgen/regex/PartitionSizePinLaw", name := "make", desc := "(IIIII)[I" } : Jvm.MethodName) method_3_code (5 : Nat) (Option.some (Jvm.ClassFile.FieldType.array Jvm.ClassFile.FieldType.int)), Jvm.Cond.code ({ cls := "com/example/witgen/witgen/regex/Partition", name := "<init>", desc := "([II)V" } : Jvm.MethodName) prog_15_method_1_code (9 : Nat) (Option.none : Option Jvm.ClassFile.FieldType), Jvm.Cond.code ({ cls := "java/lang/Object", name := "<init>", desc := "()V" } : Jvm.MethodName) object_method_1_code (1 : Nat) (Option.none : Option Jvm.ClassFile.FieldType), Jvm.Cond.code ({ cls := "java/lang/Math", name := "max", desc := "(II)I" } : Jvm.MethodName) jdk_29_method_65_code (2 : Nat) (Option.some Jvm.ClassFile.FieldType.int), Jvm.Cond.code ({ cls := "java/util/Arrays", name := "copyOf", desc := "([II)[I" } : Jvm.MethodName) jdk_65_method_123_code (3 : Nat) (Option.some (Jvm.ClassFile.FieldType.array Jvm.ClassFile.FieldType.int)), Jvm.Cond.code ({ cls := "com/example/witgen/witgen/regex/Partition", name := "size", desc := "(I)I" } : Jvm.MethodName) prog_15_method_4_code (2 : Nat) (Option.some Jvm.ClassFile.FieldType.int), Jvm.Cond.code ({ cls := "com/example/witgen/witgen/regex/PartitionSizePinLaw", name := "ref", desc := "(IIIIII)I" } : Jvm.MethodName) method_4_code (7 : Nat) (Option.some Jvm.ClassFile.FieldType.int), Jvm.Cond.code ({ cls := "java/lang/Math", name := "min", desc := "(II)I" } : Jvm.MethodName) jdk_29_method_69_code (2 : Nat) (Option.some Jvm.ClassFile.FieldType.int)]
set_option maxRecDepth 65536 in
theorem codes_eq : words1.filter isCode = codes1 := rfl
theorem w_codes : ∀ c ∈ words1.filter isCode, c.before args0 about1 = true := by
  rw [codes_eq]
  intro c hc
  simp only [codes1, List.mem_cons, List.not_mem_nil, or_false] at hc
  rcases hc with rfl | rfl | rfl | rfl | rfl | rfl | rfl | rfl | rfl
  · exact w_c0
  · exact w_c1
  · exact w_c2
  · exact w_c3
  · exact w_c4
  · exact w_c5
  · exact w_c6
  · exact w_c7
  · exact w_c8
set_option maxRecDepth 65536 in
theorem w_t1 : (words1.take 24).all (fun c => isCode c || c.before args0 about1) = true := by decide +kernel
set_option maxRecDepth 65536 in
theorem w_t2 : ((words1.drop 24).take 24).all (fun c => isCode c || c.before args0 about1) = true := by decide +kernel
set_option maxRecDepth 65536 in
theorem w_t3 : ((words1.drop 24).drop 24).all (fun c => isCode c || c.before args0 about1) = true := by decide +kernel
theorem w_tables : (allAtoms (Jvm.Cond.code x code maxLocals ret :: tables_1)).before args0 about1 = true := by
  rw [allAtoms_all]
  show words1.all (fun c => c.before args0 about1) = true
  refine all_split ?_ w_codes
  rw [← List.take_append_drop 24 words1, List.all_append, w_t1, ← List.take_append_drop 24 (words1.drop 24), List.all_append, w_t2, w_t3]
  rfl
set_option maxRecDepth 65536 in
theorem w_case : (Jvm.Cond.and given_1 narrow_1).before args0 about1 = true := by decide +kernel
theorem w_applies : (headSpec (Jvm.Cond.code x code maxLocals ret :: tables_1) room_1).applies x e0.platform about1 = true :=
  (Spec.applies_iff w_frames).mpr ⟨w_running, w_runnable, w_alone, w_named, w_hears, w_ripe, w_room, w_tables⟩
theorem atStart : AtStart classFile x code maxLocals ret World_1 tables_1 room_1 Calls_1 rest_1 Pre_1 launch0 p0 e0 about1 theMethod args0 below0 :=
  ⟨lists_1, trivial, launch0.admits_env _ _ _, launch0.least_env, fairChoices_fair.cas, fairChoices_fair.clock, w_frames, w_args, w_heap, w_applies, trivial, trivial, w_case⟩
end start1
theorem witness_1 : WitnessClaimed_1 := ⟨start1.p0, start1.e0, start1.about1, start1.theMethod, start1.args0, start1.below0, start1.atStart⟩
end Jvm.Pilot.@@N@@
