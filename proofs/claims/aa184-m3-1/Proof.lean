import JvmDerived
import JvmDerived.Pilot.@@N@@Statement
import JvmDerived.Pilot.@@N@@Code
set_option linter.unusedVariables false
set_option linter.unusedSimpArgs false
namespace Jvm.Own
open Jvm Jvm.ClassFile Sem Op Lib Jvm.Free Jvm.Stand Jvm.LawKit Jvm.RoadKit
/-! ## A heap told by a list: each new object or array by its address and what its cell is -/
abbrev Des : Type := State → Cell → Prop
abbrev RL : Type := List (Addr × Des)
/-- an object of class C, its fields (name, descriptor, value), all declared in C -/
def Obj (C : String) (fs : List (String × String × Value)) : Des := fun Z c =>
  Exa Z (#[c] : Heap) 0 C ∧ (∀ (j : Nat) (x : String × String × Value), fs[j]? = some x → Fld Z (#[c] : Heap) 0 C x.1 x.2.1 x.2.2) ∧
  ∀ (i j : Nat) (x y : String × String × Value), i ≠ j → fs[i]? = some x → fs[j]? = some y → Jvm.RoadKit.slotOf Z C x.1 x.2.1 ≠ Jvm.RoadKit.slotOf Z C y.1 y.2.1
/-- an array of ty, all its values -/
def Ar (ty : FieldType) (vs : List Value) : Des := fun Z c => Z.isArrayOf c ty ∧ c.vm ≠ .unknown ∧ c.slots.toList = vs ∧ (∀ v ∈ vs, fits ty v = true) ∧ Exa Z (#[c] : Heap) 0 ("[" ++ ty.toString)
/-- every one of L lies in h, at or behind n0, no two at one place -/
def Rep (Z : State) (n0 : Nat) (h : Heap) (L : RL) : Prop := n0 ≤ h.size ∧ (L.map (·.1)).Nodup ∧ ∀ x ∈ L, n0 ≤ x.1 ∧ ∃ c : Cell, h[x.1]? = some c ∧ x.2 Z c
section Facts
variable {Z : State} {n0 : Nat} {h h' : Heap} {L : RL} {a : Addr} {c : Cell} {C n d : String} {v w : Value} {i j : Nat} {fs : List (String × String × Value)} {P P' : Des} {ty : FieldType} {vs : List Value}
theorem one_eq {c c' : Cell} (q : (#[c] : Heap)[0]? = some c') : c' = c := by simpa using q.symm
theorem fld_of (hc : h[a]? = some c) (F : Fld Z (#[c] : Heap) 0 C n d v) : Fld Z h a C n d v := by
  obtain ⟨cell, cf, k, i, f, h1, r⟩ := F
  cases one_eq h1
  exact ⟨_, cf, k, i, f, hc, r⟩
theorem fld_to (hc : h[a]? = some c) (F : Fld Z h a C n d v) : Fld Z (#[c] : Heap) 0 C n d v := by
  obtain ⟨cell, cf, k, i, f, h1, r⟩ := F
  cases hc.symm.trans h1
  exact ⟨_, cf, k, i, f, rfl, r⟩
theorem exa_of (hc : h[a]? = some c) (F : Exa Z (#[c] : Heap) 0 C) : Exa Z h a C := by
  obtain ⟨cell, k, h1, r⟩ := F
  cases one_eq h1
  exact ⟨_, k, hc, r⟩
theorem exa_to (hc : h[a]? = some c) (F : Exa Z h a C) : Exa Z (#[c] : Heap) 0 C := by
  obtain ⟨cell, k, h1, r⟩ := F
  cases hc.symm.trans h1
  exact ⟨_, k, rfl, r⟩
theorem Rep.nil (h : Heap) : Rep Z h.size h [] := ⟨Nat.le_refl _, List.nodup_nil, fun _ q => nomatch q⟩
theorem Rep.at (R : Rep Z n0 h L) (hi : L[i]? = some (a, P)) : n0 ≤ a ∧ ∃ c : Cell, h[a]? = some c ∧ P Z c := R.2.2 _ (List.mem_of_getElem? hi)
theorem Rep.ge (R : Rep Z n0 h L) (hi : L[i]? = some (a, P)) : n0 ≤ a := (R.at hi).1
theorem Rep.fld (R : Rep Z n0 h L) (hi : L[i]? = some (a, Obj C fs)) (hj : fs[j]? = some (n, d, v)) : Fld Z h a C n d v := by
  obtain ⟨-, c, hc, -, F, -⟩ := R.at hi
  exact fld_of hc (F j _ hj)
theorem Rep.exa (R : Rep Z n0 h L) (hi : L[i]? = some (a, Obj C fs)) : Exa Z h a C := by
  obtain ⟨-, c, hc, E, -⟩ := R.at hi
  exact exa_of hc E
theorem Rep.arr (R : Rep Z n0 h L) (hi : L[i]? = some (a, Ar ty vs)) : ∃ cl : Cell, Arr Z h a cl ty ∧ cl.slots.toList = vs := by
  obtain ⟨-, c, hc, A, B, V, -⟩ := R.at hi
  exact ⟨c, ⟨hc, A, B⟩, V⟩
theorem Rep.arr' (R : Rep Z n0 h L) (hi : L[i]? = some (a, Ar ty vs)) : ∃ cl : Cell, Arr Z h a cl ty ∧ cl.slots.toList = vs ∧ (∀ v ∈ vs, fits ty v = true) ∧ Exa Z h a ("[" ++ ty.toString) := by
  obtain ⟨-, c, hc, A, B, V, F, E⟩ := R.at hi
  exact ⟨c, ⟨hc, A, B⟩, V, F, exa_of hc E⟩
theorem wr_one {sl : Nat} (hc : h[a]? = some c) (W : Wr h h' a sl v) : Wr (#[c] : Heap) (#[c.setSlot sl v] : Heap) 0 sl v := by
  obtain ⟨cell, h1, h2, h3, -⟩ := W
  cases hc.symm.trans h1
  exact ⟨_, rfl, h2, h3, rfl⟩
theorem Rep.upd {sl : Nat} (R : Rep Z n0 h L) (hi : L[i]? = some (a, P)) (W : Wr h h' a sl v) (hP : ∀ c : Cell, h[a]? = some c → P Z c → P' Z (c.setSlot sl v)) : Rep Z n0 h' (L.set i (a, P')) := by
  have em : (L.set i (a, P')).map (·.1) = L.map (·.1) := by
    rw [List.map_set]
    apply List.ext_getElem?
    intro k
    rw [List.getElem?_set]
    split
    · rename_i e; subst e
      split
      · simp [hi]
      · rename_i e; simp only [List.length_map] at e; simp [List.getElem?_eq_none (Nat.le_of_not_lt e)]
    · rfl
  have il : i < L.length := (List.getElem?_eq_some_iff.mp hi).1
  refine ⟨by rw [W.size]; exact R.1, by rw [em]; exact R.2.1, fun x hx => ?_⟩
  obtain ⟨k, hk⟩ := List.mem_iff_getElem?.mp hx
  rw [List.getElem?_set] at hk
  split at hk
  · rename_i e; subst e
    cases hk
    obtain ⟨g, c, hc, p⟩ := R.at hi
    obtain ⟨c', e1, -, -, -, -, -, e7⟩ := wr_at W hc
    exact ⟨g, c', e1, by rw [(e7 rfl).1]; exact hP c hc p⟩
  · rename_i e
    obtain ⟨g, c, hc, p⟩ := R.2.2 x (List.mem_of_getElem? hk)
    have ne : x.1 ≠ a := fun q => by
      refine e ((List.getElem?_inj (l := L.map (·.1)) (by simpa using il) R.2.1).mp ?_)
      simp [hi, hk, q]
    obtain ⟨c', e1, -, -, -, e5, -⟩ := wr_at W hc
    exact ⟨g, c', e1, by rw [e5 ne]; exact p⟩
theorem Rep.put (R : Rep Z n0 h L) (hi : L[i]? = some (a, Obj C fs)) (hj : fs[j]? = some (n, d, w)) (W : Wr h h' a (Jvm.RoadKit.slotOf Z C n d) v) : Rep Z n0 h' (L.set i (a, Obj C (fs.set j (n, d, v)))) := by
  refine R.upd hi W fun c hc ⟨E, F, S⟩ => ?_
  have W1 := wr_one hc W
  have jl : j < fs.length := (List.getElem?_eq_some_iff.mp hj).1
  have key : ∀ (k : Nat) (x : String × String × Value), (fs.set j (n, d, v))[k]? = some x → ∃ y, fs[k]? = some y ∧ y.1 = x.1 ∧ y.2.1 = x.2.1 ∧ (k ≠ j → y = x) ∧ (k = j → x = (n, d, v)) := by
    intro k x hk
    rw [List.getElem?_set] at hk
    split at hk
    · rename_i e; subst e
      have hx := (Option.some.inj hk).symm
      exact ⟨(n, d, w), hj, by rw [hx], by rw [hx], fun q => absurd rfl q, fun _ => hx⟩
    · rename_i e
      exact ⟨x, hk, rfl, rfl, fun _ => rfl, fun q => absurd q.symm e⟩
  refine ⟨E.wr W1, fun k x hk => ?_, fun k k' x y ne hk hk' => ?_⟩
  · obtain ⟨y, y1, y2, y3, y4, y5⟩ := key k x hk
    by_cases e : k = j
    · subst e
      have hx := y5 rfl
      rw [hx]
      exact (F _ _ hj).same W1
    · have hx := y4 e
      subst hx
      have s : Jvm.RoadKit.slotOf Z C y.1 y.2.1 ≠ Jvm.RoadKit.slotOf Z C n d := S k j y (n, d, w) e y1 hj
      exact Fld.other W1 (F k y y1) (Or.inr s)
  · have kx := key k x hk
    have ky := key k' y hk'
    obtain ⟨x', x1, x2, x3, _⟩ := kx
    obtain ⟨y', y1, y2, y3, _⟩ := ky
    have := S k k' x' y' ne x1 y1
    rw [x2, x3, y2, y3] at this
    exact this
theorem Rep.sto {k : Nat} (R : Rep Z n0 h L) (hi : L[i]? = some (a, Ar ty vs)) (W : Wr h h' a k v) (hf : fits ty v = true) : Rep Z n0 h' (L.set i (a, Ar ty (vs.set k v))) := by
  refine R.upd hi W fun c hc ⟨A, B, V, F, E⟩ => ⟨A, B, ?_, fun x hx => ?_, E.wr (wr_one hc W)⟩
  · show (c.slots.setIfInBounds k v).toList = _
    rw [Array.toList_setIfInBounds, V]
  · rcases List.mem_or_eq_of_mem_set hx with q | q
    · exact F x q
    · rw [q]; exact hf
theorem Rep.add (R : Rep Z n0 h L) (E : Ext h h') (g : a = h.size) (hc : h'[a]? = some c) (p : P Z c) : Rep Z n0 h' ((a, P) :: L) := by
  refine ⟨Nat.le_trans R.1 E.1, ?_, fun x hx => ?_⟩
  · rw [List.map_cons, List.nodup_cons]
    refine ⟨fun q => ?_, R.2.1⟩
    obtain ⟨x, hx, e⟩ := List.mem_map.mp q
    obtain ⟨-, c, hc, -⟩ := R.2.2 x hx
    have := (Array.getElem?_eq_some_iff.mp hc).1
    exact absurd (e.trans g) (Nat.ne_of_lt this)
  · rcases List.mem_cons.mp hx with rfl | hx
    · exact ⟨g ▸ R.1, c, hc, p⟩
    · obtain ⟨q, c, hc, p⟩ := R.2.2 x hx
      exact ⟨q, c, E.2 _ _ hc, p⟩
theorem Rep.ext (R : Rep Z n0 h L) (E : Ext h h') : Rep Z n0 h' L := ⟨Nat.le_trans R.1 E.1, R.2.1, fun x hx => by
  obtain ⟨q, c, hc, p⟩ := R.2.2 x hx
  exact ⟨q, c, E.2 _ _ hc, p⟩⟩
theorem perm_front {α : Type} : ∀ (L : List α) (i : Nat) (x : α), L[i]? = some x → (x :: L.eraseIdx i).Perm L
  | [], _, _, q => nomatch q
  | y :: t, 0, x, q => by cases q; exact List.Perm.refl _
  | y :: t, i + 1, x, q => by
    have ih := perm_front t i x (by simpa using q)
    exact (List.Perm.swap y x (t.eraseIdx i)).trans (ih.cons y)
theorem Rep.front {x : Addr × Des} {L' : RL} (R : Rep Z n0 h L) (i : Nat) (hi : L[i]? = some x) (e : L.eraseIdx i = L') : Rep Z n0 h (x :: L') := by
  subst e
  have pm : (x :: L.eraseIdx i).Perm L := perm_front L i x hi
  exact ⟨R.1, (pm.map _).nodup_iff.mpr R.2.1, fun y hy => R.2.2 y (pm.mem_iff.mp hy)⟩
theorem Rep.tail {x : Addr × Des} (R : Rep Z n0 h (x :: L)) : Rep Z n0 h L := ⟨R.1, (List.nodup_cons.mp (by simpa using R.2.1)).2, fun y hy => R.2.2 y (List.mem_cons_of_mem _ hy)⟩
/-- what the sheet says of the fields of a new object, one by one -/
def LaidAll (Z : State) (a0 : Array Value) (C : String) : List (String × String × Value) → Prop
  | [] => True
  | x :: r => (Laid Z a0 C C x.1 x.2.1 ∧ ∃ ty, parseFieldDescriptor x.2.1 = some ty ∧ x.2.2 = defaultValue ty) ∧ LaidAll Z a0 C r
theorem LaidAll.mem {a0 : Array Value} : ∀ {fs : List (String × String × Value)}, LaidAll Z a0 C fs → ∀ x ∈ fs, Laid Z a0 C C x.1 x.2.1 ∧ ∃ ty, parseFieldDescriptor x.2.1 = some ty ∧ x.2.2 = defaultValue ty
  | [], _, _, hx => nomatch hx
  | y :: r, q, x, hx => (List.mem_cons.mp hx).elim (fun e => e ▸ q.1) (LaidAll.mem q.2 x)
theorem Rep.newO {a0 : Array Value} (R : Rep Z n0 h L) (E : Ext h h') (g : a = h.size) (A : Exa Z h' a C) (D : ∀ {O nm d : String} {ty : FieldType}, Laid Z a0 C O nm d → parseFieldDescriptor d = some ty → Fld Z h' a O nm d (defaultValue ty)) (hl : LaidAll Z a0 C fs) (hn : (fs.map (·.1)).Nodup) : Rep Z n0 h' ((a, Obj C fs) :: L) := by
  obtain ⟨c, k, hc, r⟩ := id A
  refine R.add E g hc ⟨exa_to hc A, fun j x hx => ?_, fun i j x y ne hx hy e => ?_⟩
  · obtain ⟨l, ty, p, q⟩ := hl.mem x (List.mem_of_getElem? hx)
    rw [q]; exact fld_to hc (D l p)
  · obtain ⟨l, ty, p, q⟩ := hl.mem x (List.mem_of_getElem? hx)
    obtain ⟨l', ty', p', q'⟩ := hl.mem y (List.mem_of_getElem? hy)
    refine slot_ne l l' (fun en => ne ?_) p p' e
    refine (List.getElem?_inj (l := fs.map (·.1)) (by simpa using (List.getElem?_eq_some_iff.mp hx).1) hn).mp ?_
    simp [hx, hy, en]
theorem Rep.newAr {z : Int32} {k : ClassId} (R : Rep Z n0 h L) (E : Ext h h') (g : a = h.size) (A : Arr Z h' a (newA k ty z) ty) (X : Exa Z h' a ("[" ++ ty.toString)) (hf : fits ty (defaultValue ty) = true) (hv : List.replicate z.toNatClampNeg (defaultValue ty) = vs) : Rep Z n0 h' ((a, Ar ty vs) :: L) := by
  refine R.add E g A.1 ⟨A.2.1, A.2.2, ?_, fun v hq => ?_, exa_to A.1 X⟩
  · rw [← hv]; simp [newA]
  · rw [← hv] at hq; rw [List.eq_of_mem_replicate hq]; exact hf
theorem in_of {cl : Cell} {q : Int32} (V : cl.slots.toList = vs) (hq : ¬ q < 0) (hv : q.toNatClampNeg < vs.length) : ¬ (q < 0 ∨ cl.slots.size ≤ q.toNatClampNeg) := by
  rintro (q1 | q1)
  · exact hq q1
  · rw [← V, Array.length_toList] at hv; omega
theorem at_of {cl : Cell} {k : Nat} (V : cl.slots.toList = vs) (hv : vs[k]? = some v) : cl.slots[k]? = some v := by
  rw [← hv, ← V, Array.getElem?_toList]
theorem lt_of {k : Nat} (hv : vs[k]? = some v) : k < vs.length := (List.getElem?_eq_some_iff.mp hv).1
end Facts
/-! ## One law a step -/
section Steps
variable {p : Program} {l : Launch} {e : Env} {R : Room} {s : State} {m : MethodId} {args : Array Value} {below : List Frame} {meth : Method} {c : Code} {T : State} {locs : List Loc} {cells slots : Nat} {Z : State} {a0 : Array Value} {h : Heap} {n0 : Nat} {L : RL}
theorem gGet (X : Stand p l e R s m args below meth c T locs cells slots) (hx : p.tables.exec = Jvm.exec) (hZ : Z.Warmed39 s.vm) {own C n d host : String} {index : Nat} (hown : s.vm.findClass own = some m.cls) (w : (Cond.fieldLink own index C n d).before a0 Z = true ∨ (Cond.fieldLinkNest own index C n d host).before a0 Z = true)
    (eT : T.heap = h) (Q : Rep Z n0 h L) (i j : Nat) {a : Addr} {fs : List (String × String × Value)} {v : Value} (hi : L[i]? = some (a, Obj C fs)) (hj : fs[j]? = some (n, d, v)) {g : JFrame} (hg : g.method = m) {rest : List Value} (hs : g.stack = .ref a :: rest) (hd : decode c.code g.pc = .ok (.getfield index, 3)) :
    ∃ T', Stand p l e R s m args below meth c T' locs cells slots ∧ T'.heap = h ∧ ∀ target, Steps p.tables e below (T'.setTop { g with pc := g.pc + 3, stack := v :: rest }) target → Steps p.tables e below (T.setTop g) target :=
  getF X hx hZ hown w Via.refl eT (Q.fld hi hj) hg hs hd
theorem gPut (X : Stand p l e R s m args below meth c T locs cells slots) (hx : p.tables.exec = Jvm.exec) (hZ : Z.Warmed39 s.vm) {own C n d host : String} {index kk : Nat} {ty : FieldType} (hown : s.vm.findClass own = some m.cls) (w : (Cond.fieldLink own index C n d).before a0 Z = true ∨ (Cond.fieldLinkNest own index C n d host).before a0 Z = true)
    (eT : T.heap = h) (N : Fr n0 locs) (Q : Rep Z n0 h L) (i j : Nat) {a : Addr} {fs : List (String × String × Value)} {v old : Value} (hi : L[i]? = some (a, Obj C fs)) (hj : fs[j]? = some (n, d, old))
    (Lw : (Cond.lays C C n d).before a0 Z = true ∨ ((Cond.laysFinal C C n d).before a0 Z = true ∧ own = C ∧ meth.name = "<init>")) (wi : (Cond.instantiable C kk).before a0 Z = true)
    (hty : parseFieldDescriptor d = some ty) (hn : narrow ty v = v) (hf : fits ty v = true) {g : JFrame} (hg : g.method = m) {rest : List Value} (hs : g.stack = v :: .ref a :: rest) (hd : decode c.code g.pc = .ok (.putfield index, 3)) :
    ∃ T' h' locs', Stand p l e R s m args below meth c T' locs' cells slots ∧ T'.heap = h' ∧ Fr n0 locs' ∧ Rep Z n0 h' (L.set i (a, Obj C (fs.set j (n, d, v)))) ∧ ∀ target, Steps p.tables e below (T'.setTop { g with pc := g.pc + 3, stack := rest }) target → Steps p.tables e below (T.setTop g) target := by
  obtain ⟨T', h', X', e', W, st⟩ := putF X hx hZ hown w Via.refl eT (Q.fld hi hj) (Q.exa hi) Lw wi hty hn hf hg hs hd
  exact ⟨T', h', _, X', e', Fr.snoc X' N (Q.ge hi), Q.put hi hj W, st⟩
theorem gNew (X : Stand p l e R s m args below meth c T locs cells slots) (hx : p.tables.exec = Jvm.exec) (hZ : Z.Warmed39 s.vm) {own C : String} {index n : Nat} (hown : s.vm.findClass own = some m.cls) (w : (Cond.classLink own index C).before a0 Z = true) (wi : (Cond.instantiable C n).before a0 Z = true) (wz : (Cond.initialized C).before a0 Z = true)
    (eT : T.heap = h) (Q : Rep Z n0 h L) {fs : List (String × String × Value)} (hl : LaidAll Z a0 C fs) (hn : (fs.map (·.1)).Nodup) {g : JFrame} (hg : g.method = m) (hd : decode c.code g.pc = .ok (.new index, 3)) (hc : cells + 1 ≤ R.cells) (hs : slots + n ≤ R.slots) :
    ∃ T' h' a, Stand p l e R s m args below meth c T' locs (cells + 1) (slots + n) ∧ T'.heap = h' ∧ Rep Z n0 h' ((a, Obj C fs) :: L) ∧ ∀ target, Steps p.tables e below (T'.setTop { g with pc := g.pc + 3, stack := .ref a :: g.stack }) target → Steps p.tables e below (T.setTop g) target := by
  obtain ⟨T', h', X', e', E, A, D, -, st⟩ := newO X hx hZ hown w wi wz eT hg hd hc hs
  exact ⟨T', h', _, X', e', Q.newO E rfl A D hl hn, st⟩
theorem gNewP (X : Stand p l e R s m args below meth c T locs cells slots) (hx : p.tables.exec = Jvm.exec) (hZ : Z.Warmed39 s.vm) {aty : ArrayType} (w : (Cond.arrayClass (newarray.typeOf aty)).before a0 Z = true)
    (eT : T.heap = h) (Q : Rep Z n0 h L) {g : JFrame} (hg : g.method = m) (hd : decode c.code g.pc = .ok (.newarray aty, 2)) {n : Int32} {rest : List Value} (hs : g.stack = .int n :: rest) (hn : ¬ n < 0) (cap : Nat) (hcap : n.toNatClampNeg ≤ cap) (hb : cap * 8 ≤ 536870912) (hc : cells + 1 ≤ R.cells) (hl : slots + cap ≤ R.slots)
    {vs : List Value} (hv : List.replicate n.toNatClampNeg (defaultValue (newarray.typeOf aty)) = vs) :
    ∃ T' h' a, Stand p l e R s m args below meth c T' locs (cells + 1) (slots + cap) ∧ T'.heap = h' ∧ Rep Z n0 h' ((a, Ar (newarray.typeOf aty) vs) :: L) ∧ ∀ target, Steps p.tables e below (T'.setTop { g with pc := g.pc + 2, stack := .ref a :: rest }) target → Steps p.tables e below (T.setTop g) target := by
  obtain ⟨T', h', cA, X', e', E, A, EX, st⟩ := newPE X hx hZ w eT hg hd hs hn hcap hb hc hl rfl
  exact ⟨T', h', _, X', e', Q.newAr E rfl A EX (by cases aty <;> rfl) hv, st⟩
theorem gLen (X : Stand p l e R s m args below meth c T locs cells slots) (hx : p.tables.exec = Jvm.exec) (hZ : Z.Warmed39 s.vm) (eT : T.heap = h) (Q : Rep Z n0 h L) (i : Nat) {a : Addr} {ty : FieldType} {vs : List Value} (hi : L[i]? = some (a, Ar ty vs))
    {g : JFrame} (hg : g.method = m) {rest : List Value} (hs : g.stack = .ref a :: rest) (hd : decode c.code g.pc = .ok (.arraylength, 1)) {z : Int32} (hz : Int32.ofNat vs.length = z) :
    ∀ target, Steps p.tables e below (T.setTop { g with pc := g.pc + 1, stack := .int z :: rest }) target → Steps p.tables e below (T.setTop g) target := by
  obtain ⟨cl, A, V⟩ := Q.arr hi
  intro target k
  refine X.arraylength hx (cell := cl) (by rw [eT]; exact A.1) (State.isArrayOf_alike hZ.alike A.2.1) hg hs hd _ ?_
  have q : cl.slots.size.toInt32 = z := by rw [← hz, ← V, Array.length_toList]
  rw [q]; exact k
theorem gIald (X : Stand p l e R s m args below meth c T locs cells slots) (hx : p.tables.exec = Jvm.exec) (hZ : Z.Warmed39 s.vm) (eT : T.heap = h) (Q : Rep Z n0 h L) (i : Nat) {a : Addr} {vs : List Value} (hi : L[i]? = some (a, Ar .int vs))
    {j : Int32} {v : Value} (hj : ¬ j < 0) (hv : vs[j.toNatClampNeg]? = some v) {g : JFrame} (hg : g.method = m) {rest : List Value} (hs : g.stack = .int j :: .ref a :: rest) (hd : decode c.code g.pc = .ok (.iaload, 1)) :
    ∀ target, Steps p.tables e below (T.setTop { g with pc := g.pc + 1, stack := v :: rest }) target → Steps p.tables e below (T.setTop g) target := by
  obtain ⟨cl, A, V⟩ := Q.arr hi
  intro target k
  exact X.iaload hx (by rw [eT]; exact A.1) (State.isArrayOf_alike hZ.alike A.2.1) A.2.2 (in_of V hj (lt_of hv)) (at_of V hv) hg hs hd _ k
theorem gLald (X : Stand p l e R s m args below meth c T locs cells slots) (hx : p.tables.exec = Jvm.exec) (hZ : Z.Warmed39 s.vm) (eT : T.heap = h) (Q : Rep Z n0 h L) (i : Nat) {a : Addr} {vs : List Value} (hi : L[i]? = some (a, Ar .long vs))
    {j : Int32} {v : Value} (hj : ¬ j < 0) (hv : vs[j.toNatClampNeg]? = some v) {g : JFrame} (hg : g.method = m) {rest : List Value} (hs : g.stack = .int j :: .ref a :: rest) (hd : decode c.code g.pc = .ok (.laload, 1)) :
    ∀ target, Steps p.tables e below (T.setTop { g with pc := g.pc + 1, stack := v :: rest }) target → Steps p.tables e below (T.setTop g) target := by
  obtain ⟨cl, A, V⟩ := Q.arr hi
  intro target k
  exact X.laload hx (by rw [eT]; exact A.1) (State.isArrayOf_alike hZ.alike A.2.1) A.2.2 (in_of V hj (lt_of hv)) (at_of V hv) hg hs hd _ k
theorem gBald (X : Stand p l e R s m args below meth c T locs cells slots) (hx : p.tables.exec = Jvm.exec) (hZ : Z.Warmed39 s.vm) (eT : T.heap = h) (Q : Rep Z n0 h L) (i : Nat) {a : Addr} {vs : List Value} (hi : L[i]? = some (a, Ar .byte vs))
    {j : Int32} {v : Value} (hj : ¬ j < 0) (hv : vs[j.toNatClampNeg]? = some v) {g : JFrame} (hg : g.method = m) {rest : List Value} (hs : g.stack = .int j :: .ref a :: rest) (hd : decode c.code g.pc = .ok (.baload, 1)) :
    ∀ target, Steps p.tables e below (T.setTop { g with pc := g.pc + 1, stack := v :: rest }) target → Steps p.tables e below (T.setTop g) target := by
  obtain ⟨cl, A, V⟩ := Q.arr hi
  intro target k
  exact X.baloadBytes hx (by rw [eT]; exact A.1) (State.isArrayOf_alike hZ.alike A.2.1) A.2.2 (in_of V hj (lt_of hv)) (at_of V hv) hg hs hd _ k
theorem gIst (X : Stand p l e R s m args below meth c T locs cells slots) (hx : p.tables.exec = Jvm.exec) (hZ : Z.Warmed39 s.vm) (eT : T.heap = h) (N : Fr n0 locs) (Q : Rep Z n0 h L) (i : Nat) {a : Addr} {vs : List Value} (hi : L[i]? = some (a, Ar .int vs))
    {j x : Int32} (hj : ¬ j < 0) (k : Nat) (hk : j.toNatClampNeg = k) (hv : k < vs.length) {g : JFrame} (hg : g.method = m) {rest : List Value} (hs : g.stack = .int x :: .int j :: .ref a :: rest) (hd : decode c.code g.pc = .ok (.iastore, 1)) :
    ∃ T' h' locs', Stand p l e R s m args below meth c T' locs' cells slots ∧ T'.heap = h' ∧ Fr n0 locs' ∧ Rep Z n0 h' (L.set i (a, Ar .int (vs.set k (.int x)))) ∧ ∀ target, Steps p.tables e below (T'.setTop { g with pc := g.pc + 1, stack := rest }) target → Steps p.tables e below (T.setTop g) target := by
  obtain ⟨cl, A, V⟩ := Q.arr hi
  subst hk
  obtain ⟨T', h', X', e', W, st⟩ := stI X hx hZ eT A (j := j) (x := x) (in_of V hj hv) hg hs hd
  exact ⟨T', h', _, X', e', Fr.snoc X' N (Q.ge hi), Q.sto hi W rfl, st⟩
theorem gLst (X : Stand p l e R s m args below meth c T locs cells slots) (hx : p.tables.exec = Jvm.exec) (hZ : Z.Warmed39 s.vm) (eT : T.heap = h) (N : Fr n0 locs) (Q : Rep Z n0 h L) (i : Nat) {a : Addr} {vs : List Value} (hi : L[i]? = some (a, Ar .long vs))
    {j : Int32} {x : Int64} (hj : ¬ j < 0) (k : Nat) (hk : j.toNatClampNeg = k) (hv : k < vs.length) {g : JFrame} (hg : g.method = m) {rest : List Value} (hs : g.stack = .long x :: .int j :: .ref a :: rest) (hd : decode c.code g.pc = .ok (.lastore, 1)) :
    ∃ T' h' locs', Stand p l e R s m args below meth c T' locs' cells slots ∧ T'.heap = h' ∧ Fr n0 locs' ∧ Rep Z n0 h' (L.set i (a, Ar .long (vs.set k (.long x)))) ∧ ∀ target, Steps p.tables e below (T'.setTop { g with pc := g.pc + 1, stack := rest }) target → Steps p.tables e below (T.setTop g) target := by
  obtain ⟨cl, A, V⟩ := Q.arr hi
  subst hk
  obtain ⟨T', h', X', e', W, st⟩ := stJ X hx hZ eT A (j := j) (x := x) (in_of V hj hv) hg hs hd
  exact ⟨T', h', _, X', e', Fr.snoc X' N (Q.ge hi), Q.sto hi W rfl, st⟩
theorem gBst (X : Stand p l e R s m args below meth c T locs cells slots) (hx : p.tables.exec = Jvm.exec) (hZ : Z.Warmed39 s.vm) (eT : T.heap = h) (N : Fr n0 locs) (Q : Rep Z n0 h L) (i : Nat) {a : Addr} {vs : List Value} (hi : L[i]? = some (a, Ar .byte vs))
    {j x : Int32} (hj : ¬ j < 0) (k : Nat) (hk : j.toNatClampNeg = k) (hv : k < vs.length) {g : JFrame} (hg : g.method = m) {rest : List Value} (hs : g.stack = .int x :: .int j :: .ref a :: rest) (hd : decode c.code g.pc = .ok (.bastore, 1)) :
    ∃ T' h' locs', Stand p l e R s m args below meth c T' locs' cells slots ∧ T'.heap = h' ∧ Fr n0 locs' ∧ Rep Z n0 h' (L.set i (a, Ar .byte (vs.set k (.int x.toInt8.toInt32)))) ∧ ∀ target, Steps p.tables e below (T'.setTop { g with pc := g.pc + 1, stack := rest }) target → Steps p.tables e below (T.setTop g) target := by
  obtain ⟨cl, A, V⟩ := Q.arr hi
  subst hk
  obtain ⟨T', h', X', e', W, st⟩ := stB X hx hZ eT A (j := j) (x := x) (in_of V hj hv) hg hs hd
  exact ⟨T', h', _, X', e', Fr.snoc X' N (Q.ge hi), Q.sto hi W (fits_nar_byte x), st⟩
theorem gClone (X : Stand p l e R s m args below meth c T locs cells slots) (hx : p.tables.exec = Jvm.exec) (hZ : Z.Warmed39 s.vm) {own ad : String} {index : Nat} (hown : s.vm.findClass own = some m.cls)
    (w1 : (Cond.methodLink own index ⟨ad, "clone", "()Ljava/lang/Object;"⟩).before a0 Z = true) (w2 : (Cond.sameMethod ad "java/lang/Object" "clone" "()Ljava/lang/Object;").before a0 Z = true) (w3 : (Cond.native ⟨"java/lang/Object", "clone", "()Ljava/lang/Object;"⟩).before a0 Z = true)
    (w4 : (Cond.instanceMethod ⟨"java/lang/Object", "clone", "()Ljava/lang/Object;"⟩).before a0 Z = true) (w5 : (Cond.selects ad ⟨ad, "clone", "()Ljava/lang/Object;"⟩ ⟨"java/lang/Object", "clone", "()Ljava/lang/Object;"⟩).before a0 Z = true) (w6 : (Cond.castable ad "java/lang/Cloneable").before a0 Z = true)
    (eT : T.heap = h) (Q : Rep Z n0 h L) (i : Nat) {a : Addr} {ty : FieldType} {vs : List Value} (hi : L[i]? = some (a, Ar ty vs)) (had : "[" ++ ty.toString = ad) {g : JFrame} (hg : g.method = m) (hsize : g.locals.size = c.maxLocals) {rest : List Value} (hs : g.stack = .ref a :: rest) (hd : decode c.code g.pc = .ok (.invokevirtual index, 3))
    (hf : 1 ≤ R.frames) {W : Nat} (cap : Nat) (hW : 2 * g.monitorRoom + (rest.map fun v => v.category).sum ≤ W) (hl : W + 14 ≤ R.locals) (hcap : vs.length ≤ cap) (hc : cells + 1 ≤ R.cells) (hsl : slots + cap ≤ R.slots) :
    ∃ T' h' b, Stand p l e R s m args below meth c T' locs (cells + 1) (slots + cap) ∧ T'.heap = h' ∧ Rep Z n0 h' ((b, Ar ty vs) :: L) ∧ Exa Z h' b ad ∧
      ∀ target, Steps p.tables e below (T'.setTop { g with pc := g.pc + 3, stack := .ref b :: rest }) target → Steps p.tables e below (T.setTop g) target := by
  subst had
  obtain ⟨cl, A, V, F, E⟩ := Q.arr' hi
  have FC : FitC Z cl := fitC_of A fun k hk v hv => F v (by rw [← V]; exact Array.mem_toList_iff.mpr (Array.mem_of_getElem? hv))
  obtain ⟨T', h', X', e', ex, A', E', st⟩ := cloneA X hx hZ hown w1 w2 w3 w4 w5 w6 eT A E FC hg hsize hs hd hf hW hl (by rw [← V, Array.length_toList] at hcap; exact hcap) hc hsl
  exact ⟨T', h', _, X', e', Q.add ex rfl A'.1 ⟨A'.2.1, A'.2.2, V, F, exa_to A'.1 E'⟩, E', st⟩
theorem gCast (X : Stand p l e R s m args below meth c T locs cells slots) (hx : p.tables.exec = Jvm.exec) (hZ : Z.Warmed39 s.vm) {own K : String} {index : Nat} (hown : s.vm.findClass own = some m.cls) (w : (Cond.classLink own index K).before a0 Z = true) (eT : T.heap = h) {a : Addr} (E : Exa Z h a K)
    {g : JFrame} (hg : g.method = m) {rest : List Value} (hs : g.stack = .ref a :: rest) (hd : decode c.code g.pc = .ok (.checkcast index, 3)) : ∃ T', Stand p l e R s m args below meth c T' locs cells slots ∧ T'.heap = h ∧ ∀ target, Steps p.tables e below (T'.setTop { g with pc := g.pc + 3 }) target → Steps p.tables e below (T.setTop g) target :=
  castY X hx hZ hown w eT (Ins.self E) hg hs hd
theorem arv_of {a : Addr} {ty : FieldType} {vs : List Value} {dv : Value} {cl : Cell} (A : Arr Z h a cl ty) (V : cl.slots.toList = vs) (F : ∀ v ∈ vs, fits ty v = true) (hl : vs.length < 2 ^ 31) : Arv Z h a cl.cls ty (Int32.ofNat vs.length) vs dv := by
  have q : (Int32.ofNat vs.length).toNatClampNeg = vs.length := by
    rw [Int32.toNatClampNeg, Int32.toInt_ofNat_of_lt hl]; rfl
  have S : cl.slots.size = vs.length := by rw [← V, Array.length_toList]
  have G : ∀ k, k < cl.slots.size → cl.slots[k]? = some (vs.getD k dv) := fun k hk => by
    rw [← Array.getElem?_toList, V, List.getD_eq_getElem?_getD, List.getElem?_eq_getElem (by omega)]; rfl
  refine ⟨cl, A, rfl, by rw [q, S], ?_, G, fun k hk => ?_⟩
  · rw [Int32.lt_iff_toInt_lt, Int32.toInt_ofNat_of_lt hl, show (0 : Int32).toInt = 0 from rfl]; omega
  · rw [List.getD_eq_getElem?_getD, List.getElem?_eq_getElem (by omega)]
    exact F _ (List.getElem_mem _)
theorem Rep.kept {h' : Heap} {i : Nat} {b : Addr} {P P' : Des} {cb : Cell} (Q : Rep Z n0 h L) (hi : L[i]? = some (b, P)) (K : Keep h h' [b]) (hc : h'[b]? = some cb) (p : P' Z cb) : Rep Z n0 h' (L.set i (b, P')) := by
  have em : (L.set i (b, P')).map (·.1) = L.map (·.1) := by
    rw [List.map_set]
    apply List.ext_getElem?
    intro k
    rw [List.getElem?_set]
    split
    · rename_i e; subst e
      split
      · simp [hi]
      · rename_i e; simp only [List.length_map] at e; simp [List.getElem?_eq_none (Nat.le_of_not_lt e)]
    · rfl
  have il : i < L.length := (List.getElem?_eq_some_iff.mp hi).1
  refine ⟨Nat.le_trans Q.1 K.1, by rw [em]; exact Q.2.1, fun x hx => ?_⟩
  obtain ⟨k, hk⟩ := List.mem_iff_getElem?.mp hx
  rw [List.getElem?_set] at hk
  split at hk
  · rename_i e; subst e
    cases hk
    exact ⟨Q.ge hi, cb, hc, p⟩
  · rename_i e
    obtain ⟨g, c, hc', p'⟩ := Q.2.2 x (List.mem_of_getElem? hk)
    have ne : x.1 ≠ b := fun q => by
      refine e ((List.getElem?_inj (l := L.map (·.1)) (by simpa using il) Q.2.1).mp ?_)
      simp [hi, hk, q]
    exact ⟨g, c, K.2.1 _ _ hc' (by simpa using ne), p'⟩
theorem gCopy (X : Stand p l e R s m args below meth c T locs cells slots) (hx : p.tables.exec = Jvm.exec) (hZ : Z.Warmed39 s.vm) {own : String} {index : Nat} (hown : s.vm.findClass own = some m.cls)
    (w1 : (Cond.methodLink own index Jvm.Stand.acN).before a0 Z = true) (w2 : (Cond.native Jvm.Stand.acN).before a0 Z = true) (w3 : (Cond.static Jvm.Stand.acN).before a0 Z = true) (w4 : (Cond.initialized "java/lang/System").before a0 Z = true) (eT : T.heap = h) (N : Fr n0 locs) (Q : Rep Z n0 h L) (i j : Nat)
    {a b : Addr} {ty : FieldType} {vs vd : List Value} (hi : L[i]? = some (a, Ar ty vs)) (hj : L[j]? = some (b, Ar ty vd)) (hty : refKind ty = false) (l1 : vs.length < 2 ^ 31) (l2 : vd.length < 2 ^ 31) {sp dp nn : Int32} (h1 : ¬ sp < 0) (h2 : ¬ dp < 0) (h3 : ¬ nn < 0) (si di ni : Nat) (es : sp.toNatClampNeg = si) (ed : dp.toNatClampNeg = di) (en : nn.toNatClampNeg = ni)
    (h4 : si + ni ≤ vs.length) (h5 : di + ni ≤ vd.length)
    {g : JFrame} (hg : g.method = m) (hsize : g.locals.size = c.maxLocals) {rest : List Value} (hs : g.stack = .int nn :: .int dp :: .ref b :: .int sp :: .ref a :: rest) (hd : decode c.code g.pc = .ok (.invokestatic index, 3))
    (hf : 1 ≤ R.frames) {W : Nat} (hW : 2 * g.monitorRoom + (rest.map fun v => v.category).sum ≤ W) (hlo : W + (nativeFrameWords "java/lang/System" "arraycopy" 5 + 11) ≤ R.locals) :
    ∃ T' h' L', Stand p l e R s m args below meth c T' L' cells slots ∧ T'.heap = h' ∧ Fr n0 L' ∧ Rep Z n0 h' (L.set j (b, Ar ty (vd.take di ++ (vs.drop si).take ni ++ vd.drop (di + ni)))) ∧
      ∀ target, Steps p.tables e below (T'.setTop { g with pc := g.pc + 3, stack := rest }) target → Steps p.tables e below (T.setTop g) target := by
  subst es ed en
  obtain ⟨ca, A, Va, Fa, Ea⟩ := Q.arr' hi
  obtain ⟨cb, B, Vb, Fb, Eb⟩ := Q.arr' hj
  have za : (Int32.ofNat vs.length).toNatClampNeg = vs.length := by rw [Int32.toNatClampNeg, Int32.toInt_ofNat_of_lt l1]; rfl
  have zb : (Int32.ofNat vd.length).toNatClampNeg = vd.length := by rw [Int32.toNatClampNeg, Int32.toInt_ofNat_of_lt l2]; rfl
  have hus : (vs.drop sp.toNatClampNeg).take nn.toNatClampNeg = (List.range nn.toNatClampNeg).map fun k => vs.getD (sp.toNatClampNeg + k) .null := by
    apply List.ext_getElem?
    intro k
    rw [List.getElem?_take, List.getElem?_drop, List.getElem?_map]
    by_cases q : k < nn.toNatClampNeg
    · rw [if_pos q, List.getElem?_range q, List.getElem?_eq_getElem (by omega)]
      simp [List.getD_eq_getElem?_getD, List.getElem?_eq_getElem (show sp.toNatClampNeg + k < vs.length by omega)]
    · rw [if_neg q, List.getElem?_eq_none (by simpa using q)]; rfl
  obtain ⟨T', h', L', X', e', N', K, ⟨c', A', -, S', -, H', G'⟩, st⟩ := cpA X hx hZ hown w1 w2 w3 w4 eT (arv_of (dv := .null) A Va Fa l1) (arv_of (dv := .null) B Vb Fb l2) (Or.inl ⟨rfl, hty⟩) h1 h2 h3 (by rw [za]; exact h4) (by rw [zb]; exact h5) hus h5 N (Q.ge hj) hg hsize hs hd hf hW hlo
  refine ⟨T', h', L', X', e', N', Q.kept hj K A'.1 ⟨A'.2.1, A'.2.2, ?_, fun v hv => ?_, exa_to A'.1 (Eb.keep K)⟩, st⟩
  · apply List.ext_getElem?
    intro k
    rw [Array.getElem?_toList]
    by_cases q : k < c'.slots.size
    · rw [H' k q, List.getD_eq_getElem?_getD, List.getElem?_eq_getElem]
      · rfl
      · rw [S', zb] at q; simp only [List.length_append, List.length_take, List.length_drop]; omega
    · rw [Array.getElem?_eq_none (by omega), List.getElem?_eq_none]
      rw [S', zb] at q; simp only [List.length_append, List.length_take, List.length_drop]; omega
  · rcases List.mem_append.mp hv with hv | hv
    · rcases List.mem_append.mp hv with hv | hv
      · exact Fb v (List.mem_of_mem_take hv)
      · exact Fa v (List.mem_of_mem_drop (List.mem_of_mem_take hv))
    · exact Fb v (List.mem_of_mem_drop hv)
theorem gMono (X : Stand p l e R s m args below meth c T locs cells slots) {cells' slots' : Nat} (h1 : cells ≤ cells') (h2 : slots ≤ slots') : Stand p l e R s m args below meth c T locs cells' slots' := { X with same := X.same.mono h1 h2 }
theorem retI (X : Stand p l e R s m args below meth c T locs cells slots) (hx : p.tables.exec = Jvm.exec) {pc : Nat} {Ls : Array Slot} {z : Int32} {rest : List Value} (hret : meth.sig.returnType = some .int) (hd : decode c.code pc = .ok (.ireturn, 1)) {fs : List Frame}
    (hl : ∀ (f : JFrame) (acts : List Action), f.method = m → f.locked = none → f.entered = [] → (doReturn e (T.setTop f) acts (some (.int z))).1 = T.setFrames fs) : Steps p.tables e below (T.setTop (mkF m pc Ls (.int z :: rest))) (T.setFrames fs) := by
  have hm' : T.vm.method? m = some meth := X.method'
  have hn : narrow .int (.int z) = .int z := rfl
  show Steps p.tables e below (T.setTop { method := m, pc := pc, locals := Ls, stack := _ :: rest, locked := none }) _
  jvm_step X.here [X.here.top, hx, hd, hm', hret, hn]
  first | (intro acts; rw [hl _ acts rfl rfl rfl]) | rw [hl _ _ rfl rfl rfl]
  exact Steps.refl _
theorem retL (X : Stand p l e R s m args below meth c T locs cells slots) (hx : p.tables.exec = Jvm.exec) {pc : Nat} {Ls : Array Slot} {z : Int64} {rest : List Value} (hret : meth.sig.returnType = some .long) (hd : decode c.code pc = .ok (.lreturn, 1)) {fs : List Frame}
    (hl : ∀ (f : JFrame) (acts : List Action), f.method = m → f.locked = none → f.entered = [] → (doReturn e (T.setTop f) acts (some (.long z))).1 = T.setFrames fs) : Steps p.tables e below (T.setTop (mkF m pc Ls (.long z :: rest))) (T.setFrames fs) := by
  have hm' : T.vm.method? m = some meth := X.method'
  have hn : narrow .long (.long z) = .long z := rfl
  show Steps p.tables e below (T.setTop { method := m, pc := pc, locals := Ls, stack := _ :: rest, locked := none }) _
  jvm_step X.here [X.here.top, hx, hd, hm', hret, hn]
  first | (intro acts; rw [hl _ acts rfl rfl rfl]) | rw [hl _ _ rfl rfl rfl]
  exact Steps.refl _
theorem retA (X : Stand p l e R s m args below meth c T locs cells slots) (hx : p.tables.exec = Jvm.exec) {pc : Nat} {Ls : Array Slot} {a : Addr} {rest : List Value} {t : FieldType} (ht : t.isReference = true) (hret : meth.sig.returnType = some t) (hd : decode c.code pc = .ok (.areturn, 1)) {fs : List Frame}
    (hl : ∀ (f : JFrame) (acts : List Action), f.method = m → f.locked = none → f.entered = [] → (doReturn e (T.setTop f) acts (some (.ref a))).1 = T.setFrames fs) : Steps p.tables e below (T.setTop (mkF m pc Ls (.ref a :: rest))) (T.setFrames fs) := by
  have hm' : T.vm.method? m = some meth := X.method'
  show Steps p.tables e below (T.setTop { method := m, pc := pc, locals := Ls, stack := _ :: rest, locked := none }) _
  jvm_step X.here [X.here.top, hx, hd, hm', hret, ht, Value.isRef]
  first | (intro acts; rw [hl _ acts rfl rfl rfl]) | rw [hl _ _ rfl rfl rfl]
  exact Steps.refl _
end Steps
abbrev iushr (x y : Int32) : Int32 := (x.toUInt32 >>> (y &&& 31).toUInt32).toInt32
abbrev lushr (x : Int64) (y : Int32) : Int64 := (x.toUInt64 >>> (y &&& 0x3f).toInt64.toUInt64).toInt64
abbrev ishl (x y : Int32) : Int32 := x <<< (y &&& 31)
abbrev ishr (x y : Int32) : Int32 := x >>> (y &&& 31)
abbrev lshl (x : Int64) (y : Int32) : Int64 := x <<< (y &&& 0x3f).toInt64
abbrev lshr (x : Int64) (y : Int32) : Int64 := x >>> (y &&& 0x3f).toInt64
/-- a boolean told by a condition, as an int of the machine's -/
abbrev bz (P : Prop) [Decidable P] : Int32 := if P then 1 else 0
theorem nar_b (P : Prop) [Decidable P] : nar .boolean (bz P) = bz P := by unfold bz; split <;> rfl
theorem bz_t {P : Prop} [Decidable P] (h : P) : bz P = 1 := if_pos h
theorem bz_congr {P Q : Prop} [Decidable P] [Decidable Q] (h : P ↔ Q) : bz P = bz Q := by
  by_cases q : Q
  · rw [bz, bz, if_pos q, if_pos (h.mpr q)]
  · rw [bz, bz, if_neg q, if_neg (fun p => q (h.mp p))]
theorem bz_one {P : Prop} [Decidable P] (h : P ↔ True) : bz P = 1 := if_pos (h.mpr trivial)
theorem bz_zero {P : Prop} [Decidable P] (h : P ↔ False) : bz P = 0 := if_neg h.mp
theorem ow_bne_t {P : Prop} [Decidable P] (h : P) : ifCond.holds .ne (bz P) = true := by rw [if0, bz_t h]; decide
theorem ow_bne_f {P : Prop} [Decidable P] (h : ¬ P) : ifCond.holds .ne (bz P) = false := by rw [if0, bz, if_neg h]; decide
theorem ow_beq_t {P : Prop} [Decidable P] (h : ¬ P) : ifCond.holds .eq (bz P) = true := by rw [if0, bz, if_neg h]; decide
theorem ow_beq_f {P : Prop} [Decidable P] (h : P) : ifCond.holds .eq (bz P) = false := by rw [if0, bz_t h]; decide
theorem bz_f {P : Prop} [Decidable P] (h : ¬ P) : bz P = 0 := if_neg h
theorem ite_or_t {α : Type} {c d : Prop} [Decidable c] [Decidable d] {a y : α} (h : c) : (if c ∨ d then a else y) = a := if_pos (Or.inl h)
theorem ite_or_f {α : Type} {c d : Prop} [Decidable c] [Decidable d] {a y : α} (h : ¬ c) : (if c ∨ d then a else y) = (if d then a else y) := by
  by_cases q : d
  · rw [if_pos q, if_pos (Or.inr q)]
  · rw [if_neg q, if_neg (fun z => z.elim h q)]
theorem ite_and_t {α : Type} {c d : Prop} [Decidable c] [Decidable d] {a y : α} (h : c) : (if c ∧ d then a else y) = (if d then a else y) := by
  by_cases q : d
  · rw [if_pos q, if_pos ⟨h, q⟩]
  · rw [if_neg q, if_neg (fun z => q z.2)]
theorem ite_and_f {α : Type} {c d : Prop} [Decidable c] [Decidable d] {a y : α} (h : ¬ c) : (if c ∧ d then a else y) = y := if_neg fun q => h q.1
theorem ow_fin {P : Prop} [Decidable P] (h : P) : some (Value.int (nar .boolean (bz P))) = some (Value.int (1 : Int32)) := by rw [bz_t h]; rfl
theorem ow_fin' {P : Prop} [Decidable P] (h : P) : some (Value.int (bz P)) = some (Value.int (1 : Int32)) := by rw [bz_t h]
end Jvm.Own
namespace Jvm.Own
open Jvm Jvm.RoadKit
/-! ## Longs and ints as natural numbers -/
def nj (x : Int64) : Nat := x.toBitVec.toNat
def ni (x : Int32) : Nat := x.toBitVec.toNat
theorem nj_lt (x : Int64) : nj x < 18446744073709551616 := x.toBitVec.isLt
theorem ni_lt (x : Int32) : ni x < 4294967296 := x.toBitVec.isLt
theorem nj_inj {x y : Int64} (h : nj x = nj y) : x = y := Int64.toBitVec_inj.mp (BitVec.eq_of_toNat_eq h)
theorem ni_inj {x y : Int32} (h : ni x = ni y) : x = y := Int32.toBitVec_inj.mp (BitVec.eq_of_toNat_eq h)
theorem nj_int (x : Int64) : x.toInt = if nj x < 9223372036854775808 then (nj x : Int) else (nj x : Int) - 18446744073709551616 := by
  show x.toBitVec.toInt = _
  rw [BitVec.toInt_eq_toNat_cond]
  show (if 2 * nj x < 2 ^ 64 then (nj x : Int) else (nj x : Int) - (2 ^ 64 : Nat)) = _
  split <;> split <;> omega
theorem ni_int (x : Int32) : x.toInt = if ni x < 2147483648 then (ni x : Int) else (ni x : Int) - 4294967296 := by
  show x.toBitVec.toInt = _
  rw [BitVec.toInt_eq_toNat_cond]
  show (if 2 * ni x < 2 ^ 32 then (ni x : Int) else (ni x : Int) - (2 ^ 32 : Nat)) = _
  split <;> split <;> omega
theorem nj_and (x y : Int64) : nj (x &&& y) = nj x &&& nj y := by show (x.toBitVec &&& y.toBitVec).toNat = _; rw [BitVec.toNat_and]; rfl
theorem nj_or (x y : Int64) : nj (x ||| y) = nj x ||| nj y := by show (x.toBitVec ||| y.toBitVec).toNat = _; rw [BitVec.toNat_or]; rfl
theorem nj_xor (x y : Int64) : nj (x ^^^ y) = nj x ^^^ nj y := by show (x.toBitVec ^^^ y.toBitVec).toNat = _; rw [BitVec.toNat_xor]; rfl
theorem nj_add (x y : Int64) : nj (x + y) = (nj x + nj y) % 18446744073709551616 := by show (x.toBitVec + y.toBitVec).toNat = _; rw [BitVec.toNat_add]; rfl
theorem nj_sub (x y : Int64) : nj (x - y) = (18446744073709551616 - nj y + nj x) % 18446744073709551616 := by show (x.toBitVec - y.toBitVec).toNat = _; rw [BitVec.toNat_sub]; rfl
theorem ni_and (x y : Int32) : ni (x &&& y) = ni x &&& ni y := by show (x.toBitVec &&& y.toBitVec).toNat = _; rw [BitVec.toNat_and]; rfl
theorem nj_lushr (x : Int64) (q : Int32) (k : Nat) (hk : ni q % 64 = k) : nj (lushr x q) = nj x / 2 ^ k := by
  show (x.toBitVec >>> ((q &&& 0x3f).toInt64.toBitVec % 64)).toNat = x.toBitVec.toNat / 2 ^ k
  have h5 := (sm64 q k hk).2
  rw [BitVec.ushiftRight_eq', BitVec.toNat_ushiftRight, Nat.shiftRight_eq_div_pow, BitVec.toNat_umod, (sm64 q k hk).1, BitVec.toNat_ofNat]; congr 2; show k % 2 ^ 64 % 64 = k; omega
theorem nj_lshl (x : Int64) (q : Int32) (k : Nat) (hk : ni q % 64 = k) : nj (lshl x q) = nj x * 2 ^ k % 18446744073709551616 := by
  show (x.toBitVec <<< ((q &&& 0x3f).toInt64.toBitVec.smod 64)).toNat = _
  rw [BitVec.shiftLeft_eq', (sm64 q k hk).1, smod64 k (sm64 q k hk).2, BitVec.toNat_shiftLeft, Nat.shiftLeft_eq]; rfl
theorem ni_l2i (x : Int64) : ni x.toInt32 = nj x % 4294967296 := by
  show (x.toBitVec.signExtend 32).toNat = _
  rw [BitVec.signExtend_eq_setWidth_of_le _ (by decide), BitVec.toNat_setWidth]; rfl
theorem nj_i2l (x : Int32) (h : ni x < 2147483648) : nj x.toInt64 = ni x := by
  have e := nj_int x.toInt64
  rw [Int32.toInt_toInt64, ni_int, if_pos h] at e
  have := nj_lt x.toInt64
  split at e <;> omega
theorem mask_n (x k : Nat) : x &&& (2 ^ k - 1) = x % 2 ^ k := Nat.and_two_pow_sub_one_eq_mod x k
theorem lt64 {x y : Int64} : x < y ↔ x.toInt < y.toInt := Int64.lt_iff_toInt_lt
theorem lt32 {x y : Int32} : x < y ↔ x.toInt < y.toInt := Int32.lt_iff_toInt_lt
/-- the byte at place k of a long, as javac reads it into an int -/
theorem byteI (w : Int64) (q : Int32) (k : Nat) (hk : ni q % 64 = k) : ((lushr w q).toInt32 &&& (255 : Int32)) = Int32.ofNat (nj w / 2 ^ k % 256) := by
  apply ni_inj
  rw [ni_and, ni_l2i, nj_lushr w q k hk, show ni (255 : Int32) = 2 ^ 8 - 1 from rfl, mask_n]
  show _ = (BitVec.ofNat 32 _).toNat
  rw [BitVec.toNat_ofNat]
  omega
theorem byteJ (w : Int64) (q : Int32) (k : Nat) (hk : ni q % 64 = k) : ((lushr w q) &&& (255 : Int64)) = Int64.ofNat (nj w / 2 ^ k % 256) := by
  apply nj_inj
  rw [nj_and, nj_lushr w q k hk, show nj (255 : Int64) = 2 ^ 8 - 1 from rfl, mask_n]
  show _ = (BitVec.ofNat 64 _).toNat
  rw [BitVec.toNat_ofNat]
  omega
theorem all8 {P : Int8 → Prop} (h : ∀ n : Fin 256, P (Int8.ofNat n.1)) (y : Int8) : P y := by
  have q := h ⟨y.toBitVec.toNat, y.toBitVec.isLt⟩
  have e : Int8.ofNat y.toBitVec.toNat = y := by
    apply Int8.toBitVec_inj.mp
    show BitVec.ofNat 8 y.toBitVec.toNat = y.toBitVec
    rw [BitVec.ofNat_toNat]; simp
  rw [e] at q; exact q
/-- an int told by its natural number -/
theorem ofni (x : Int32) : Int32.ofNat (ni x) = x := by
  apply ni_inj
  show (BitVec.ofNat 32 x.toBitVec.toNat).toNat = x.toBitVec.toNat
  rw [BitVec.toNat_ofNat, Nat.mod_eq_of_lt x.toBitVec.isLt]
/-- (x & 0x7fffffff) % m for a small m -/
theorem remN (x : Int32) (m : Int32) (k : Nat) (hm : ni m = k) (h0 : 0 < k) (h1 : k < 2147483648) : ∃ n : Nat, n < k ∧ ((x &&& (2147483647 : Int32)) % m) = Int32.ofNat n := by
  have e1 : ni (x &&& (2147483647 : Int32)) = ni x % 2147483648 := by rw [ni_and, show ni (2147483647 : Int32) = 2 ^ 31 - 1 from rfl, mask_n]
  have m1 : m.toInt = k := by rw [ni_int, if_pos (by omega), hm]
  have a1 : (x &&& (2147483647 : Int32)).toInt = (ni x % 2147483648 : Nat) := by rw [ni_int, if_pos (by omega), e1]
  obtain ⟨p, -⟩ := c_irem (x &&& (2147483647 : Int32)) m k m1
  have r := p (by omega)
  refine ⟨ni x % 2147483648 % k, Nat.mod_lt _ h0, ?_⟩
  have q : ni x % 2147483648 % k < k := Nat.mod_lt _ h0
  apply Int32.toInt_inj.mp
  rw [r, a1, Int32.toInt_ofNat_of_lt (by omega)]; rfl
end Jvm.Own
namespace Jvm.Pilot.@@N@@
open Jvm Jvm.ClassFile Sem Op Lib Jvm.Free Jvm.Stand Jvm.LawKit Jvm.RoadKit Bundle Jvm.Own Jvm.Pilot.@@N@@.Jvm.D
theorem d2_0 : decode jdk_30_method_1_code 0 = .ok (.aload_n 0, 1) := by decide +kernel
theorem d2_1 : decode jdk_30_method_1_code 1 = .ok (.invokespecial 1, 3) := by decide +kernel
theorem d2_4 : decode jdk_30_method_1_code 4 = .ok (.return_, 1) := by decide +kernel
theorem pn_java_lang_Record : plainName "java/lang/Record" = true := by first | (simp [plainName, overriddenIn]; done) | decide +kernel
theorem ef_2 (m : MethodId) (x0 : Addr) : entryFrame m #[(.ref x0)] 1 = mkF m 0 #[.val (.ref x0)] [] := by first | (simp [entryFrame, mkF, argsToLocals, Value.category]; done) | rfl
def Q2 (Z : State) (ax : Addr) (n0 : Nat) (Rst : RL) (v : Option Value) (h : Heap) (L : List Loc) : Prop := v = none ∧ Fr n0 L ∧ Rep Z n0 h (Rst)
set_option maxRecDepth 65536 in
set_option maxHeartbeats 40000000 in
theorem rm2 (l : Launch) (Z : State) (a0 : Array Value) (hw : ∀ d ∈ tables_1, d.before a0 Z = true) (ws : List Jvm.Cond) (ax : Addr) (h0 : Heap) (n0 : Nat) (Rst : RL) (R0 : Rep Z n0 h0 (Rst)) :
    MetFree l (⟨"java/lang/Record", "<init>", "()V"⟩ : MethodName) (head1 (Jvm.Cond.code (⟨"java/lang/Record", "<init>", "()V"⟩ : MethodName) jdk_30_method_1_code 1 none :: ws) ({ frames := 1, cells := 0, slots := 0, locals := 12 } : Room)) (fun a U => a = #[(.ref ax)] ∧ Z.Warmed39 U.vm ∧ U.heap = h0) (fun _ _ _ _ _ => True) (fun _ U o U' => ∃ v L, o = .returned v ∧ Q2 Z ax n0 Rst v U'.heap L ∧ FrameEnd U o U' L ({ frames := 1, cells := 0, slots := 0, locals := 12 } : Room).cells ({ frames := 1, cells := 0, slots := 0, locals := 12 } : Room).slots) := by
  refine MetFree.of_bodySF (plainFor_of_name pn_java_lang_Record) hisR ?_
  intro p e s m args below meth c s₁ Bd hml0 hP hK
  obtain ⟨rfl, hZ, hh⟩ := hP
  have hx := Bd.exec
  have hby := Bd.bytes
  have hml : c.maxLocals = 1 := hml0
  have hown : s.vm.findClass "java/lang/Record" = some m.cls := findClass_of_methodNamed Bd.named
  have hnm := (name_of_methodNamed Bd.named Bd.method).1
  have X0 : Stand p l e ({ frames := 1, cells := 0, slots := 0, locals := 12 } : Room) s m #[(.ref ax)] below meth c s₁ [] 0 0 := Stand.of_body Bd
  have e0 : s₁.heap = h0 := by rw [← hh, Bd.state]; rfl
  have N0 := Fr.nil n0
  have pre0 : ∀ t, Steps p.tables e below (s₁.setTop (mkF m 0 #[.val (.ref ax)] [])) t → Steps p.tables e below (s₁.setTop (entryFrame m #[(.ref ax)] 1)) t := fun t k => castTop (ef_2 m ax) k
  have pre1 : ∀ t, Steps p.tables e below (s₁.setTop (mkF m 1 #[.val (.ref ax)] [(.ref ax)])) t → Steps p.tables e below (s₁.setTop (entryFrame m #[(.ref ax)] 1)) t := fun t k => pre0 t (by
    show Steps p.tables e below (s₁.setTop (mkF m 0 #[.val (.ref ax)] [])) _
    refine XS.aloadN X0.here hx rfl (hb hby d2_0) rfl rfl ?_
    exact k)
  obtain ⟨T2, X2, e2, st2⟩ := initO X0 hx hZ hown (hw _ (List.mem_of_getElem? (i := 13) rfl)) (hw _ (List.mem_of_getElem? (i := 14) rfl)) (hw _ (List.mem_of_getElem? (i := 15) rfl)) e0 (g := (mkF m 1 #[.val (.ref ax)] [(.ref ax)])) rfl (by rw [hml]; rfl) rfl (hb hby d2_1) (by decide) (W := 0) (by show 2 * 0 + _ ≤ _; exact Nat.le_of_eq rfl) (by decide)
  have pre3 : ∀ t, Steps p.tables e below (T2.setTop (mkF m 4 #[.val (.ref ax)] [])) t → Steps p.tables e below (s₁.setTop (entryFrame m #[(.ref ax)] 1)) t := fun t k => pre1 t (st2 t k)
  obtain ⟨fs, hr, hrun, hended, hW, hsame⟩ := X2.leave (v := none) (fun _ => rfl)
  refine ⟨_, _, pre3 _ ?_, hrun, hended, _, _, rfl, ?_, ⟨_, rfl⟩, hW, hsame.mono (by decide) (by decide)⟩
  · show Steps p.tables e below (T2.setTop (mkF m 4 #[.val (.ref ax)] [])) _
    exact X2.returnOut hx Bd.returns (hb hby d2_4) hr
  · show Q2 Z ax n0 Rst _ T2.heap _
    rw [e2]
    exact ⟨rfl, N0, R0⟩
theorem d4_0 : decode prog_95_method_5_code 0 = .ok (.lload_n 0, 1) := by decide +kernel
theorem d4_1 : decode prog_95_method_5_code 1 = .ok (.ldc2_w 17, 3) := by decide +kernel
theorem d4_4 : decode prog_95_method_5_code 4 = .ok (.land, 1) := by decide +kernel
theorem d4_5 : decode prog_95_method_5_code 5 = .ok (.lreturn, 1) := by decide +kernel
theorem pn_com_example_regent_regent_tree_Zxid : plainName "com/example/regent/regent/tree/Zxid" = true := by first | (simp [plainName, overriddenIn]; done) | decide +kernel
theorem ef_4 (m : MethodId) (x0 : Int64) : entryFrame m #[(.long x0)] 2 = mkF m 0 #[.val (.long x0), .second] [] := by first | (simp [entryFrame, mkF, argsToLocals, Value.category]; done) | rfl
def F4 (zx : Int64) : Int64 :=
  (zx &&& (4294967295 : Int64))
def Q4 (Z : State) (zx : Int64) (n0 : Nat) (Rst : RL) (v : Option Value) (h : Heap) (L : List Loc) : Prop := v = some (.long (F4 zx)) ∧ Fr n0 L ∧ Rep Z n0 h (Rst)
set_option maxRecDepth 65536 in
set_option maxHeartbeats 40000000 in
theorem rm4 (l : Launch) (Z : State) (a0 : Array Value) (hw : ∀ d ∈ tables_1, d.before a0 Z = true) (ws : List Jvm.Cond) (zx : Int64) (h0 : Heap) (n0 : Nat) (Rst : RL) (R0 : Rep Z n0 h0 (Rst)) :
    MetFree l (⟨"com/example/regent/regent/tree/Zxid", "counter", "(J)J"⟩ : MethodName) (head1 (Jvm.Cond.code (⟨"com/example/regent/regent/tree/Zxid", "counter", "(J)J"⟩ : MethodName) prog_95_method_5_code 2 (some .long) :: ws) ({ frames := 0, cells := 0, slots := 0, locals := 0 } : Room)) (fun a U => a = #[(.long zx)] ∧ Z.Warmed39 U.vm ∧ U.heap = h0) (fun _ _ _ _ _ => True) (fun _ U o U' => ∃ v L, o = .returned v ∧ Q4 Z zx n0 Rst v U'.heap L ∧ FrameEnd U o U' L ({ frames := 0, cells := 0, slots := 0, locals := 0 } : Room).cells ({ frames := 0, cells := 0, slots := 0, locals := 0 } : Room).slots) := by
  refine MetFree.of_bodySF (plainFor_of_name pn_com_example_regent_regent_tree_Zxid) hisR ?_
  intro p e s m args below meth c s₁ Bd hml0 hP hK
  obtain ⟨rfl, hZ, hh⟩ := hP
  have hx := Bd.exec
  have hby := Bd.bytes
  have hml : c.maxLocals = 2 := hml0
  have hown : s.vm.findClass "com/example/regent/regent/tree/Zxid" = some m.cls := findClass_of_methodNamed Bd.named
  have hnm := (name_of_methodNamed Bd.named Bd.method).1
  have X0 : Stand p l e ({ frames := 0, cells := 0, slots := 0, locals := 0 } : Room) s m #[(.long zx)] below meth c s₁ [] 0 0 := Stand.of_body Bd
  have e0 : s₁.heap = h0 := by rw [← hh, Bd.state]; rfl
  have N0 := Fr.nil n0
  have pre0 : ∀ t, Steps p.tables e below (s₁.setTop (mkF m 0 #[.val (.long zx), .second] [])) t → Steps p.tables e below (s₁.setTop (entryFrame m #[(.long zx)] 2)) t := fun t k => castTop (ef_4 m zx) k
  have pre1 : ∀ t, Steps p.tables e below (s₁.setTop (mkF m 5 #[.val (.long zx), .second] [(.long (zx &&& (4294967295 : Int64)))])) t → Steps p.tables e below (s₁.setTop (entryFrame m #[(.long zx)] 2)) t := fun t k => pre0 t (by
    show Steps p.tables e below (s₁.setTop (mkF m 0 #[.val (.long zx), .second] [])) _
    refine XS.lloadN X0.here hx rfl (hb hby d4_0) rfl ?_
    refine X0.ldc2Long hx hown (mvT hZ (hw _ (List.mem_of_getElem? (i := 20) rfl))) (g := (mkF m 1 #[.val (.long zx), .second] [(.long zx)])) rfl (hb hby d4_1) _ ?_
    refine XS.land X0.here hx rfl (hb hby d4_4) rfl ?_
    exact k)
  obtain ⟨fs, hr, hrun, hended, hW, hsame⟩ := X0.leave (v := some (.long (zx &&& (4294967295 : Int64)))) (fun h => by rw [Bd.returns] at h; cases h)
  refine ⟨_, _, pre1 _ ?_, hrun, hended, _, _, rfl, ?_, ⟨_, rfl⟩, hW, hsame.mono (by decide) (by decide)⟩
  · show Steps p.tables e below (s₁.setTop (mkF m 5 #[.val (.long zx), .second] [(.long (zx &&& (4294967295 : Int64)))])) _
    exact Jvm.Own.retL X0 hx Bd.returns (hb hby d4_5) hr
  · show Q4 Z zx n0 Rst _ s₁.heap _
    rw [e0]
    exact ⟨(by rfl), N0, R0⟩
theorem d5_0 : decode prog_95_method_4_code 0 = .ok (.lload_n 0, 1) := by decide +kernel
theorem d5_1 : decode prog_95_method_4_code 1 = .ok (.bipush 32, 2) := by decide +kernel
theorem d5_3 : decode prog_95_method_4_code 3 = .ok (.lushr, 1) := by decide +kernel
theorem d5_4 : decode prog_95_method_4_code 4 = .ok (.lreturn, 1) := by decide +kernel
theorem ef_5 (m : MethodId) (x0 : Int64) : entryFrame m #[(.long x0)] 2 = mkF m 0 #[.val (.long x0), .second] [] := by first | (simp [entryFrame, mkF, argsToLocals, Value.category]; done) | rfl
def F5 (zx : Int64) : Int64 :=
  (lushr zx (32 : Int32))
def Q5 (Z : State) (zx : Int64) (n0 : Nat) (Rst : RL) (v : Option Value) (h : Heap) (L : List Loc) : Prop := v = some (.long (F5 zx)) ∧ Fr n0 L ∧ Rep Z n0 h (Rst)
set_option maxRecDepth 65536 in
set_option maxHeartbeats 40000000 in
theorem rm5 (l : Launch) (Z : State) (a0 : Array Value) (hw : ∀ d ∈ tables_1, d.before a0 Z = true) (ws : List Jvm.Cond) (zx : Int64) (h0 : Heap) (n0 : Nat) (Rst : RL) (R0 : Rep Z n0 h0 (Rst)) :
    MetFree l (⟨"com/example/regent/regent/tree/Zxid", "epoch", "(J)J"⟩ : MethodName) (head1 (Jvm.Cond.code (⟨"com/example/regent/regent/tree/Zxid", "epoch", "(J)J"⟩ : MethodName) prog_95_method_4_code 2 (some .long) :: ws) ({ frames := 0, cells := 0, slots := 0, locals := 0 } : Room)) (fun a U => a = #[(.long zx)] ∧ Z.Warmed39 U.vm ∧ U.heap = h0) (fun _ _ _ _ _ => True) (fun _ U o U' => ∃ v L, o = .returned v ∧ Q5 Z zx n0 Rst v U'.heap L ∧ FrameEnd U o U' L ({ frames := 0, cells := 0, slots := 0, locals := 0 } : Room).cells ({ frames := 0, cells := 0, slots := 0, locals := 0 } : Room).slots) := by
  refine MetFree.of_bodySF (plainFor_of_name pn_com_example_regent_regent_tree_Zxid) hisR ?_
  intro p e s m args below meth c s₁ Bd hml0 hP hK
  obtain ⟨rfl, hZ, hh⟩ := hP
  have hx := Bd.exec
  have hby := Bd.bytes
  have hml : c.maxLocals = 2 := hml0
  have hown : s.vm.findClass "com/example/regent/regent/tree/Zxid" = some m.cls := findClass_of_methodNamed Bd.named
  have hnm := (name_of_methodNamed Bd.named Bd.method).1
  have X0 : Stand p l e ({ frames := 0, cells := 0, slots := 0, locals := 0 } : Room) s m #[(.long zx)] below meth c s₁ [] 0 0 := Stand.of_body Bd
  have e0 : s₁.heap = h0 := by rw [← hh, Bd.state]; rfl
  have N0 := Fr.nil n0
  have pre0 : ∀ t, Steps p.tables e below (s₁.setTop (mkF m 0 #[.val (.long zx), .second] [])) t → Steps p.tables e below (s₁.setTop (entryFrame m #[(.long zx)] 2)) t := fun t k => castTop (ef_5 m zx) k
  have pre1 : ∀ t, Steps p.tables e below (s₁.setTop (mkF m 4 #[.val (.long zx), .second] [(.long (lushr zx (32 : Int32)))])) t → Steps p.tables e below (s₁.setTop (entryFrame m #[(.long zx)] 2)) t := fun t k => pre0 t (by
    show Steps p.tables e below (s₁.setTop (mkF m 0 #[.val (.long zx), .second] [])) _
    refine XS.lloadN X0.here hx rfl (hb hby d5_0) rfl ?_
    refine XS.bipush X0.here hx rfl (hb hby d5_1) ?_
    refine XS.lushr X0.here hx rfl (hb hby d5_3) rfl ?_
    exact k)
  obtain ⟨fs, hr, hrun, hended, hW, hsame⟩ := X0.leave (v := some (.long (lushr zx (32 : Int32)))) (fun h => by rw [Bd.returns] at h; cases h)
  refine ⟨_, _, pre1 _ ?_, hrun, hended, _, _, rfl, ?_, ⟨_, rfl⟩, hW, hsame.mono (by decide) (by decide)⟩
  · show Steps p.tables e below (s₁.setTop (mkF m 4 #[.val (.long zx), .second] [(.long (lushr zx (32 : Int32)))])) _
    exact Jvm.Own.retL X0 hx Bd.returns (hb hby d5_4) hr
  · show Q5 Z zx n0 Rst _ s₁.heap _
    rw [e0]
    exact ⟨(by rfl), N0, R0⟩
theorem d1_0 : decode prog_92_method_1_code 0 = .ok (.aload_n 0, 1) := by decide +kernel
theorem d1_1 : decode prog_92_method_1_code 1 = .ok (.invokespecial 1, 3) := by decide +kernel
theorem pd__28_29V : parseMethodDescriptor "()V" = some ⟨[], none⟩ := by decide +kernel
theorem d1_4 : decode prog_92_method_1_code 4 = .ok (.lload_n 1, 1) := by decide +kernel
theorem d1_5 : decode prog_92_method_1_code 5 = .ok (.invokestatic 7, 3) := by decide +kernel
theorem pd__28J_29J : parseMethodDescriptor "(J)J" = some ⟨[.long], some .long⟩ := by decide +kernel
theorem d1_8 : decode prog_92_method_1_code 8 = .ok (.lconst 1, 1) := by decide +kernel
theorem d1_9 : decode prog_92_method_1_code 9 = .ok (.lcmp, 1) := by decide +kernel
theorem d1_10 : decode prog_92_method_1_code 10 = .ok (.ifCond .ne 16, 3) := by decide +kernel
theorem d1_13 : decode prog_92_method_1_code 13 = .ok (.lload 5, 2) := by decide +kernel
theorem d1_15 : decode prog_92_method_1_code 15 = .ok (.invokestatic 13, 3) := by decide +kernel
theorem d1_18 : decode prog_92_method_1_code 18 = .ok (.lload_n 1, 1) := by decide +kernel
theorem d1_19 : decode prog_92_method_1_code 19 = .ok (.invokestatic 13, 3) := by decide +kernel
theorem d1_22 : decode prog_92_method_1_code 22 = .ok (.lcmp, 1) := by decide +kernel
theorem d1_23 : decode prog_92_method_1_code 23 = .ok (.ifCond .lt 19, 3) := by decide +kernel
theorem d1_42 : decode prog_92_method_1_code 42 = .ok (.aload_n 0, 1) := by decide +kernel
theorem d1_43 : decode prog_92_method_1_code 43 = .ok (.lload_n 1, 1) := by decide +kernel
theorem d1_44 : decode prog_92_method_1_code 44 = .ok (.putfield 25, 3) := by decide +kernel
theorem d1_47 : decode prog_92_method_1_code 47 = .ok (.aload_n 0, 1) := by decide +kernel
theorem d1_48 : decode prog_92_method_1_code 48 = .ok (.lload_n 3, 1) := by decide +kernel
theorem d1_49 : decode prog_92_method_1_code 49 = .ok (.putfield 31, 3) := by decide +kernel
theorem d1_52 : decode prog_92_method_1_code 52 = .ok (.aload_n 0, 1) := by decide +kernel
theorem d1_53 : decode prog_92_method_1_code 53 = .ok (.lload 5, 2) := by decide +kernel
theorem d1_55 : decode prog_92_method_1_code 55 = .ok (.putfield 34, 3) := by decide +kernel
theorem d1_58 : decode prog_92_method_1_code 58 = .ok (.return_, 1) := by decide +kernel
theorem pn_com_example_regent_regent_tree_Transaction_NewEpoch : plainName "com/example/regent/regent/tree/Transaction$NewEpoch" = true := by first | (simp [plainName, overriddenIn]; done) | decide +kernel
theorem ef_1 (m : MethodId) (x0 : Addr) (x1 : Int64) (x2 : Int64) (x3 : Int64) : entryFrame m #[(.ref x0), (.long x1), (.long x2), (.long x3)] 7 = mkF m 0 #[.val (.ref x0), .val (.long x1), .second, .val (.long x2), .second, .val (.long x3), .second] [] := by first | (simp [entryFrame, mkF, argsToLocals, Value.category]; done) | rfl
def Q1 (Z : State) (ax : Addr) (zx : Int64) (tx : Int64) (px : Int64) (u1 : Value) (u2 : Value) (u3 : Value) (n0 : Nat) (Rst : RL) (v : Option Value) (h : Heap) (L : List Loc) : Prop := v = none ∧ Fr n0 L ∧ Rep Z n0 h ((ax, Obj "com/example/regent/regent/tree/Transaction$NewEpoch" [("zxid", "J", (.long zx)), ("time", "J", (.long tx)), ("previous", "J", (.long px))]) :: Rst)
set_option maxRecDepth 65536 in
set_option maxHeartbeats 40000000 in
theorem rm1 (l : Launch) (Z : State) (a0 : Array Value) (hw : ∀ d ∈ tables_1, d.before a0 Z = true) (ws : List Jvm.Cond) (ax : Addr) (zx : Int64) (tx : Int64) (px : Int64) (u1 : Value) (u2 : Value) (u3 : Value) (h0 : Heap) (n0 : Nat) (Rst : RL) (R0 : Rep Z n0 h0 ((ax, Obj "com/example/regent/regent/tree/Transaction$NewEpoch" [("zxid", "J", u1), ("time", "J", u2), ("previous", "J", u3)]) :: Rst)) (hg1 : F4 zx = (1 : Int64)) (hg2 : F5 px < F5 zx) :
    MetFree l (⟨"com/example/regent/regent/tree/Transaction$NewEpoch", "<init>", "(JJJ)V"⟩ : MethodName) (head1 (Jvm.Cond.code (⟨"com/example/regent/regent/tree/Transaction$NewEpoch", "<init>", "(JJJ)V"⟩ : MethodName) prog_92_method_1_code 7 none :: ws) ({ frames := 2, cells := 0, slots := 0, locals := 24 } : Room)) (fun a U => a = #[(.ref ax), (.long zx), (.long tx), (.long px)] ∧ Z.Warmed39 U.vm ∧ U.heap = h0) (fun _ _ _ _ _ => True) (fun _ U o U' => ∃ v L, o = .returned v ∧ Q1 Z ax zx tx px u1 u2 u3 n0 Rst v U'.heap L ∧ FrameEnd U o U' L ({ frames := 2, cells := 0, slots := 0, locals := 24 } : Room).cells ({ frames := 2, cells := 0, slots := 0, locals := 24 } : Room).slots) := by
  refine MetFree.of_bodySF (plainFor_of_name pn_com_example_regent_regent_tree_Transaction_NewEpoch) hisR ?_
  intro p e s m args below meth c s₁ Bd hml0 hP hK
  obtain ⟨rfl, hZ, hh⟩ := hP
  have hx := Bd.exec
  have hby := Bd.bytes
  have hml : c.maxLocals = 7 := hml0
  have hown : s.vm.findClass "com/example/regent/regent/tree/Transaction$NewEpoch" = some m.cls := findClass_of_methodNamed Bd.named
  have hnm := (name_of_methodNamed Bd.named Bd.method).1
  have X0 : Stand p l e ({ frames := 2, cells := 0, slots := 0, locals := 24 } : Room) s m #[(.ref ax), (.long zx), (.long tx), (.long px)] below meth c s₁ [] 0 0 := Stand.of_body Bd
  have e0 : s₁.heap = h0 := by rw [← hh, Bd.state]; rfl
  have N0 := Fr.nil n0
  have pre0 : ∀ t, Steps p.tables e below (s₁.setTop (mkF m 0 #[.val (.ref ax), .val (.long zx), .second, .val (.long tx), .second, .val (.long px), .second] [])) t → Steps p.tables e below (s₁.setTop (entryFrame m #[(.ref ax), (.long zx), (.long tx), (.long px)] 7)) t := fun t k => castTop (ef_1 m ax zx tx px) k
  have pre1 : ∀ t, Steps p.tables e below (s₁.setTop (mkF m 1 #[.val (.ref ax), .val (.long zx), .second, .val (.long tx), .second, .val (.long px), .second] [(.ref ax)])) t → Steps p.tables e below (s₁.setTop (entryFrame m #[(.ref ax), (.long zx), (.long tx), (.long px)] 7)) t := fun t k => pre0 t (by
    show Steps p.tables e below (s₁.setTop (mkF m 0 #[.val (.ref ax), .val (.long zx), .second, .val (.long tx), .second, .val (.long px), .second] [])) _
    refine XS.aloadN X0.here hx rfl (hb hby d1_0) rfl rfl ?_
    exact k)
  obtain ⟨_, _, ⟨T2, L2, k2, n2⟩, -, X2, ⟨Lc2, hQ2, l2, y2, z2⟩, st2⟩ := X0.specialBack hx (y := (⟨"java/lang/Record", "<init>", "()V"⟩ : MethodName)) rfl hown (mvT hZ (hw _ (List.mem_of_getElem? (i := 8) rfl))) (mvT hZ (hw _ (List.mem_of_getElem? (i := 9) rfl))) (mvT hZ (hw _ (List.mem_of_getElem? (i := 12) rfl))) (by decide) (backOf (W := 0) (rm2 l Z a0 hw [] ax  h0 n0 _ R0 ) hZ (hw _ (List.mem_of_getElem? (i := 12) rfl)) (hw _ (List.mem_of_getElem? (i := 11) rfl)) (by decide) (by decide)) (g := (mkF m 1 #[.val (.ref ax), .val (.long zx), .second, .val (.long tx), .second, .val (.long px), .second] [(.ref ax)])) rfl (by rw [hml]; rfl) (Steps.refl _) (a := ax) (argsL := []) (rest := []) (lenOf pd__28_29V rfl) rfl (by show 2 * 0 + _ ≤ _; exact Nat.le_of_eq rfl) (hb hby d1_1) (fun _ _ => ⟨rfl, e0, (by decide : 0 + 0 ≤ _), (by decide : 0 + 0 ≤ _)⟩)
  dsimp only [Pt.U, Pt.locs, Pt.cells, Pt.slots] at X2 l2 y2 z2 st2 hQ2
  subst l2 y2 z2
  obtain ⟨rfl, N2q, R2⟩ := hQ2
  have N2 := Fr.app N0 N2q
  replace R2 : Rep Z n0 T2.heap ((ax, Obj "com/example/regent/regent/tree/Transaction$NewEpoch" [("zxid", "J", u1), ("time", "J", u2), ("previous", "J", u3)]) :: Rst) := R2
  have pre3 : ∀ t, Steps p.tables e below (T2.setTop (mkF m 4 #[.val (.ref ax), .val (.long zx), .second, .val (.long tx), .second, .val (.long px), .second] [])) t → Steps p.tables e below (s₁.setTop (entryFrame m #[(.ref ax), (.long zx), (.long tx), (.long px)] 7)) t := fun t k => pre1 t (st2.trans k)
  have pre4 : ∀ t, Steps p.tables e below (T2.setTop (mkF m 5 #[.val (.ref ax), .val (.long zx), .second, .val (.long tx), .second, .val (.long px), .second] [(.long zx)])) t → Steps p.tables e below (s₁.setTop (entryFrame m #[(.ref ax), (.long zx), (.long tx), (.long px)] 7)) t := fun t k => pre3 t (by
    show Steps p.tables e below (T2.setTop (mkF m 4 #[.val (.ref ax), .val (.long zx), .second, .val (.long tx), .second, .val (.long px), .second] [])) _
    refine XS.lloadN X2.here hx rfl (hb hby d1_4) rfl ?_
    exact k)
  obtain ⟨_, _, ⟨T5, L5, k5, n5⟩, -, X5, ⟨Lc5, hQ5, l5, y5, z5⟩, st5⟩ := Jvm.LawKit.callS X2 hx (y := (⟨"com/example/regent/regent/tree/Zxid", "counter", "(J)J"⟩ : MethodName)) hown (mvT hZ (hw _ (List.mem_of_getElem? (i := 16) rfl))) (mvT hZ (hw _ (List.mem_of_getElem? (i := 17) rfl))) (mvT hZ (hw _ (List.mem_of_getElem? (i := 18) rfl))) (mvT hZ (hw _ (List.mem_of_getElem? (i := 19) rfl))) (by decide) (backOf (W := 0) (rm4 l Z a0 hw [] zx  T2.heap n0 _ R2 ) hZ (hw _ (List.mem_of_getElem? (i := 19) rfl)) (hw _ (List.mem_of_getElem? (i := 18) rfl)) (by decide) (by decide)) (g := (mkF m 5 #[.val (.ref ax), .val (.long zx), .second, .val (.long tx), .second, .val (.long px), .second] [(.long zx)])) rfl (by rw [hml]; rfl) (argsL := [(.long zx)]) (rest := []) (lenOf pd__28J_29J rfl) rfl (by show 2 * 0 + _ ≤ _; exact Nat.le_of_eq rfl) (hb hby d1_5) (fun _ _ => ⟨rfl, rfl, (by decide : 0 + 0 ≤ _), (by decide : 0 + 0 ≤ _)⟩)
  dsimp only [Pt.U, Pt.locs, Pt.cells, Pt.slots] at X5 l5 y5 z5 st5 hQ5
  subst l5 y5 z5
  obtain ⟨rfl, N5q, R5⟩ := hQ5
  have N5 := Fr.app N2 N5q
  replace R5 : Rep Z n0 T5.heap ((ax, Obj "com/example/regent/regent/tree/Transaction$NewEpoch" [("zxid", "J", u1), ("time", "J", u2), ("previous", "J", u3)]) :: Rst) := R5
  have pre6 : ∀ t, Steps p.tables e below (T5.setTop (mkF m 8 #[.val (.ref ax), .val (.long zx), .second, .val (.long tx), .second, .val (.long px), .second] [(.long (F4 zx))])) t → Steps p.tables e below (s₁.setTop (entryFrame m #[(.ref ax), (.long zx), (.long tx), (.long px)] 7)) t := fun t k => pre4 t (st5 t k)
  have pre8 : ∀ t, Steps p.tables e below (T5.setTop (mkF m 10 #[.val (.ref ax), .val (.long zx), .second, .val (.long tx), .second, .val (.long px), .second] [(.int (XT.cmpL (F4 zx) (1 : Int64)))])) t → Steps p.tables e below (s₁.setTop (entryFrame m #[(.ref ax), (.long zx), (.long tx), (.long px)] 7)) t := fun t k => pre6 t (by
    show Steps p.tables e below (T5.setTop (mkF m 8 #[.val (.ref ax), .val (.long zx), .second, .val (.long tx), .second, .val (.long px), .second] [(.long (F4 zx))])) _
    refine XS.lconst X5.here hx rfl (hb hby d1_8) ?_
    refine XS.lcmp X5.here hx rfl (hb hby d1_9) rfl ?_
    exact k)
  have hb7 : (F4 zx) = (1 : Int64) := hg1
  have pre9 : ∀ t, Steps p.tables e below (T5.setTop (mkF m 15 #[.val (.ref ax), .val (.long zx), .second, .val (.long tx), .second, .val (.long px), .second] [(.long px)])) t → Steps p.tables e below (s₁.setTop (entryFrame m #[(.ref ax), (.long zx), (.long tx), (.long px)] 7)) t := fun t k => pre8 t (by
    show Steps p.tables e below (T5.setTop (mkF m 10 #[.val (.ref ax), .val (.long zx), .second, .val (.long tx), .second, .val (.long px), .second] [(.int (XT.cmpL (F4 zx) (1 : Int64)))])) _
    refine XS.ifNo X5.here hx rfl (hb hby d1_10) rfl (XT.ll_ne_f hb7) ?_
    refine XS.lload X5.here hx rfl (hb hby d1_13) rfl ?_
    exact k)
  obtain ⟨_, _, ⟨T10, L10, k10, n10⟩, -, X10, ⟨Lc10, hQ10, l10, y10, z10⟩, st10⟩ := Jvm.LawKit.callS X5 hx (y := (⟨"com/example/regent/regent/tree/Zxid", "epoch", "(J)J"⟩ : MethodName)) hown (mvT hZ (hw _ (List.mem_of_getElem? (i := 21) rfl))) (mvT hZ (hw _ (List.mem_of_getElem? (i := 22) rfl))) (mvT hZ (hw _ (List.mem_of_getElem? (i := 18) rfl))) (mvT hZ (hw _ (List.mem_of_getElem? (i := 23) rfl))) (by decide) (backOf (W := 0) (rm5 l Z a0 hw [] px  T5.heap n0 _ R5 ) hZ (hw _ (List.mem_of_getElem? (i := 23) rfl)) (hw _ (List.mem_of_getElem? (i := 18) rfl)) (by decide) (by decide)) (g := (mkF m 15 #[.val (.ref ax), .val (.long zx), .second, .val (.long tx), .second, .val (.long px), .second] [(.long px)])) rfl (by rw [hml]; rfl) (argsL := [(.long px)]) (rest := []) (lenOf pd__28J_29J rfl) rfl (by show 2 * 0 + _ ≤ _; exact Nat.le_of_eq rfl) (hb hby d1_15) (fun _ _ => ⟨rfl, rfl, (by decide : 0 + 0 ≤ _), (by decide : 0 + 0 ≤ _)⟩)
  dsimp only [Pt.U, Pt.locs, Pt.cells, Pt.slots] at X10 l10 y10 z10 st10 hQ10
  subst l10 y10 z10
  obtain ⟨rfl, N10q, R10⟩ := hQ10
  have N10 := Fr.app N5 N10q
  replace R10 : Rep Z n0 T10.heap ((ax, Obj "com/example/regent/regent/tree/Transaction$NewEpoch" [("zxid", "J", u1), ("time", "J", u2), ("previous", "J", u3)]) :: Rst) := R10
  have pre11 : ∀ t, Steps p.tables e below (T10.setTop (mkF m 18 #[.val (.ref ax), .val (.long zx), .second, .val (.long tx), .second, .val (.long px), .second] [(.long (F5 px))])) t → Steps p.tables e below (s₁.setTop (entryFrame m #[(.ref ax), (.long zx), (.long tx), (.long px)] 7)) t := fun t k => pre9 t (st10 t k)
  have pre12 : ∀ t, Steps p.tables e below (T10.setTop (mkF m 19 #[.val (.ref ax), .val (.long zx), .second, .val (.long tx), .second, .val (.long px), .second] [(.long zx), (.long (F5 px))])) t → Steps p.tables e below (s₁.setTop (entryFrame m #[(.ref ax), (.long zx), (.long tx), (.long px)] 7)) t := fun t k => pre11 t (by
    show Steps p.tables e below (T10.setTop (mkF m 18 #[.val (.ref ax), .val (.long zx), .second, .val (.long tx), .second, .val (.long px), .second] [(.long (F5 px))])) _
    refine XS.lloadN X10.here hx rfl (hb hby d1_18) rfl ?_
    exact k)
  obtain ⟨_, _, ⟨T13, L13, k13, n13⟩, -, X13, ⟨Lc13, hQ13, l13, y13, z13⟩, st13⟩ := Jvm.LawKit.callS X10 hx (y := (⟨"com/example/regent/regent/tree/Zxid", "epoch", "(J)J"⟩ : MethodName)) hown (mvT hZ (hw _ (List.mem_of_getElem? (i := 21) rfl))) (mvT hZ (hw _ (List.mem_of_getElem? (i := 22) rfl))) (mvT hZ (hw _ (List.mem_of_getElem? (i := 18) rfl))) (mvT hZ (hw _ (List.mem_of_getElem? (i := 23) rfl))) (by decide) (backOf (W := 2) (rm5 l Z a0 hw [] zx  T10.heap n0 _ R10 ) hZ (hw _ (List.mem_of_getElem? (i := 23) rfl)) (hw _ (List.mem_of_getElem? (i := 18) rfl)) (by decide) (by decide)) (g := (mkF m 19 #[.val (.ref ax), .val (.long zx), .second, .val (.long tx), .second, .val (.long px), .second] [(.long zx), (.long (F5 px))])) rfl (by rw [hml]; rfl) (argsL := [(.long zx)]) (rest := [(.long (F5 px))]) (lenOf pd__28J_29J rfl) rfl (by show 2 * 0 + _ ≤ _; exact Nat.le_of_eq rfl) (hb hby d1_19) (fun _ _ => ⟨rfl, rfl, (by decide : 0 + 0 ≤ _), (by decide : 0 + 0 ≤ _)⟩)
  dsimp only [Pt.U, Pt.locs, Pt.cells, Pt.slots] at X13 l13 y13 z13 st13 hQ13
  subst l13 y13 z13
  obtain ⟨rfl, N13q, R13⟩ := hQ13
  have N13 := Fr.app N10 N13q
  replace R13 : Rep Z n0 T13.heap ((ax, Obj "com/example/regent/regent/tree/Transaction$NewEpoch" [("zxid", "J", u1), ("time", "J", u2), ("previous", "J", u3)]) :: Rst) := R13
  have pre14 : ∀ t, Steps p.tables e below (T13.setTop (mkF m 22 #[.val (.ref ax), .val (.long zx), .second, .val (.long tx), .second, .val (.long px), .second] [(.long (F5 zx)), (.long (F5 px))])) t → Steps p.tables e below (s₁.setTop (entryFrame m #[(.ref ax), (.long zx), (.long tx), (.long px)] 7)) t := fun t k => pre12 t (st13 t k)
  have pre16 : ∀ t, Steps p.tables e below (T13.setTop (mkF m 23 #[.val (.ref ax), .val (.long zx), .second, .val (.long tx), .second, .val (.long px), .second] [(.int (XT.cmpL (F5 px) (F5 zx)))])) t → Steps p.tables e below (s₁.setTop (entryFrame m #[(.ref ax), (.long zx), (.long tx), (.long px)] 7)) t := fun t k => pre14 t (by
    show Steps p.tables e below (T13.setTop (mkF m 22 #[.val (.ref ax), .val (.long zx), .second, .val (.long tx), .second, .val (.long px), .second] [(.long (F5 zx)), (.long (F5 px))])) _
    refine XS.lcmp X13.here hx rfl (hb hby d1_22) rfl ?_
    exact k)
  have hb15 : (F5 px) < (F5 zx) := hg2
  have pre17 : ∀ t, Steps p.tables e below (T13.setTop (mkF m 44 #[.val (.ref ax), .val (.long zx), .second, .val (.long tx), .second, .val (.long px), .second] [(.long zx), (.ref ax)])) t → Steps p.tables e below (s₁.setTop (entryFrame m #[(.ref ax), (.long zx), (.long tx), (.long px)] 7)) t := fun t k => pre16 t (by
    show Steps p.tables e below (T13.setTop (mkF m 23 #[.val (.ref ax), .val (.long zx), .second, .val (.long tx), .second, .val (.long px), .second] [(.int (XT.cmpL (F5 px) (F5 zx)))])) _
    refine XS.ifYes X13.here hx rfl (pc0 := 23) (pc' := 42) rfl (hb hby d1_23) rfl (XT.ll_lt_t hb15) (by decide) (by decide) ?_
    refine XS.aloadN X13.here hx rfl (hb hby d1_42) rfl rfl ?_
    refine XS.lloadN X13.here hx rfl (hb hby d1_43) rfl ?_
    exact k)
  obtain ⟨T18, h18, ls18, X18, e18, N18, R18, st18⟩ := gPut X13 hx hZ hown (host := "") (Or.inl (hw _ (List.mem_of_getElem? (i := 24) rfl))) rfl N13 R13 0 0 rfl rfl (Or.inr ⟨(hw _ (List.mem_of_getElem? (i := 25) rfl)), rfl, hnm⟩) (hw _ (List.mem_of_getElem? (i := 3) rfl)) (ty := .long) (by decide) rfl rfl (g := (mkF m 44 #[.val (.ref ax), .val (.long zx), .second, .val (.long tx), .second, .val (.long px), .second] [(.long zx), (.ref ax)])) rfl rfl (hb hby d1_44)
  replace R18 : Rep Z n0 h18 ((ax, Obj "com/example/regent/regent/tree/Transaction$NewEpoch" [("zxid", "J", (.long zx)), ("time", "J", u2), ("previous", "J", u3)]) :: Rst) := R18
  have pre19 : ∀ t, Steps p.tables e below (T18.setTop (mkF m 47 #[.val (.ref ax), .val (.long zx), .second, .val (.long tx), .second, .val (.long px), .second] [])) t → Steps p.tables e below (s₁.setTop (entryFrame m #[(.ref ax), (.long zx), (.long tx), (.long px)] 7)) t := fun t k => pre17 t (st18 t k)
  have pre20 : ∀ t, Steps p.tables e below (T18.setTop (mkF m 49 #[.val (.ref ax), .val (.long zx), .second, .val (.long tx), .second, .val (.long px), .second] [(.long tx), (.ref ax)])) t → Steps p.tables e below (s₁.setTop (entryFrame m #[(.ref ax), (.long zx), (.long tx), (.long px)] 7)) t := fun t k => pre19 t (by
    show Steps p.tables e below (T18.setTop (mkF m 47 #[.val (.ref ax), .val (.long zx), .second, .val (.long tx), .second, .val (.long px), .second] [])) _
    refine XS.aloadN X18.here hx rfl (hb hby d1_47) rfl rfl ?_
    refine XS.lloadN X18.here hx rfl (hb hby d1_48) rfl ?_
    exact k)
  obtain ⟨T21, h21, ls21, X21, e21, N21, R21, st21⟩ := gPut X18 hx hZ hown (host := "") (Or.inl (hw _ (List.mem_of_getElem? (i := 26) rfl))) e18 N18 R18 0 1 rfl rfl (Or.inr ⟨(hw _ (List.mem_of_getElem? (i := 27) rfl)), rfl, hnm⟩) (hw _ (List.mem_of_getElem? (i := 3) rfl)) (ty := .long) (by decide) rfl rfl (g := (mkF m 49 #[.val (.ref ax), .val (.long zx), .second, .val (.long tx), .second, .val (.long px), .second] [(.long tx), (.ref ax)])) rfl rfl (hb hby d1_49)
  replace R21 : Rep Z n0 h21 ((ax, Obj "com/example/regent/regent/tree/Transaction$NewEpoch" [("zxid", "J", (.long zx)), ("time", "J", (.long tx)), ("previous", "J", u3)]) :: Rst) := R21
  have pre22 : ∀ t, Steps p.tables e below (T21.setTop (mkF m 52 #[.val (.ref ax), .val (.long zx), .second, .val (.long tx), .second, .val (.long px), .second] [])) t → Steps p.tables e below (s₁.setTop (entryFrame m #[(.ref ax), (.long zx), (.long tx), (.long px)] 7)) t := fun t k => pre20 t (st21 t k)
  have pre23 : ∀ t, Steps p.tables e below (T21.setTop (mkF m 55 #[.val (.ref ax), .val (.long zx), .second, .val (.long tx), .second, .val (.long px), .second] [(.long px), (.ref ax)])) t → Steps p.tables e below (s₁.setTop (entryFrame m #[(.ref ax), (.long zx), (.long tx), (.long px)] 7)) t := fun t k => pre22 t (by
    show Steps p.tables e below (T21.setTop (mkF m 52 #[.val (.ref ax), .val (.long zx), .second, .val (.long tx), .second, .val (.long px), .second] [])) _
    refine XS.aloadN X21.here hx rfl (hb hby d1_52) rfl rfl ?_
    refine XS.lload X21.here hx rfl (hb hby d1_53) rfl ?_
    exact k)
  obtain ⟨T24, h24, ls24, X24, e24, N24, R24, st24⟩ := gPut X21 hx hZ hown (host := "") (Or.inl (hw _ (List.mem_of_getElem? (i := 28) rfl))) e21 N21 R21 0 2 rfl rfl (Or.inr ⟨(hw _ (List.mem_of_getElem? (i := 29) rfl)), rfl, hnm⟩) (hw _ (List.mem_of_getElem? (i := 3) rfl)) (ty := .long) (by decide) rfl rfl (g := (mkF m 55 #[.val (.ref ax), .val (.long zx), .second, .val (.long tx), .second, .val (.long px), .second] [(.long px), (.ref ax)])) rfl rfl (hb hby d1_55)
  replace R24 : Rep Z n0 h24 ((ax, Obj "com/example/regent/regent/tree/Transaction$NewEpoch" [("zxid", "J", (.long zx)), ("time", "J", (.long tx)), ("previous", "J", (.long px))]) :: Rst) := R24
  have pre25 : ∀ t, Steps p.tables e below (T24.setTop (mkF m 58 #[.val (.ref ax), .val (.long zx), .second, .val (.long tx), .second, .val (.long px), .second] [])) t → Steps p.tables e below (s₁.setTop (entryFrame m #[(.ref ax), (.long zx), (.long tx), (.long px)] 7)) t := fun t k => pre23 t (st24 t k)
  obtain ⟨fs, hr, hrun, hended, hW, hsame⟩ := X24.leave (v := none) (fun _ => rfl)
  refine ⟨_, _, pre25 _ ?_, hrun, hended, _, _, rfl, ?_, ⟨_, rfl⟩, hW, hsame.mono (by decide) (by decide)⟩
  · show Steps p.tables e below (T24.setTop (mkF m 58 #[.val (.ref ax), .val (.long zx), .second, .val (.long tx), .second, .val (.long px), .second] [])) _
    exact X24.returnOut hx Bd.returns (hb hby d1_58) hr
  · show Q1 Z ax zx tx px u1 u2 u3 n0 Rst _ T24.heap _
    rw [e24]
    exact ⟨rfl, N24, R24⟩
theorem d6_0 : decode prog_92_method_3_code 0 = .ok (.lload_n 1, 1) := by decide +kernel
theorem d6_1 : decode prog_92_method_3_code 1 = .ok (.aload_n 0, 1) := by decide +kernel
theorem d6_2 : decode prog_92_method_3_code 2 = .ok (.getfield 34, 3) := by decide +kernel
theorem d6_5 : decode prog_92_method_3_code 5 = .ok (.lcmp, 1) := by decide +kernel
theorem d6_6 : decode prog_92_method_3_code 6 = .ok (.ifCond .ne 7, 3) := by decide +kernel
theorem d6_9 : decode prog_92_method_3_code 9 = .ok (.iconst 1, 1) := by decide +kernel
theorem d6_10 : decode prog_92_method_3_code 10 = .ok (.goto 4, 3) := by decide +kernel
theorem d6_13 : decode prog_92_method_3_code 13 = .ok (.iconst 0, 1) := by decide +kernel
theorem d6_14 : decode prog_92_method_3_code 14 = .ok (.ireturn, 1) := by decide +kernel
theorem ef_6 (m : MethodId) (x0 : Addr) (x1 : Int64) : entryFrame m #[(.ref x0), (.long x1)] 3 = mkF m 0 #[.val (.ref x0), .val (.long x1), .second] [] := by first | (simp [entryFrame, mkF, argsToLocals, Value.category]; done) | rfl
def F6 (lx : Int64) (pv : Int64) : Int32 :=
  (bz (lx = pv))
def Q6 (Z : State) (ax : Addr) (lx : Int64) (zv : Int64) (tv : Int64) (pv : Int64) (n0 : Nat) (Rst : RL) (v : Option Value) (h : Heap) (L : List Loc) : Prop := v = some (.int (F6 lx pv)) ∧ Fr n0 L ∧ Rep Z n0 h ((ax, Obj "com/example/regent/regent/tree/Transaction$NewEpoch" [("zxid", "J", (.long zv)), ("time", "J", (.long tv)), ("previous", "J", (.long pv))]) :: Rst)
set_option maxRecDepth 65536 in
set_option maxHeartbeats 40000000 in
theorem rm6 (l : Launch) (Z : State) (a0 : Array Value) (hw : ∀ d ∈ tables_1, d.before a0 Z = true) (ws : List Jvm.Cond) (ax : Addr) (lx : Int64) (zv : Int64) (tv : Int64) (pv : Int64) (h0 : Heap) (n0 : Nat) (Rst : RL) (R0 : Rep Z n0 h0 ((ax, Obj "com/example/regent/regent/tree/Transaction$NewEpoch" [("zxid", "J", (.long zv)), ("time", "J", (.long tv)), ("previous", "J", (.long pv))]) :: Rst)) :
    MetFree l (⟨"com/example/regent/regent/tree/Transaction$NewEpoch", "follows", "(J)Z"⟩ : MethodName) (head1 (Jvm.Cond.code (⟨"com/example/regent/regent/tree/Transaction$NewEpoch", "follows", "(J)Z"⟩ : MethodName) prog_92_method_3_code 3 (some .boolean) :: ws) ({ frames := 0, cells := 0, slots := 0, locals := 0 } : Room)) (fun a U => a = #[(.ref ax), (.long lx)] ∧ Z.Warmed39 U.vm ∧ U.heap = h0) (fun _ _ _ _ _ => True) (fun _ U o U' => ∃ v L, o = .returned v ∧ Q6 Z ax lx zv tv pv n0 Rst v U'.heap L ∧ FrameEnd U o U' L ({ frames := 0, cells := 0, slots := 0, locals := 0 } : Room).cells ({ frames := 0, cells := 0, slots := 0, locals := 0 } : Room).slots) := by
  refine MetFree.of_bodySF (plainFor_of_name pn_com_example_regent_regent_tree_Transaction_NewEpoch) hisR ?_
  intro p e s m args below meth c s₁ Bd hml0 hP hK
  obtain ⟨rfl, hZ, hh⟩ := hP
  have hx := Bd.exec
  have hby := Bd.bytes
  have hml : c.maxLocals = 3 := hml0
  have hown : s.vm.findClass "com/example/regent/regent/tree/Transaction$NewEpoch" = some m.cls := findClass_of_methodNamed Bd.named
  have hnm := (name_of_methodNamed Bd.named Bd.method).1
  have X0 : Stand p l e ({ frames := 0, cells := 0, slots := 0, locals := 0 } : Room) s m #[(.ref ax), (.long lx)] below meth c s₁ [] 0 0 := Stand.of_body Bd
  have e0 : s₁.heap = h0 := by rw [← hh, Bd.state]; rfl
  have N0 := Fr.nil n0
  have pre0 : ∀ t, Steps p.tables e below (s₁.setTop (mkF m 0 #[.val (.ref ax), .val (.long lx), .second] [])) t → Steps p.tables e below (s₁.setTop (entryFrame m #[(.ref ax), (.long lx)] 3)) t := fun t k => castTop (ef_6 m ax lx) k
  have pre1 : ∀ t, Steps p.tables e below (s₁.setTop (mkF m 2 #[.val (.ref ax), .val (.long lx), .second] [(.ref ax), (.long lx)])) t → Steps p.tables e below (s₁.setTop (entryFrame m #[(.ref ax), (.long lx)] 3)) t := fun t k => pre0 t (by
    show Steps p.tables e below (s₁.setTop (mkF m 0 #[.val (.ref ax), .val (.long lx), .second] [])) _
    refine XS.lloadN X0.here hx rfl (hb hby d6_0) rfl ?_
    refine XS.aloadN X0.here hx rfl (hb hby d6_1) rfl rfl ?_
    exact k)
  obtain ⟨T2, X2, e2, st2⟩ := gGet X0 hx hZ hown (host := "") (Or.inl (hw _ (List.mem_of_getElem? (i := 28) rfl))) e0 R0 0 2 rfl rfl (g := (mkF m 2 #[.val (.ref ax), .val (.long lx), .second] [(.ref ax), (.long lx)])) rfl rfl (hb hby d6_2)
  have pre3 : ∀ t, Steps p.tables e below (T2.setTop (mkF m 5 #[.val (.ref ax), .val (.long lx), .second] [(.long pv), (.long lx)])) t → Steps p.tables e below (s₁.setTop (entryFrame m #[(.ref ax), (.long lx)] 3)) t := fun t k => pre1 t (st2 t k)
  have pre6 : ∀ t, Steps p.tables e below (T2.setTop (mkF m 6 #[.val (.ref ax), .val (.long lx), .second] [(.int (XT.cmpL lx pv))])) t → Steps p.tables e below (s₁.setTop (entryFrame m #[(.ref ax), (.long lx)] 3)) t := fun t k => pre3 t (by
    show Steps p.tables e below (T2.setTop (mkF m 5 #[.val (.ref ax), .val (.long lx), .second] [(.long pv), (.long lx)])) _
    refine XS.lcmp X2.here hx rfl (hb hby d6_5) rfl ?_
    exact k)
  have tl5 : ∀ t, Steps p.tables e below (T2.setTop (mkF m 14 #[.val (.ref ax), .val (.long lx), .second] [(.int (bz (lx = pv)))])) t → Steps p.tables e below (T2.setTop (mkF m 6 #[.val (.ref ax), .val (.long lx), .second] [(.int (XT.cmpL lx pv))])) t := fun t k => by
    by_cases hb4 : lx = pv
    · refine XS.ifNo X2.here hx rfl (hb hby d6_6) rfl (XT.ll_ne_f hb4) ?_
      rw [bz_one (P := (lx = pv)) (iff_true_intro hb4)] at k
      show Steps p.tables e below (T2.setTop (mkF m 9 #[.val (.ref ax), .val (.long lx), .second] [])) _
      refine XS.iconst X2.here hx rfl (hb hby d6_9) ?_
      refine XS.goto X2.here hx rfl (pc0 := 10) (pc' := 14) rfl (hb hby d6_10) (by decide) (by decide) ?_
      exact k
    · refine XS.ifYes X2.here hx rfl (pc0 := 6) (pc' := 13) rfl (hb hby d6_6) rfl (XT.ll_ne_t hb4) (by decide) (by decide) ?_
      rw [bz_zero (P := (lx = pv)) (iff_false_intro hb4)] at k
      show Steps p.tables e below (T2.setTop (mkF m 13 #[.val (.ref ax), .val (.long lx), .second] [])) _
      refine XS.iconst X2.here hx rfl (hb hby d6_13) ?_
      exact k
  have pre7 : ∀ t, Steps p.tables e below (T2.setTop (mkF m 14 #[.val (.ref ax), .val (.long lx), .second] [(.int (bz (lx = pv)))])) t → Steps p.tables e below (s₁.setTop (entryFrame m #[(.ref ax), (.long lx)] 3)) t := fun t k => pre6 t (by
    exact tl5 t k)
  obtain ⟨fs, hr, hrun, hended, hW, hsame⟩ := X2.leave (v := some (.int (nar .boolean (bz (lx = pv))))) (fun h => by rw [Bd.returns] at h; cases h)
  refine ⟨_, _, pre7 _ ?_, hrun, hended, _, _, rfl, ?_, ⟨_, rfl⟩, hW, hsame.mono (by decide) (by decide)⟩
  · show Steps p.tables e below (T2.setTop (mkF m 14 #[.val (.ref ax), .val (.long lx), .second] [(.int (bz (lx = pv)))])) _
    exact retN X2 hx (t := .boolean) Bd.returns (by simp) (hb hby d6_14) hr
  · show Q6 Z ax lx zv tv pv n0 Rst _ T2.heap _
    rw [e2]
    exact ⟨(by exact congrArg (fun z => some (Value.int z)) (by simp only [F6] <;> first | rfl | exact nar_b _ | decide)), N0, R0⟩
theorem own_sh (x : Int64) : nj (lushr x (32 : Int32)) = nj x / 4294967296 := nj_lushr x (32 : Int32) 32 rfl
/-- the epoch of the named one isn't the greatest -/
theorem own_prev {px v1 v7 v9 : Int64} (h1 : v1 = (lushr px (32 : Int32))) (h7 : v7 = (if v1 = (4294967295 : Int64) then (px &&& (9223372036854775807 : Int64)) else px)) (h9 : v9 = (lushr v7 (32 : Int32))) : nj v9 < 4294967295 ∧ nj v9 = nj v7 / 4294967296 := by
  have e9 : nj v9 = nj v7 / 4294967296 := by rw [h9]; exact own_sh v7
  refine ⟨?_, e9⟩
  by_cases q : v1 = (4294967295 : Int64)
  · rw [if_pos q] at h7
    have : nj v7 = nj px % 2 ^ 63 := by rw [h7, nj_and, show nj (9223372036854775807 : Int64) = 2 ^ 63 - 1 from rfl, mask_n]
    omega
  · rw [if_neg q] at h7
    subst h7
    have l := nj_lt v7
    have e1 : nj v1 = nj v7 / 4294967296 := by rw [h1]; exact own_sh v7
    have : nj v1 ≠ 4294967295 := fun z => q (nj_inj (z.trans rfl))
    omega
theorem own_room {v9 v11 : Int64} (h : nj v9 < 4294967295) (h11 : v11 = ((4294967295 : Int64) - v9)) : nj v11 = 4294967295 - nj v9 := by
  rw [h11, nj_sub, show nj (4294967295 : Int64) = 4294967295 from rfl]
  omega
theorem own_nz {v9 v11 : Int64} (h : nj v9 < 4294967295) (h11 : v11 = ((4294967295 : Int64) - v9)) : v11 ≠ 0 := fun z => by
  have := own_room h h11
  rw [z, show nj (0 : Int64) = 0 from rfl] at this
  omega
theorem own_e {dx v9 v11 v13 : Int64} (h : nj v9 < 4294967295) (h11 : v11 = ((4294967295 : Int64) - v9)) (h13 : v13 = ((v9 + (1 : Int64)) + ((dx &&& (9223372036854775807 : Int64)) % v11))) : nj v9 < nj v13 ∧ nj v13 < 4294967296 := by
  have r := own_room h h11
  have m : nj (dx &&& (9223372036854775807 : Int64)) = nj dx % 2 ^ 63 := by rw [nj_and, show nj (9223372036854775807 : Int64) = 2 ^ 63 - 1 from rfl, mask_n]
  have i11 : v11.toInt = (nj v11 : Int) := by rw [nj_int, if_pos (by omega)]
  have im : (dx &&& (9223372036854775807 : Int64)).toInt = (nj (dx &&& (9223372036854775807 : Int64)) : Int) := by rw [nj_int, if_pos (by omega)]
  have rm : ((dx &&& (9223372036854775807 : Int64)) % v11).toInt = ((nj (dx &&& (9223372036854775807 : Int64)) % nj v11 : Nat) : Int) := by
    rw [Int64.toInt_mod, i11, im]; rfl
  have l : nj (dx &&& (9223372036854775807 : Int64)) % nj v11 < nj v11 := Nat.mod_lt _ (by omega)
  have nr : nj ((dx &&& (9223372036854775807 : Int64)) % v11) = nj (dx &&& (9223372036854775807 : Int64)) % nj v11 := by
    rw [nj_int] at rm
    have := nj_lt ((dx &&& (9223372036854775807 : Int64)) % v11)
    split at rm <;> omega
  have n13 : nj v13 = nj v9 + 1 + nj (dx &&& (9223372036854775807 : Int64)) % nj v11 := by
    rw [h13, nj_add, nj_add, nr, show nj (1 : Int64) = 1 from rfl]
    omega
  omega
theorem own_z {v13 v15 : Int64} (h : nj v13 < 4294967296) (h15 : v15 = ((lshl v13 (32 : Int32)) ||| (1 : Int64))) : nj v15 = nj v13 * 4294967296 + 1 := by
  rw [h15, nj_or, nj_lshl v13 (32 : Int32) 32 rfl, show nj (1 : Int64) = 1 from rfl]
  have e : nj v13 * 2 ^ 32 % 18446744073709551616 = nj v13 * 2 ^ 32 := Nat.mod_eq_of_lt (by omega)
  rw [e, Nat.mul_comm, ← Nat.two_pow_add_eq_or_of_lt (i := 32) (b := 1) (by decide)]
theorem own_p1 {v15 : Int64} {k : Nat} (h : nj v15 = k * 4294967296 + 1) : F4 v15 = (1 : Int64) := by
  apply nj_inj
  rw [F4, nj_and, show nj (4294967295 : Int64) = 2 ^ 32 - 1 from rfl, mask_n, show nj (1 : Int64) = 1 from rfl]
  omega
theorem own_p2 {v7 v15 : Int64} {k : Nat} (h : nj v15 = k * 4294967296 + 1) (hk : nj v7 / 4294967296 < k) : F5 v7 < F5 v15 := by
  have l := nj_lt v15
  have l7 := nj_lt v7
  have a : nj (F5 v7) = nj v7 / 4294967296 := own_sh v7
  have b : nj (F5 v15) = nj v15 / 4294967296 := own_sh v15
  rw [lt64, nj_int, nj_int, if_pos (by omega), if_pos (by omega), a, b]
  omega
theorem own_xor (v : Int64) (s : Int32) : (F6 (v ^^^ (lshl (1 : Int64) (s &&& (63 : Int32)))) v) = (0 : Int32) := by
  rw [F6]
  apply bz_f
  intro q
  have k : nj v ^^^ nj (lshl (1 : Int64) (s &&& (63 : Int32))) = nj v := by rw [← nj_xor, q]
  have z : nj (lshl (1 : Int64) (s &&& (63 : Int32))) = 0 := by
    have := congrArg (nj v ^^^ ·) k
    simpa [← Nat.xor_assoc] using this
  rw [nj_lshl _ _ _ rfl, show nj (1 : Int64) = 1 from rfl, Nat.one_mul] at z
  have : ∀ j : Fin 64, 2 ^ j.1 % 18446744073709551616 ≠ 0 := by decide +kernel
  exact this ⟨_, Nat.mod_lt _ (by decide)⟩ z
theorem own_f {v7 v15 : Int64} {k : Nat} (h : nj v15 = k * 4294967296 + 1) (hk : nj v7 / 4294967296 < k) : (F6 (v15 - (1 : Int64)) v7) = (0 : Int32) := by
  rw [F6]
  apply bz_f
  intro q
  have l := nj_lt v15
  have e : nj (v15 - (1 : Int64)) = nj v15 - 1 := by rw [nj_sub, show nj (1 : Int64) = 1 from rfl]; omega
  rw [q] at e
  omega
theorem pd__28JJJ_29V : parseMethodDescriptor "(JJJ)V" = some ⟨[.long, .long, .long], none⟩ := by decide +kernel
theorem pd__28J_29Z : parseMethodDescriptor "(J)Z" = some ⟨[.long], some .boolean⟩ := by decide +kernel
theorem pn_com_example_regent_regent_tree_NewEpochFollowsPinLaw : plainName "com/example/regent/regent/tree/NewEpochFollowsPinLaw" = true := by first | (simp [plainName, overriddenIn]; done) | decide +kernel
theorem ef_0 (m : MethodId) (x0 : Int64) (x1 : Int64) (x2 : Int64) (x3 : Int64) (x4 : Int32) : entryFrame m #[(.long x0), (.long x1), (.long x2), (.long x3), (.int x4)] maxLocals = mkF m 0 #[.val (.long x0), .second, .val (.long x1), .second, .val (.long x2), .second, .val (.long x3), .second, .val (.int x4), .unset, .unset, .unset, .unset, .unset, .unset, .unset, .unset, .unset, .unset, .unset, .unset, .unset, .unset, .unset, .unset, .unset, .unset, .unset] [] := by first | (simp [entryFrame, mkF, argsToLocals, Value.category, maxLocals]; done) | rfl
def Q0 (Z : State) (px : Int64) (dx : Int64) (tx : Int64) (lx : Int64) (sx : Int32) (n0 : Nat) (Rst : RL) (v : Option Value) (h : Heap) (L : List Loc) : Prop := v = some (.int (1 : Int32)) ∧ Fr n0 L ∧ Rep Z n0 h (Rst)
set_option maxRecDepth 65536 in
set_option maxHeartbeats 40000000 in
theorem rm0 (l : Launch) (Z : State) (a0 : Array Value) (hw : ∀ d ∈ tables_1, d.before a0 Z = true) (ws : List Jvm.Cond) (px : Int64) (dx : Int64) (tx : Int64) (lx : Int64) (sx : Int32) (h0 : Heap) (n0 : Nat) (R0 : Rep Z n0 h0 ([])) :
    MetFree l x (head1 (Jvm.Cond.code x code maxLocals ret :: ws) room_1) (fun a U => a = #[(.long px), (.long dx), (.long tx), (.long lx), (.int sx)] ∧ Z.Warmed39 U.vm ∧ U.heap = h0) (fun _ _ _ _ _ => True) (fun _ U o U' => ∃ v L, o = .returned v ∧ Q0 Z px dx tx lx sx n0 [] v U'.heap L ∧ FrameEnd U o U' L 16 128) := by
  refine MetFree.of_bodySF (plainFor_of_name pn_com_example_regent_regent_tree_NewEpochFollowsPinLaw) hisR ?_
  intro p e s m args below meth c s₁ Bd hml0 hP hK
  obtain ⟨rfl, hZ, hh⟩ := hP
  have hx := Bd.exec
  have hby := Bd.bytes
  have hml : c.maxLocals = 28 := hml0
  have hown : s.vm.findClass "com/example/regent/regent/tree/NewEpochFollowsPinLaw" = some m.cls := findClass_of_methodNamed Bd.named
  have hnm := (name_of_methodNamed Bd.named Bd.method).1
  have X0 : Stand p l e room_1 s m #[(.long px), (.long dx), (.long tx), (.long lx), (.int sx)] below meth c s₁ [] 0 0 := Stand.of_body Bd
  have e0 : s₁.heap = h0 := by rw [← hh, Bd.state]; rfl
  have N0 := Fr.nil n0
  have pre0 : ∀ t, Steps p.tables e below (s₁.setTop (mkF m 0 #[.val (.long px), .second, .val (.long dx), .second, .val (.long tx), .second, .val (.long lx), .second, .val (.int sx), .unset, .unset, .unset, .unset, .unset, .unset, .unset, .unset, .unset, .unset, .unset, .unset, .unset, .unset, .unset, .unset, .unset, .unset, .unset] [])) t → Steps p.tables e below (s₁.setTop (entryFrame m #[(.long px), (.long dx), (.long tx), (.long lx), (.int sx)] maxLocals)) t := fun t k => castTop (ef_0 m px dx tx lx sx) k
  have pre2 : ∀ t, Steps p.tables e below (s₁.setTop (mkF m 6 #[.val (.long px), .second, .val (.long dx), .second, .val (.long tx), .second, .val (.long lx), .second, .val (.int sx), .val (.long (lushr px (32 : Int32))), .second, .unset, .unset, .unset, .unset, .unset, .unset, .unset, .unset, .unset, .unset, .unset, .unset, .unset, .unset, .unset, .unset, .unset] [])) t → Steps p.tables e below (s₁.setTop (entryFrame m #[(.long px), (.long dx), (.long tx), (.long lx), (.int sx)] maxLocals)) t := fun t k => pre0 t (by
    show Steps p.tables e below (s₁.setTop (mkF m 0 #[.val (.long px), .second, .val (.long dx), .second, .val (.long tx), .second, .val (.long lx), .second, .val (.int sx), .unset, .unset, .unset, .unset, .unset, .unset, .unset, .unset, .unset, .unset, .unset, .unset, .unset, .unset, .unset, .unset, .unset, .unset, .unset] [])) _
    refine XS.lloadN X0.here hx rfl (hb hby at_0) rfl ?_
    refine XS.bipush X0.here hx rfl (hb hby at_1) ?_
    refine XS.lushr X0.here hx rfl (hb hby at_3) rfl ?_
    refine XS.lstore X0.here hx rfl (hb hby at_4) rfl (l' := #[.val (.long px), .second, .val (.long dx), .second, .val (.long tx), .second, .val (.long lx), .second, .val (.int sx), .val (.long (lushr px (32 : Int32))), .second, .unset, .unset, .unset, .unset, .unset, .unset, .unset, .unset, .unset, .unset, .unset, .unset, .unset, .unset, .unset, .unset, .unset]) rfl ?_
    exact k)
  obtain ⟨v1, hv1⟩ : ∃ z : Int64, z = (lushr px (32 : Int32)) := ⟨_, rfl⟩
  rw [← hv1] at pre2
  have pre5 : ∀ t, Steps p.tables e below (s₁.setTop (mkF m 12 #[.val (.long px), .second, .val (.long dx), .second, .val (.long tx), .second, .val (.long lx), .second, .val (.int sx), .val (.long v1), .second, .unset, .unset, .unset, .unset, .unset, .unset, .unset, .unset, .unset, .unset, .unset, .unset, .unset, .unset, .unset, .unset, .unset] [(.int (XT.cmpL v1 (4294967295 : Int64)))])) t → Steps p.tables e below (s₁.setTop (entryFrame m #[(.long px), (.long dx), (.long tx), (.long lx), (.int sx)] maxLocals)) t := fun t k => pre2 t (by
    show Steps p.tables e below (s₁.setTop (mkF m 6 #[.val (.long px), .second, .val (.long dx), .second, .val (.long tx), .second, .val (.long lx), .second, .val (.int sx), .val (.long v1), .second, .unset, .unset, .unset, .unset, .unset, .unset, .unset, .unset, .unset, .unset, .unset, .unset, .unset, .unset, .unset, .unset, .unset] [])) _
    refine XS.lload X0.here hx rfl (hb hby at_6) rfl ?_
    refine X0.ldc2Long hx hown (mvT hZ (hw _ (List.mem_of_getElem? (i := 0) rfl))) (g := (mkF m 8 #[.val (.long px), .second, .val (.long dx), .second, .val (.long tx), .second, .val (.long lx), .second, .val (.int sx), .val (.long v1), .second, .unset, .unset, .unset, .unset, .unset, .unset, .unset, .unset, .unset, .unset, .unset, .unset, .unset, .unset, .unset, .unset, .unset] [(.long v1)])) rfl (hb hby at_8) _ ?_
    refine XS.lcmp X0.here hx rfl (hb hby at_11) rfl ?_
    exact k)
  have tl4 : ∀ t, Steps p.tables e below (s₁.setTop (mkF m 24 #[.val (.long px), .second, .val (.long dx), .second, .val (.long tx), .second, .val (.long lx), .second, .val (.int sx), .val (.long v1), .second, .unset, .unset, .unset, .unset, .unset, .unset, .unset, .unset, .unset, .unset, .unset, .unset, .unset, .unset, .unset, .unset, .unset] [(.long (if v1 = (4294967295 : Int64) then (px &&& (9223372036854775807 : Int64)) else px))])) t → Steps p.tables e below (s₁.setTop (mkF m 12 #[.val (.long px), .second, .val (.long dx), .second, .val (.long tx), .second, .val (.long lx), .second, .val (.int sx), .val (.long v1), .second, .unset, .unset, .unset, .unset, .unset, .unset, .unset, .unset, .unset, .unset, .unset, .unset, .unset, .unset, .unset, .unset, .unset] [(.int (XT.cmpL v1 (4294967295 : Int64)))])) t := fun t k => by
    by_cases hb3 : v1 = (4294967295 : Int64)
    · refine XS.ifNo X0.here hx rfl (hb hby at_12) rfl (XT.ll_ne_f hb3) ?_
      rw [show (if v1 = (4294967295 : Int64) then (px &&& (9223372036854775807 : Int64)) else px) = (px &&& (9223372036854775807 : Int64)) from if_pos hb3] at k
      show Steps p.tables e below (s₁.setTop (mkF m 15 #[.val (.long px), .second, .val (.long dx), .second, .val (.long tx), .second, .val (.long lx), .second, .val (.int sx), .val (.long v1), .second, .unset, .unset, .unset, .unset, .unset, .unset, .unset, .unset, .unset, .unset, .unset, .unset, .unset, .unset, .unset, .unset, .unset] [])) _
      refine XS.lloadN X0.here hx rfl (hb hby at_15) rfl ?_
      refine X0.ldc2Long hx hown (mvT hZ (hw _ (List.mem_of_getElem? (i := 1) rfl))) (g := (mkF m 16 #[.val (.long px), .second, .val (.long dx), .second, .val (.long tx), .second, .val (.long lx), .second, .val (.int sx), .val (.long v1), .second, .unset, .unset, .unset, .unset, .unset, .unset, .unset, .unset, .unset, .unset, .unset, .unset, .unset, .unset, .unset, .unset, .unset] [(.long px)])) rfl (hb hby at_16) _ ?_
      refine XS.land X0.here hx rfl (hb hby at_19) rfl ?_
      refine XS.goto X0.here hx rfl (pc0 := 20) (pc' := 24) rfl (hb hby at_20) (by decide) (by decide) ?_
      exact k
    · refine XS.ifYes X0.here hx rfl (pc0 := 12) (pc' := 23) rfl (hb hby at_12) rfl (XT.ll_ne_t hb3) (by decide) (by decide) ?_
      rw [show (if v1 = (4294967295 : Int64) then (px &&& (9223372036854775807 : Int64)) else px) = px from if_neg hb3] at k
      show Steps p.tables e below (s₁.setTop (mkF m 23 #[.val (.long px), .second, .val (.long dx), .second, .val (.long tx), .second, .val (.long lx), .second, .val (.int sx), .val (.long v1), .second, .unset, .unset, .unset, .unset, .unset, .unset, .unset, .unset, .unset, .unset, .unset, .unset, .unset, .unset, .unset, .unset, .unset] [])) _
      refine XS.lloadN X0.here hx rfl (hb hby at_23) rfl ?_
      exact k
  have pre6 : ∀ t, Steps p.tables e below (s₁.setTop (mkF m 24 #[.val (.long px), .second, .val (.long dx), .second, .val (.long tx), .second, .val (.long lx), .second, .val (.int sx), .val (.long v1), .second, .unset, .unset, .unset, .unset, .unset, .unset, .unset, .unset, .unset, .unset, .unset, .unset, .unset, .unset, .unset, .unset, .unset] [(.long (if v1 = (4294967295 : Int64) then (px &&& (9223372036854775807 : Int64)) else px))])) t → Steps p.tables e below (s₁.setTop (entryFrame m #[(.long px), (.long dx), (.long tx), (.long lx), (.int sx)] maxLocals)) t := fun t k => pre5 t (by
    exact tl4 t k)
  obtain ⟨v7, hv7⟩ : ∃ z : Int64, z = (if v1 = (4294967295 : Int64) then (px &&& (9223372036854775807 : Int64)) else px) := ⟨_, rfl⟩
  rw [← hv7] at pre6
  have pre9 : ∀ t, Steps p.tables e below (s₁.setTop (mkF m 33 #[.val (.long px), .second, .val (.long dx), .second, .val (.long tx), .second, .val (.long lx), .second, .val (.int sx), .val (.long v1), .second, .val (.long v7), .second, .val (.long (lushr v7 (32 : Int32))), .second, .unset, .unset, .unset, .unset, .unset, .unset, .unset, .unset, .unset, .unset, .unset, .unset, .unset] [])) t → Steps p.tables e below (s₁.setTop (entryFrame m #[(.long px), (.long dx), (.long tx), (.long lx), (.int sx)] maxLocals)) t := fun t k => pre6 t (by
    show Steps p.tables e below (s₁.setTop (mkF m 24 #[.val (.long px), .second, .val (.long dx), .second, .val (.long tx), .second, .val (.long lx), .second, .val (.int sx), .val (.long v1), .second, .unset, .unset, .unset, .unset, .unset, .unset, .unset, .unset, .unset, .unset, .unset, .unset, .unset, .unset, .unset, .unset, .unset] [(.long v7)])) _
    refine XS.lstore X0.here hx rfl (hb hby at_24) rfl (l' := #[.val (.long px), .second, .val (.long dx), .second, .val (.long tx), .second, .val (.long lx), .second, .val (.int sx), .val (.long v1), .second, .val (.long v7), .second, .unset, .unset, .unset, .unset, .unset, .unset, .unset, .unset, .unset, .unset, .unset, .unset, .unset, .unset, .unset]) rfl ?_
    refine XS.lload X0.here hx rfl (hb hby at_26) rfl ?_
    refine XS.bipush X0.here hx rfl (hb hby at_28) ?_
    refine XS.lushr X0.here hx rfl (hb hby at_30) rfl ?_
    refine XS.lstore X0.here hx rfl (hb hby at_31) rfl (l' := #[.val (.long px), .second, .val (.long dx), .second, .val (.long tx), .second, .val (.long lx), .second, .val (.int sx), .val (.long v1), .second, .val (.long v7), .second, .val (.long (lushr v7 (32 : Int32))), .second, .unset, .unset, .unset, .unset, .unset, .unset, .unset, .unset, .unset, .unset, .unset, .unset, .unset]) rfl ?_
    exact k)
  obtain ⟨v8, hv8⟩ : ∃ z : Int64, z = (lushr v7 (32 : Int32)) := ⟨_, rfl⟩
  rw [← hv8] at pre9
  have hp := own_prev hv1 hv7 hv8
  have pre11 : ∀ t, Steps p.tables e below (s₁.setTop (mkF m 41 #[.val (.long px), .second, .val (.long dx), .second, .val (.long tx), .second, .val (.long lx), .second, .val (.int sx), .val (.long v1), .second, .val (.long v7), .second, .val (.long v8), .second, .val (.long ((4294967295 : Int64) - v8)), .second, .unset, .unset, .unset, .unset, .unset, .unset, .unset, .unset, .unset, .unset, .unset] [])) t → Steps p.tables e below (s₁.setTop (entryFrame m #[(.long px), (.long dx), (.long tx), (.long lx), (.int sx)] maxLocals)) t := fun t k => pre9 t (by
    show Steps p.tables e below (s₁.setTop (mkF m 33 #[.val (.long px), .second, .val (.long dx), .second, .val (.long tx), .second, .val (.long lx), .second, .val (.int sx), .val (.long v1), .second, .val (.long v7), .second, .val (.long v8), .second, .unset, .unset, .unset, .unset, .unset, .unset, .unset, .unset, .unset, .unset, .unset, .unset, .unset] [])) _
    refine X0.ldc2Long hx hown (mvT hZ (hw _ (List.mem_of_getElem? (i := 0) rfl))) (g := (mkF m 33 #[.val (.long px), .second, .val (.long dx), .second, .val (.long tx), .second, .val (.long lx), .second, .val (.int sx), .val (.long v1), .second, .val (.long v7), .second, .val (.long v8), .second, .unset, .unset, .unset, .unset, .unset, .unset, .unset, .unset, .unset, .unset, .unset, .unset, .unset] [])) rfl (hb hby at_33) _ ?_
    refine XS.lload X0.here hx rfl (hb hby at_36) rfl ?_
    refine XS.lsub X0.here hx rfl (hb hby at_38) rfl ?_
    refine XS.lstore X0.here hx rfl (hb hby at_39) rfl (l' := #[.val (.long px), .second, .val (.long dx), .second, .val (.long tx), .second, .val (.long lx), .second, .val (.int sx), .val (.long v1), .second, .val (.long v7), .second, .val (.long v8), .second, .val (.long ((4294967295 : Int64) - v8)), .second, .unset, .unset, .unset, .unset, .unset, .unset, .unset, .unset, .unset, .unset, .unset]) rfl ?_
    exact k)
  obtain ⟨v10, hv10⟩ : ∃ z : Int64, z = ((4294967295 : Int64) - v8) := ⟨_, rfl⟩
  rw [← hv10] at pre11
  have pre13 : ∀ t, Steps p.tables e below (s₁.setTop (mkF m 56 #[.val (.long px), .second, .val (.long dx), .second, .val (.long tx), .second, .val (.long lx), .second, .val (.int sx), .val (.long v1), .second, .val (.long v7), .second, .val (.long v8), .second, .val (.long v10), .second, .val (.long ((v8 + (1 : Int64)) + ((dx &&& (9223372036854775807 : Int64)) % v10))), .second, .unset, .unset, .unset, .unset, .unset, .unset, .unset, .unset, .unset] [])) t → Steps p.tables e below (s₁.setTop (entryFrame m #[(.long px), (.long dx), (.long tx), (.long lx), (.int sx)] maxLocals)) t := fun t k => pre11 t (by
    show Steps p.tables e below (s₁.setTop (mkF m 41 #[.val (.long px), .second, .val (.long dx), .second, .val (.long tx), .second, .val (.long lx), .second, .val (.int sx), .val (.long v1), .second, .val (.long v7), .second, .val (.long v8), .second, .val (.long v10), .second, .unset, .unset, .unset, .unset, .unset, .unset, .unset, .unset, .unset, .unset, .unset] [])) _
    refine XS.lload X0.here hx rfl (hb hby at_41) rfl ?_
    refine XS.lconst X0.here hx rfl (hb hby at_43) ?_
    refine XS.ladd X0.here hx rfl (hb hby at_44) rfl ?_
    refine XS.lloadN X0.here hx rfl (hb hby at_45) rfl ?_
    refine X0.ldc2Long hx hown (mvT hZ (hw _ (List.mem_of_getElem? (i := 1) rfl))) (g := (mkF m 46 #[.val (.long px), .second, .val (.long dx), .second, .val (.long tx), .second, .val (.long lx), .second, .val (.int sx), .val (.long v1), .second, .val (.long v7), .second, .val (.long v8), .second, .val (.long v10), .second, .unset, .unset, .unset, .unset, .unset, .unset, .unset, .unset, .unset, .unset, .unset] [(.long dx), (.long (v8 + (1 : Int64)))])) rfl (hb hby at_46) _ ?_
    refine XS.land X0.here hx rfl (hb hby at_49) rfl ?_
    refine XS.lload X0.here hx rfl (hb hby at_50) rfl ?_
    show Steps p.tables e below (s₁.setTop (mkF m 52 #[.val (.long px), .second, .val (.long dx), .second, .val (.long tx), .second, .val (.long lx), .second, .val (.int sx), .val (.long v1), .second, .val (.long v7), .second, .val (.long v8), .second, .val (.long v10), .second, .unset, .unset, .unset, .unset, .unset, .unset, .unset, .unset, .unset, .unset, .unset] [(.long v10), (.long (dx &&& (9223372036854775807 : Int64))), (.long (v8 + (1 : Int64)))])) _
    refine XS.lrem X0.here hx rfl (hb hby at_52) rfl ((own_nz hp.1 hv10) : v10 ≠ 0) ?_
    rw [lrem_mod]
    show Steps p.tables e below (s₁.setTop (mkF m 53 #[.val (.long px), .second, .val (.long dx), .second, .val (.long tx), .second, .val (.long lx), .second, .val (.int sx), .val (.long v1), .second, .val (.long v7), .second, .val (.long v8), .second, .val (.long v10), .second, .unset, .unset, .unset, .unset, .unset, .unset, .unset, .unset, .unset, .unset, .unset] [(.long ((dx &&& (9223372036854775807 : Int64)) % v10)), (.long (v8 + (1 : Int64)))])) _
    refine XS.ladd X0.here hx rfl (hb hby at_53) rfl ?_
    refine XS.lstore X0.here hx rfl (hb hby at_54) rfl (l' := #[.val (.long px), .second, .val (.long dx), .second, .val (.long tx), .second, .val (.long lx), .second, .val (.int sx), .val (.long v1), .second, .val (.long v7), .second, .val (.long v8), .second, .val (.long v10), .second, .val (.long ((v8 + (1 : Int64)) + ((dx &&& (9223372036854775807 : Int64)) % v10))), .second, .unset, .unset, .unset, .unset, .unset, .unset, .unset, .unset, .unset]) rfl ?_
    exact k)
  obtain ⟨v12, hv12⟩ : ∃ z : Int64, z = ((v8 + (1 : Int64)) + ((dx &&& (9223372036854775807 : Int64)) % v10)) := ⟨_, rfl⟩
  rw [← hv12] at pre13
  have pre15 : ∀ t, Steps p.tables e below (s₁.setTop (mkF m 65 #[.val (.long px), .second, .val (.long dx), .second, .val (.long tx), .second, .val (.long lx), .second, .val (.int sx), .val (.long v1), .second, .val (.long v7), .second, .val (.long v8), .second, .val (.long v10), .second, .val (.long v12), .second, .val (.long ((lshl v12 (32 : Int32)) ||| (1 : Int64))), .second, .unset, .unset, .unset, .unset, .unset, .unset, .unset] [])) t → Steps p.tables e below (s₁.setTop (entryFrame m #[(.long px), (.long dx), (.long tx), (.long lx), (.int sx)] maxLocals)) t := fun t k => pre13 t (by
    show Steps p.tables e below (s₁.setTop (mkF m 56 #[.val (.long px), .second, .val (.long dx), .second, .val (.long tx), .second, .val (.long lx), .second, .val (.int sx), .val (.long v1), .second, .val (.long v7), .second, .val (.long v8), .second, .val (.long v10), .second, .val (.long v12), .second, .unset, .unset, .unset, .unset, .unset, .unset, .unset, .unset, .unset] [])) _
    refine XS.lload X0.here hx rfl (hb hby at_56) rfl ?_
    refine XS.bipush X0.here hx rfl (hb hby at_58) ?_
    refine XS.lshl X0.here hx rfl (hb hby at_60) rfl ?_
    refine XS.lconst X0.here hx rfl (hb hby at_61) ?_
    refine XS.lor X0.here hx rfl (hb hby at_62) rfl ?_
    refine XS.lstore X0.here hx rfl (hb hby at_63) rfl (l' := #[.val (.long px), .second, .val (.long dx), .second, .val (.long tx), .second, .val (.long lx), .second, .val (.int sx), .val (.long v1), .second, .val (.long v7), .second, .val (.long v8), .second, .val (.long v10), .second, .val (.long v12), .second, .val (.long ((lshl v12 (32 : Int32)) ||| (1 : Int64))), .second, .unset, .unset, .unset, .unset, .unset, .unset, .unset]) rfl ?_
    exact k)
  obtain ⟨v14, hv14⟩ : ∃ z : Int64, z = ((lshl v12 (32 : Int32)) ||| (1 : Int64)) := ⟨_, rfl⟩
  rw [← hv14] at pre15
  have he := own_e hp.1 hv10 hv12
  have hz := own_z he.2 hv14
  have hlt : nj v7 / 4294967296 < nj v12 := by have := hp.2; omega
  obtain ⟨T16, h16, b16, X16, e16, R16, st16⟩ := gNew X0 hx hZ hown (hw _ (List.mem_of_getElem? (i := 2) rfl)) (hw _ (List.mem_of_getElem? (i := 3) rfl)) (hw _ (List.mem_of_getElem? (i := 4) rfl)) e0 R0 (fs := [("zxid", "J", (.long (0 : Int64))), ("time", "J", (.long (0 : Int64))), ("previous", "J", (.long (0 : Int64)))]) ⟨⟨Or.inr (hw _ (List.mem_of_getElem? (i := 25) rfl)), .long, by decide, rfl⟩, ⟨⟨Or.inr (hw _ (List.mem_of_getElem? (i := 27) rfl)), .long, by decide, rfl⟩, ⟨⟨Or.inr (hw _ (List.mem_of_getElem? (i := 29) rfl)), .long, by decide, rfl⟩, trivial⟩⟩⟩ (by decide) (g := (mkF m 65 #[.val (.long px), .second, .val (.long dx), .second, .val (.long tx), .second, .val (.long lx), .second, .val (.int sx), .val (.long v1), .second, .val (.long v7), .second, .val (.long v8), .second, .val (.long v10), .second, .val (.long v12), .second, .val (.long v14), .second, .unset, .unset, .unset, .unset, .unset, .unset, .unset] [])) rfl (hb hby at_65) (by decide) (by decide)
  have pre17 : ∀ t, Steps p.tables e below (T16.setTop (mkF m 68 #[.val (.long px), .second, .val (.long dx), .second, .val (.long tx), .second, .val (.long lx), .second, .val (.int sx), .val (.long v1), .second, .val (.long v7), .second, .val (.long v8), .second, .val (.long v10), .second, .val (.long v12), .second, .val (.long v14), .second, .unset, .unset, .unset, .unset, .unset, .unset, .unset] [(.ref b16)])) t → Steps p.tables e below (s₁.setTop (entryFrame m #[(.long px), (.long dx), (.long tx), (.long lx), (.int sx)] maxLocals)) t := fun t k => pre15 t (st16 t k)
  have pre18 : ∀ t, Steps p.tables e below (T16.setTop (mkF m 75 #[.val (.long px), .second, .val (.long dx), .second, .val (.long tx), .second, .val (.long lx), .second, .val (.int sx), .val (.long v1), .second, .val (.long v7), .second, .val (.long v8), .second, .val (.long v10), .second, .val (.long v12), .second, .val (.long v14), .second, .unset, .unset, .unset, .unset, .unset, .unset, .unset] [(.long v7), (.long tx), (.long v14), (.ref b16), (.ref b16)])) t → Steps p.tables e below (s₁.setTop (entryFrame m #[(.long px), (.long dx), (.long tx), (.long lx), (.int sx)] maxLocals)) t := fun t k => pre17 t (by
    show Steps p.tables e below (T16.setTop (mkF m 68 #[.val (.long px), .second, .val (.long dx), .second, .val (.long tx), .second, .val (.long lx), .second, .val (.int sx), .val (.long v1), .second, .val (.long v7), .second, .val (.long v8), .second, .val (.long v10), .second, .val (.long v12), .second, .val (.long v14), .second, .unset, .unset, .unset, .unset, .unset, .unset, .unset] [(.ref b16)])) _
    refine XS.dup X16.here hx rfl (hb hby at_68) rfl rfl ?_
    refine XS.lload X16.here hx rfl (hb hby at_69) rfl ?_
    refine XS.lload X16.here hx rfl (hb hby at_71) rfl ?_
    refine XS.lload X16.here hx rfl (hb hby at_73) rfl ?_
    exact k)
  obtain ⟨_, _, ⟨T19, L19, k19, n19⟩, -, X19, ⟨Lc19, hQ19, l19, y19, z19⟩, st19⟩ := X16.specialBack hx (y := (⟨"com/example/regent/regent/tree/Transaction$NewEpoch", "<init>", "(JJJ)V"⟩ : MethodName)) rfl hown (mvT hZ (hw _ (List.mem_of_getElem? (i := 5) rfl))) (mvT hZ (hw _ (List.mem_of_getElem? (i := 6) rfl))) (mvT hZ (hw _ (List.mem_of_getElem? (i := 7) rfl))) (by decide) (backOf (W := 1) (rm1 l Z a0 hw [] b16 v14 tx v7 _ _ _ h16 n0 _ R16 (own_p1 hz) (own_p2 hz hlt)) hZ (hw _ (List.mem_of_getElem? (i := 7) rfl)) (hw _ (List.mem_of_getElem? (i := 4) rfl)) (by decide) (by decide)) (g := (mkF m 75 #[.val (.long px), .second, .val (.long dx), .second, .val (.long tx), .second, .val (.long lx), .second, .val (.int sx), .val (.long v1), .second, .val (.long v7), .second, .val (.long v8), .second, .val (.long v10), .second, .val (.long v12), .second, .val (.long v14), .second, .unset, .unset, .unset, .unset, .unset, .unset, .unset] [(.long v7), (.long tx), (.long v14), (.ref b16), (.ref b16)])) rfl (by rw [hml]; rfl) (Steps.refl _) (a := b16) (argsL := [(.long v14), (.long tx), (.long v7)]) (rest := [(.ref b16)]) (lenOf pd__28JJJ_29V rfl) rfl (by show 2 * 0 + _ ≤ _; exact Nat.le_of_eq rfl) (hb hby at_75) (fun _ _ => ⟨rfl, e16, (by decide : 1 + 0 ≤ _), (by decide : 3 + 0 ≤ _)⟩)
  dsimp only [Pt.U, Pt.locs, Pt.cells, Pt.slots] at X19 l19 y19 z19 st19 hQ19
  subst l19 y19 z19
  obtain ⟨rfl, N19q, R19⟩ := hQ19
  have N19 := Fr.app N0 N19q
  replace R19 : Rep Z n0 T19.heap ((b16, Obj "com/example/regent/regent/tree/Transaction$NewEpoch" [("zxid", "J", (.long v14)), ("time", "J", (.long tx)), ("previous", "J", (.long v7))]) :: []) := R19
  have pre20 : ∀ t, Steps p.tables e below (T19.setTop (mkF m 78 #[.val (.long px), .second, .val (.long dx), .second, .val (.long tx), .second, .val (.long lx), .second, .val (.int sx), .val (.long v1), .second, .val (.long v7), .second, .val (.long v8), .second, .val (.long v10), .second, .val (.long v12), .second, .val (.long v14), .second, .unset, .unset, .unset, .unset, .unset, .unset, .unset] [(.ref b16)])) t → Steps p.tables e below (s₁.setTop (entryFrame m #[(.long px), (.long dx), (.long tx), (.long lx), (.int sx)] maxLocals)) t := fun t k => pre18 t (st19.trans k)
  have pre21 : ∀ t, Steps p.tables e below (T19.setTop (mkF m 84 #[.val (.long px), .second, .val (.long dx), .second, .val (.long tx), .second, .val (.long lx), .second, .val (.int sx), .val (.long v1), .second, .val (.long v7), .second, .val (.long v8), .second, .val (.long v10), .second, .val (.long v12), .second, .val (.long v14), .second, .val (.ref b16), .unset, .unset, .unset, .unset, .unset, .unset] [(.long v7), (.ref b16)])) t → Steps p.tables e below (s₁.setTop (entryFrame m #[(.long px), (.long dx), (.long tx), (.long lx), (.int sx)] maxLocals)) t := fun t k => pre20 t (by
    show Steps p.tables e below (T19.setTop (mkF m 78 #[.val (.long px), .second, .val (.long dx), .second, .val (.long tx), .second, .val (.long lx), .second, .val (.int sx), .val (.long v1), .second, .val (.long v7), .second, .val (.long v8), .second, .val (.long v10), .second, .val (.long v12), .second, .val (.long v14), .second, .unset, .unset, .unset, .unset, .unset, .unset, .unset] [(.ref b16)])) _
    refine XS.astore X19.here hx rfl (hb hby at_78) rfl rfl (l' := #[.val (.long px), .second, .val (.long dx), .second, .val (.long tx), .second, .val (.long lx), .second, .val (.int sx), .val (.long v1), .second, .val (.long v7), .second, .val (.long v8), .second, .val (.long v10), .second, .val (.long v12), .second, .val (.long v14), .second, .val (.ref b16), .unset, .unset, .unset, .unset, .unset, .unset]) rfl ?_
    refine XS.aload X19.here hx rfl (hb hby at_80) rfl rfl ?_
    refine XS.lload X19.here hx rfl (hb hby at_82) rfl ?_
    exact k)
  obtain ⟨cq22, kq22, q22a, q22b, q22c⟩ := isOf hZ rfl (R19.exa (i := 0) rfl)
  obtain ⟨_, _, ⟨T22, L22, k22, n22⟩, -, X22, ⟨Lc22, hQ22, l22, y22, z22⟩, st22⟩ := X19.virtualBack hx (y := (⟨"com/example/regent/regent/tree/Transaction$NewEpoch", "follows", "(J)Z"⟩ : MethodName)) (z := (⟨"com/example/regent/regent/tree/Transaction$NewEpoch", "follows", "(J)Z"⟩ : MethodName)) hown (mvT hZ (hw _ (List.mem_of_getElem? (i := 30) rfl))) (mvT hZ (hw _ (List.mem_of_getElem? (i := 31) rfl))) (notFace_of_selects (args := #[]) (mvT hZ (hw _ (List.mem_of_getElem? (i := 33) rfl)))) (mvT hZ (hw _ (List.mem_of_getElem? (i := 33) rfl))) (mvT hZ (hw _ (List.mem_of_getElem? (i := 32) rfl))) (by decide) (backOf (W := 0) (rm6 l Z a0 hw [] b16 v7 _ _ _ T19.heap n0 _ R19 ) hZ (hw _ (List.mem_of_getElem? (i := 34) rfl)) (hw _ (List.mem_of_getElem? (i := 4) rfl)) (by decide) (by decide)) q22a q22c (g := (mkF m 84 #[.val (.long px), .second, .val (.long dx), .second, .val (.long tx), .second, .val (.long lx), .second, .val (.int sx), .val (.long v1), .second, .val (.long v7), .second, .val (.long v8), .second, .val (.long v10), .second, .val (.long v12), .second, .val (.long v14), .second, .val (.ref b16), .unset, .unset, .unset, .unset, .unset, .unset] [(.long v7), (.ref b16)])) rfl (by rw [hml]; rfl) (Steps.refl _) (argsL := [(.long v7)]) (rest := []) (lenOf pd__28J_29Z rfl) rfl (by show 2 * 0 + _ ≤ _; exact Nat.le_of_eq rfl) (hb hby at_84) (fun _ _ => ⟨rfl, rfl, (by decide : 1 + 0 ≤ _), (by decide : 3 + 0 ≤ _)⟩)
  dsimp only [Pt.U, Pt.locs, Pt.cells, Pt.slots] at X22 l22 y22 z22 st22 hQ22
  subst l22 y22 z22
  obtain ⟨rfl, N22q, R22⟩ := hQ22
  have N22 := Fr.app N19 N22q
  replace R22 : Rep Z n0 T22.heap ((b16, Obj "com/example/regent/regent/tree/Transaction$NewEpoch" [("zxid", "J", (.long v14)), ("time", "J", (.long tx)), ("previous", "J", (.long v7))]) :: []) := R22
  have pre23 : ∀ t, Steps p.tables e below (T22.setTop (mkF m 87 #[.val (.long px), .second, .val (.long dx), .second, .val (.long tx), .second, .val (.long lx), .second, .val (.int sx), .val (.long v1), .second, .val (.long v7), .second, .val (.long v8), .second, .val (.long v10), .second, .val (.long v12), .second, .val (.long v14), .second, .val (.ref b16), .unset, .unset, .unset, .unset, .unset, .unset] [(.int (F6 v7 v7))])) t → Steps p.tables e below (s₁.setTop (entryFrame m #[(.long px), (.long dx), (.long tx), (.long lx), (.int sx)] maxLocals)) t := fun t k => pre21 t (st22.trans k)
  have pre24 : ∀ t, Steps p.tables e below (T22.setTop (mkF m 93 #[.val (.long px), .second, .val (.long dx), .second, .val (.long tx), .second, .val (.long lx), .second, .val (.int sx), .val (.long v1), .second, .val (.long v7), .second, .val (.long v8), .second, .val (.long v10), .second, .val (.long v12), .second, .val (.long v14), .second, .val (.ref b16), .val (.int (F6 v7 v7)), .unset, .unset, .unset, .unset, .unset] [(.long lx), (.ref b16)])) t → Steps p.tables e below (s₁.setTop (entryFrame m #[(.long px), (.long dx), (.long tx), (.long lx), (.int sx)] maxLocals)) t := fun t k => pre23 t (by
    show Steps p.tables e below (T22.setTop (mkF m 87 #[.val (.long px), .second, .val (.long dx), .second, .val (.long tx), .second, .val (.long lx), .second, .val (.int sx), .val (.long v1), .second, .val (.long v7), .second, .val (.long v8), .second, .val (.long v10), .second, .val (.long v12), .second, .val (.long v14), .second, .val (.ref b16), .unset, .unset, .unset, .unset, .unset, .unset] [(.int (F6 v7 v7))])) _
    refine XS.istore X22.here hx rfl (hb hby at_87) rfl (l' := #[.val (.long px), .second, .val (.long dx), .second, .val (.long tx), .second, .val (.long lx), .second, .val (.int sx), .val (.long v1), .second, .val (.long v7), .second, .val (.long v8), .second, .val (.long v10), .second, .val (.long v12), .second, .val (.long v14), .second, .val (.ref b16), .val (.int (F6 v7 v7)), .unset, .unset, .unset, .unset, .unset]) rfl ?_
    refine XS.aload X22.here hx rfl (hb hby at_89) rfl rfl ?_
    refine XS.lload X22.here hx rfl (hb hby at_91) rfl ?_
    exact k)
  obtain ⟨cq25, kq25, q25a, q25b, q25c⟩ := isOf hZ rfl (R22.exa (i := 0) rfl)
  obtain ⟨_, _, ⟨T25, L25, k25, n25⟩, -, X25, ⟨Lc25, hQ25, l25, y25, z25⟩, st25⟩ := X22.virtualBack hx (y := (⟨"com/example/regent/regent/tree/Transaction$NewEpoch", "follows", "(J)Z"⟩ : MethodName)) (z := (⟨"com/example/regent/regent/tree/Transaction$NewEpoch", "follows", "(J)Z"⟩ : MethodName)) hown (mvT hZ (hw _ (List.mem_of_getElem? (i := 30) rfl))) (mvT hZ (hw _ (List.mem_of_getElem? (i := 31) rfl))) (notFace_of_selects (args := #[]) (mvT hZ (hw _ (List.mem_of_getElem? (i := 33) rfl)))) (mvT hZ (hw _ (List.mem_of_getElem? (i := 33) rfl))) (mvT hZ (hw _ (List.mem_of_getElem? (i := 32) rfl))) (by decide) (backOf (W := 0) (rm6 l Z a0 hw [] b16 lx _ _ _ T22.heap n0 _ R22 ) hZ (hw _ (List.mem_of_getElem? (i := 34) rfl)) (hw _ (List.mem_of_getElem? (i := 4) rfl)) (by decide) (by decide)) q25a q25c (g := (mkF m 93 #[.val (.long px), .second, .val (.long dx), .second, .val (.long tx), .second, .val (.long lx), .second, .val (.int sx), .val (.long v1), .second, .val (.long v7), .second, .val (.long v8), .second, .val (.long v10), .second, .val (.long v12), .second, .val (.long v14), .second, .val (.ref b16), .val (.int (F6 v7 v7)), .unset, .unset, .unset, .unset, .unset] [(.long lx), (.ref b16)])) rfl (by rw [hml]; rfl) (Steps.refl _) (argsL := [(.long lx)]) (rest := []) (lenOf pd__28J_29Z rfl) rfl (by show 2 * 0 + _ ≤ _; exact Nat.le_of_eq rfl) (hb hby at_93) (fun _ _ => ⟨rfl, rfl, (by decide : 1 + 0 ≤ _), (by decide : 3 + 0 ≤ _)⟩)
  dsimp only [Pt.U, Pt.locs, Pt.cells, Pt.slots] at X25 l25 y25 z25 st25 hQ25
  subst l25 y25 z25
  obtain ⟨rfl, N25q, R25⟩ := hQ25
  have N25 := Fr.app N22 N25q
  replace R25 : Rep Z n0 T25.heap ((b16, Obj "com/example/regent/regent/tree/Transaction$NewEpoch" [("zxid", "J", (.long v14)), ("time", "J", (.long tx)), ("previous", "J", (.long v7))]) :: []) := R25
  have pre26 : ∀ t, Steps p.tables e below (T25.setTop (mkF m 96 #[.val (.long px), .second, .val (.long dx), .second, .val (.long tx), .second, .val (.long lx), .second, .val (.int sx), .val (.long v1), .second, .val (.long v7), .second, .val (.long v8), .second, .val (.long v10), .second, .val (.long v12), .second, .val (.long v14), .second, .val (.ref b16), .val (.int (F6 v7 v7)), .unset, .unset, .unset, .unset, .unset] [(.int (F6 lx v7))])) t → Steps p.tables e below (s₁.setTop (entryFrame m #[(.long px), (.long dx), (.long tx), (.long lx), (.int sx)] maxLocals)) t := fun t k => pre24 t (st25.trans k)
  have pre29 : ∀ t, Steps p.tables e below (T25.setTop (mkF m 101 #[.val (.long px), .second, .val (.long dx), .second, .val (.long tx), .second, .val (.long lx), .second, .val (.int sx), .val (.long v1), .second, .val (.long v7), .second, .val (.long v8), .second, .val (.long v10), .second, .val (.long v12), .second, .val (.long v14), .second, .val (.ref b16), .val (.int (F6 v7 v7)), .unset, .unset, .unset, .unset, .unset] [(.int (XT.cmpL lx v7)), (.int (F6 lx v7))])) t → Steps p.tables e below (s₁.setTop (entryFrame m #[(.long px), (.long dx), (.long tx), (.long lx), (.int sx)] maxLocals)) t := fun t k => pre26 t (by
    show Steps p.tables e below (T25.setTop (mkF m 96 #[.val (.long px), .second, .val (.long dx), .second, .val (.long tx), .second, .val (.long lx), .second, .val (.int sx), .val (.long v1), .second, .val (.long v7), .second, .val (.long v8), .second, .val (.long v10), .second, .val (.long v12), .second, .val (.long v14), .second, .val (.ref b16), .val (.int (F6 v7 v7)), .unset, .unset, .unset, .unset, .unset] [(.int (F6 lx v7))])) _
    refine XS.lload X25.here hx rfl (hb hby at_96) rfl ?_
    refine XS.lload X25.here hx rfl (hb hby at_98) rfl ?_
    refine XS.lcmp X25.here hx rfl (hb hby at_100) rfl ?_
    exact k)
  have tl28 : ∀ t, Steps p.tables e below (T25.setTop (mkF m 109 #[.val (.long px), .second, .val (.long dx), .second, .val (.long tx), .second, .val (.long lx), .second, .val (.int sx), .val (.long v1), .second, .val (.long v7), .second, .val (.long v8), .second, .val (.long v10), .second, .val (.long v12), .second, .val (.long v14), .second, .val (.ref b16), .val (.int (F6 v7 v7)), .unset, .unset, .unset, .unset, .unset] [(.int (bz (lx = v7))), (.int (F6 lx v7))])) t → Steps p.tables e below (T25.setTop (mkF m 101 #[.val (.long px), .second, .val (.long dx), .second, .val (.long tx), .second, .val (.long lx), .second, .val (.int sx), .val (.long v1), .second, .val (.long v7), .second, .val (.long v8), .second, .val (.long v10), .second, .val (.long v12), .second, .val (.long v14), .second, .val (.ref b16), .val (.int (F6 v7 v7)), .unset, .unset, .unset, .unset, .unset] [(.int (XT.cmpL lx v7)), (.int (F6 lx v7))])) t := fun t k => by
    by_cases hb27 : lx = v7
    · refine XS.ifNo X25.here hx rfl (hb hby at_101) rfl (XT.ll_ne_f hb27) ?_
      rw [bz_one (P := (lx = v7)) (iff_true_intro hb27)] at k
      show Steps p.tables e below (T25.setTop (mkF m 104 #[.val (.long px), .second, .val (.long dx), .second, .val (.long tx), .second, .val (.long lx), .second, .val (.int sx), .val (.long v1), .second, .val (.long v7), .second, .val (.long v8), .second, .val (.long v10), .second, .val (.long v12), .second, .val (.long v14), .second, .val (.ref b16), .val (.int (F6 v7 v7)), .unset, .unset, .unset, .unset, .unset] [(.int (F6 lx v7))])) _
      refine XS.iconst X25.here hx rfl (hb hby at_104) ?_
      refine XS.goto X25.here hx rfl (pc0 := 105) (pc' := 109) rfl (hb hby at_105) (by decide) (by decide) ?_
      exact k
    · refine XS.ifYes X25.here hx rfl (pc0 := 101) (pc' := 108) rfl (hb hby at_101) rfl (XT.ll_ne_t hb27) (by decide) (by decide) ?_
      rw [bz_zero (P := (lx = v7)) (iff_false_intro hb27)] at k
      show Steps p.tables e below (T25.setTop (mkF m 108 #[.val (.long px), .second, .val (.long dx), .second, .val (.long tx), .second, .val (.long lx), .second, .val (.int sx), .val (.long v1), .second, .val (.long v7), .second, .val (.long v8), .second, .val (.long v10), .second, .val (.long v12), .second, .val (.long v14), .second, .val (.ref b16), .val (.int (F6 v7 v7)), .unset, .unset, .unset, .unset, .unset] [(.int (F6 lx v7))])) _
      refine XS.iconst X25.here hx rfl (hb hby at_108) ?_
      exact k
  have pre30 : ∀ t, Steps p.tables e below (T25.setTop (mkF m 109 #[.val (.long px), .second, .val (.long dx), .second, .val (.long tx), .second, .val (.long lx), .second, .val (.int sx), .val (.long v1), .second, .val (.long v7), .second, .val (.long v8), .second, .val (.long v10), .second, .val (.long v12), .second, .val (.long v14), .second, .val (.ref b16), .val (.int (F6 v7 v7)), .unset, .unset, .unset, .unset, .unset] [(.int (bz (lx = v7))), (.int (F6 lx v7))])) t → Steps p.tables e below (s₁.setTop (entryFrame m #[(.long px), (.long dx), (.long tx), (.long lx), (.int sx)] maxLocals)) t := fun t k => pre29 t (by
    exact tl28 t k)
  have tl32 : ∀ t, Steps p.tables e below (T25.setTop (mkF m 117 #[.val (.long px), .second, .val (.long dx), .second, .val (.long tx), .second, .val (.long lx), .second, .val (.int sx), .val (.long v1), .second, .val (.long v7), .second, .val (.long v8), .second, .val (.long v10), .second, .val (.long v12), .second, .val (.long v14), .second, .val (.ref b16), .val (.int (F6 v7 v7)), .unset, .unset, .unset, .unset, .unset] [(.int (bz ((F6 lx v7) = (bz (lx = v7)))))])) t → Steps p.tables e below (T25.setTop (mkF m 109 #[.val (.long px), .second, .val (.long dx), .second, .val (.long tx), .second, .val (.long lx), .second, .val (.int sx), .val (.long v1), .second, .val (.long v7), .second, .val (.long v8), .second, .val (.long v10), .second, .val (.long v12), .second, .val (.long v14), .second, .val (.ref b16), .val (.int (F6 v7 v7)), .unset, .unset, .unset, .unset, .unset] [(.int (bz (lx = v7))), (.int (F6 lx v7))])) t := fun t k => by
    by_cases hb31 : (F6 lx v7) = (bz (lx = v7))
    · refine XS.icmpNo X25.here hx rfl (hb hby at_109) rfl (teq hb31).2 ?_
      rw [bz_one (P := ((F6 lx v7) = (bz (lx = v7)))) (iff_true_intro hb31)] at k
      show Steps p.tables e below (T25.setTop (mkF m 112 #[.val (.long px), .second, .val (.long dx), .second, .val (.long tx), .second, .val (.long lx), .second, .val (.int sx), .val (.long v1), .second, .val (.long v7), .second, .val (.long v8), .second, .val (.long v10), .second, .val (.long v12), .second, .val (.long v14), .second, .val (.ref b16), .val (.int (F6 v7 v7)), .unset, .unset, .unset, .unset, .unset] [])) _
      refine XS.iconst X25.here hx rfl (hb hby at_112) ?_
      refine XS.goto X25.here hx rfl (pc0 := 113) (pc' := 117) rfl (hb hby at_113) (by decide) (by decide) ?_
      exact k
    · refine XS.icmpYes X25.here hx rfl (pc0 := 109) (pc' := 116) rfl (hb hby at_109) rfl (feq hb31).2 (by decide) (by decide) ?_
      rw [bz_zero (P := ((F6 lx v7) = (bz (lx = v7)))) (iff_false_intro hb31)] at k
      show Steps p.tables e below (T25.setTop (mkF m 116 #[.val (.long px), .second, .val (.long dx), .second, .val (.long tx), .second, .val (.long lx), .second, .val (.int sx), .val (.long v1), .second, .val (.long v7), .second, .val (.long v8), .second, .val (.long v10), .second, .val (.long v12), .second, .val (.long v14), .second, .val (.ref b16), .val (.int (F6 v7 v7)), .unset, .unset, .unset, .unset, .unset] [])) _
      refine XS.iconst X25.here hx rfl (hb hby at_116) ?_
      exact k
  have pre33 : ∀ t, Steps p.tables e below (T25.setTop (mkF m 117 #[.val (.long px), .second, .val (.long dx), .second, .val (.long tx), .second, .val (.long lx), .second, .val (.int sx), .val (.long v1), .second, .val (.long v7), .second, .val (.long v8), .second, .val (.long v10), .second, .val (.long v12), .second, .val (.long v14), .second, .val (.ref b16), .val (.int (F6 v7 v7)), .unset, .unset, .unset, .unset, .unset] [(.int (bz ((F6 lx v7) = (bz (lx = v7)))))])) t → Steps p.tables e below (s₁.setTop (entryFrame m #[(.long px), (.long dx), (.long tx), (.long lx), (.int sx)] maxLocals)) t := fun t k => pre30 t (by
    exact tl32 t k)
  have pre35 : ∀ t, Steps p.tables e below (T25.setTop (mkF m 131 #[.val (.long px), .second, .val (.long dx), .second, .val (.long tx), .second, .val (.long lx), .second, .val (.int sx), .val (.long v1), .second, .val (.long v7), .second, .val (.long v8), .second, .val (.long v10), .second, .val (.long v12), .second, .val (.long v14), .second, .val (.ref b16), .val (.int (F6 v7 v7)), .val (.int (bz ((F6 lx v7) = (bz (lx = v7))))), .val (.long (v7 ^^^ (lshl (1 : Int64) (sx &&& (63 : Int32))))), .second, .unset, .unset] [])) t → Steps p.tables e below (s₁.setTop (entryFrame m #[(.long px), (.long dx), (.long tx), (.long lx), (.int sx)] maxLocals)) t := fun t k => pre33 t (by
    show Steps p.tables e below (T25.setTop (mkF m 117 #[.val (.long px), .second, .val (.long dx), .second, .val (.long tx), .second, .val (.long lx), .second, .val (.int sx), .val (.long v1), .second, .val (.long v7), .second, .val (.long v8), .second, .val (.long v10), .second, .val (.long v12), .second, .val (.long v14), .second, .val (.ref b16), .val (.int (F6 v7 v7)), .unset, .unset, .unset, .unset, .unset] [(.int (bz ((F6 lx v7) = (bz (lx = v7)))))])) _
    refine XS.istore X25.here hx rfl (hb hby at_117) rfl (l' := #[.val (.long px), .second, .val (.long dx), .second, .val (.long tx), .second, .val (.long lx), .second, .val (.int sx), .val (.long v1), .second, .val (.long v7), .second, .val (.long v8), .second, .val (.long v10), .second, .val (.long v12), .second, .val (.long v14), .second, .val (.ref b16), .val (.int (F6 v7 v7)), .val (.int (bz ((F6 lx v7) = (bz (lx = v7))))), .unset, .unset, .unset, .unset]) rfl ?_
    refine XS.lload X25.here hx rfl (hb hby at_119) rfl ?_
    refine XS.lconst X25.here hx rfl (hb hby at_121) ?_
    refine XS.iload X25.here hx rfl (hb hby at_122) rfl ?_
    refine XS.bipush X25.here hx rfl (hb hby at_124) ?_
    refine XS.iand X25.here hx rfl (hb hby at_126) rfl ?_
    refine XS.lshl X25.here hx rfl (hb hby at_127) rfl ?_
    show Steps p.tables e below (T25.setTop (mkF m 128 #[.val (.long px), .second, .val (.long dx), .second, .val (.long tx), .second, .val (.long lx), .second, .val (.int sx), .val (.long v1), .second, .val (.long v7), .second, .val (.long v8), .second, .val (.long v10), .second, .val (.long v12), .second, .val (.long v14), .second, .val (.ref b16), .val (.int (F6 v7 v7)), .val (.int (bz ((F6 lx v7) = (bz (lx = v7))))), .unset, .unset, .unset, .unset] [(.long (lshl (1 : Int64) (sx &&& (63 : Int32)))), (.long v7)])) _
    refine XS.lxor X25.here hx rfl (hb hby at_128) rfl ?_
    refine XS.lstore X25.here hx rfl (hb hby at_129) rfl (l' := #[.val (.long px), .second, .val (.long dx), .second, .val (.long tx), .second, .val (.long lx), .second, .val (.int sx), .val (.long v1), .second, .val (.long v7), .second, .val (.long v8), .second, .val (.long v10), .second, .val (.long v12), .second, .val (.long v14), .second, .val (.ref b16), .val (.int (F6 v7 v7)), .val (.int (bz ((F6 lx v7) = (bz (lx = v7))))), .val (.long (v7 ^^^ (lshl (1 : Int64) (sx &&& (63 : Int32))))), .second, .unset, .unset]) rfl ?_
    exact k)
  obtain ⟨v34, hv34⟩ : ∃ z : Int64, z = (v7 ^^^ (lshl (1 : Int64) (sx &&& (63 : Int32)))) := ⟨_, rfl⟩
  rw [← hv34] at pre35
  have pre36 : ∀ t, Steps p.tables e below (T25.setTop (mkF m 135 #[.val (.long px), .second, .val (.long dx), .second, .val (.long tx), .second, .val (.long lx), .second, .val (.int sx), .val (.long v1), .second, .val (.long v7), .second, .val (.long v8), .second, .val (.long v10), .second, .val (.long v12), .second, .val (.long v14), .second, .val (.ref b16), .val (.int (F6 v7 v7)), .val (.int (bz ((F6 lx v7) = (bz (lx = v7))))), .val (.long v34), .second, .unset, .unset] [(.long v34), (.ref b16)])) t → Steps p.tables e below (s₁.setTop (entryFrame m #[(.long px), (.long dx), (.long tx), (.long lx), (.int sx)] maxLocals)) t := fun t k => pre35 t (by
    show Steps p.tables e below (T25.setTop (mkF m 131 #[.val (.long px), .second, .val (.long dx), .second, .val (.long tx), .second, .val (.long lx), .second, .val (.int sx), .val (.long v1), .second, .val (.long v7), .second, .val (.long v8), .second, .val (.long v10), .second, .val (.long v12), .second, .val (.long v14), .second, .val (.ref b16), .val (.int (F6 v7 v7)), .val (.int (bz ((F6 lx v7) = (bz (lx = v7))))), .val (.long v34), .second, .unset, .unset] [])) _
    refine XS.aload X25.here hx rfl (hb hby at_131) rfl rfl ?_
    refine XS.lload X25.here hx rfl (hb hby at_133) rfl ?_
    exact k)
  obtain ⟨cq37, kq37, q37a, q37b, q37c⟩ := isOf hZ rfl (R25.exa (i := 0) rfl)
  obtain ⟨_, _, ⟨T37, L37, k37, n37⟩, -, X37, ⟨Lc37, hQ37, l37, y37, z37⟩, st37⟩ := X25.virtualBack hx (y := (⟨"com/example/regent/regent/tree/Transaction$NewEpoch", "follows", "(J)Z"⟩ : MethodName)) (z := (⟨"com/example/regent/regent/tree/Transaction$NewEpoch", "follows", "(J)Z"⟩ : MethodName)) hown (mvT hZ (hw _ (List.mem_of_getElem? (i := 30) rfl))) (mvT hZ (hw _ (List.mem_of_getElem? (i := 31) rfl))) (notFace_of_selects (args := #[]) (mvT hZ (hw _ (List.mem_of_getElem? (i := 33) rfl)))) (mvT hZ (hw _ (List.mem_of_getElem? (i := 33) rfl))) (mvT hZ (hw _ (List.mem_of_getElem? (i := 32) rfl))) (by decide) (backOf (W := 0) (rm6 l Z a0 hw [] b16 v34 _ _ _ T25.heap n0 _ R25 ) hZ (hw _ (List.mem_of_getElem? (i := 34) rfl)) (hw _ (List.mem_of_getElem? (i := 4) rfl)) (by decide) (by decide)) q37a q37c (g := (mkF m 135 #[.val (.long px), .second, .val (.long dx), .second, .val (.long tx), .second, .val (.long lx), .second, .val (.int sx), .val (.long v1), .second, .val (.long v7), .second, .val (.long v8), .second, .val (.long v10), .second, .val (.long v12), .second, .val (.long v14), .second, .val (.ref b16), .val (.int (F6 v7 v7)), .val (.int (bz ((F6 lx v7) = (bz (lx = v7))))), .val (.long v34), .second, .unset, .unset] [(.long v34), (.ref b16)])) rfl (by rw [hml]; rfl) (Steps.refl _) (argsL := [(.long v34)]) (rest := []) (lenOf pd__28J_29Z rfl) rfl (by show 2 * 0 + _ ≤ _; exact Nat.le_of_eq rfl) (hb hby at_135) (fun _ _ => ⟨rfl, rfl, (by decide : 1 + 0 ≤ _), (by decide : 3 + 0 ≤ _)⟩)
  dsimp only [Pt.U, Pt.locs, Pt.cells, Pt.slots] at X37 l37 y37 z37 st37 hQ37
  subst l37 y37 z37
  obtain ⟨rfl, N37q, R37⟩ := hQ37
  have N37 := Fr.app N25 N37q
  replace R37 : Rep Z n0 T37.heap ((b16, Obj "com/example/regent/regent/tree/Transaction$NewEpoch" [("zxid", "J", (.long v14)), ("time", "J", (.long tx)), ("previous", "J", (.long v7))]) :: []) := R37
  have pre38 : ∀ t, Steps p.tables e below (T37.setTop (mkF m 138 #[.val (.long px), .second, .val (.long dx), .second, .val (.long tx), .second, .val (.long lx), .second, .val (.int sx), .val (.long v1), .second, .val (.long v7), .second, .val (.long v8), .second, .val (.long v10), .second, .val (.long v12), .second, .val (.long v14), .second, .val (.ref b16), .val (.int (F6 v7 v7)), .val (.int (bz ((F6 lx v7) = (bz (lx = v7))))), .val (.long v34), .second, .unset, .unset] [(.int (F6 v34 v7))])) t → Steps p.tables e below (s₁.setTop (entryFrame m #[(.long px), (.long dx), (.long tx), (.long lx), (.int sx)] maxLocals)) t := fun t k => pre36 t (st37.trans k)
  have tl40 : ∀ t, Steps p.tables e below (T37.setTop (mkF m 146 #[.val (.long px), .second, .val (.long dx), .second, .val (.long tx), .second, .val (.long lx), .second, .val (.int sx), .val (.long v1), .second, .val (.long v7), .second, .val (.long v8), .second, .val (.long v10), .second, .val (.long v12), .second, .val (.long v14), .second, .val (.ref b16), .val (.int (F6 v7 v7)), .val (.int (bz ((F6 lx v7) = (bz (lx = v7))))), .val (.long v34), .second, .unset, .unset] [(.int (bz ((F6 v34 v7) = (0 : Int32))))])) t → Steps p.tables e below (T37.setTop (mkF m 138 #[.val (.long px), .second, .val (.long dx), .second, .val (.long tx), .second, .val (.long lx), .second, .val (.int sx), .val (.long v1), .second, .val (.long v7), .second, .val (.long v8), .second, .val (.long v10), .second, .val (.long v12), .second, .val (.long v14), .second, .val (.ref b16), .val (.int (F6 v7 v7)), .val (.int (bz ((F6 lx v7) = (bz (lx = v7))))), .val (.long v34), .second, .unset, .unset] [(.int (F6 v34 v7))])) t := fun t k => by
    by_cases hb39 : (F6 v34 v7) = (0 : Int32)
    · refine XS.ifNo X37.here hx rfl (hb hby at_138) rfl ((if0 _ _).trans (teq hb39).2) ?_
      rw [bz_one (P := ((F6 v34 v7) = (0 : Int32))) (iff_true_intro hb39)] at k
      show Steps p.tables e below (T37.setTop (mkF m 141 #[.val (.long px), .second, .val (.long dx), .second, .val (.long tx), .second, .val (.long lx), .second, .val (.int sx), .val (.long v1), .second, .val (.long v7), .second, .val (.long v8), .second, .val (.long v10), .second, .val (.long v12), .second, .val (.long v14), .second, .val (.ref b16), .val (.int (F6 v7 v7)), .val (.int (bz ((F6 lx v7) = (bz (lx = v7))))), .val (.long v34), .second, .unset, .unset] [])) _
      refine XS.iconst X37.here hx rfl (hb hby at_141) ?_
      refine XS.goto X37.here hx rfl (pc0 := 142) (pc' := 146) rfl (hb hby at_142) (by decide) (by decide) ?_
      exact k
    · refine XS.ifYes X37.here hx rfl (pc0 := 138) (pc' := 145) rfl (hb hby at_138) rfl ((if0 _ _).trans (feq hb39).2) (by decide) (by decide) ?_
      rw [bz_zero (P := ((F6 v34 v7) = (0 : Int32))) (iff_false_intro hb39)] at k
      show Steps p.tables e below (T37.setTop (mkF m 145 #[.val (.long px), .second, .val (.long dx), .second, .val (.long tx), .second, .val (.long lx), .second, .val (.int sx), .val (.long v1), .second, .val (.long v7), .second, .val (.long v8), .second, .val (.long v10), .second, .val (.long v12), .second, .val (.long v14), .second, .val (.ref b16), .val (.int (F6 v7 v7)), .val (.int (bz ((F6 lx v7) = (bz (lx = v7))))), .val (.long v34), .second, .unset, .unset] [])) _
      refine XS.iconst X37.here hx rfl (hb hby at_145) ?_
      exact k
  have pre41 : ∀ t, Steps p.tables e below (T37.setTop (mkF m 146 #[.val (.long px), .second, .val (.long dx), .second, .val (.long tx), .second, .val (.long lx), .second, .val (.int sx), .val (.long v1), .second, .val (.long v7), .second, .val (.long v8), .second, .val (.long v10), .second, .val (.long v12), .second, .val (.long v14), .second, .val (.ref b16), .val (.int (F6 v7 v7)), .val (.int (bz ((F6 lx v7) = (bz (lx = v7))))), .val (.long v34), .second, .unset, .unset] [(.int (bz ((F6 v34 v7) = (0 : Int32))))])) t → Steps p.tables e below (s₁.setTop (entryFrame m #[(.long px), (.long dx), (.long tx), (.long lx), (.int sx)] maxLocals)) t := fun t k => pre38 t (by
    exact tl40 t k)
  have pre42 : ∀ t, Steps p.tables e below (T37.setTop (mkF m 154 #[.val (.long px), .second, .val (.long dx), .second, .val (.long tx), .second, .val (.long lx), .second, .val (.int sx), .val (.long v1), .second, .val (.long v7), .second, .val (.long v8), .second, .val (.long v10), .second, .val (.long v12), .second, .val (.long v14), .second, .val (.ref b16), .val (.int (F6 v7 v7)), .val (.int (bz ((F6 lx v7) = (bz (lx = v7))))), .val (.long v34), .second, .val (.int (bz ((F6 v34 v7) = (0 : Int32)))), .unset] [(.long (v14 - (1 : Int64))), (.ref b16)])) t → Steps p.tables e below (s₁.setTop (entryFrame m #[(.long px), (.long dx), (.long tx), (.long lx), (.int sx)] maxLocals)) t := fun t k => pre41 t (by
    show Steps p.tables e below (T37.setTop (mkF m 146 #[.val (.long px), .second, .val (.long dx), .second, .val (.long tx), .second, .val (.long lx), .second, .val (.int sx), .val (.long v1), .second, .val (.long v7), .second, .val (.long v8), .second, .val (.long v10), .second, .val (.long v12), .second, .val (.long v14), .second, .val (.ref b16), .val (.int (F6 v7 v7)), .val (.int (bz ((F6 lx v7) = (bz (lx = v7))))), .val (.long v34), .second, .unset, .unset] [(.int (bz ((F6 v34 v7) = (0 : Int32))))])) _
    refine XS.istore X37.here hx rfl (hb hby at_146) rfl (l' := #[.val (.long px), .second, .val (.long dx), .second, .val (.long tx), .second, .val (.long lx), .second, .val (.int sx), .val (.long v1), .second, .val (.long v7), .second, .val (.long v8), .second, .val (.long v10), .second, .val (.long v12), .second, .val (.long v14), .second, .val (.ref b16), .val (.int (F6 v7 v7)), .val (.int (bz ((F6 lx v7) = (bz (lx = v7))))), .val (.long v34), .second, .val (.int (bz ((F6 v34 v7) = (0 : Int32)))), .unset]) rfl ?_
    refine XS.aload X37.here hx rfl (hb hby at_148) rfl rfl ?_
    refine XS.lload X37.here hx rfl (hb hby at_150) rfl ?_
    refine XS.lconst X37.here hx rfl (hb hby at_152) ?_
    refine XS.lsub X37.here hx rfl (hb hby at_153) rfl ?_
    exact k)
  obtain ⟨cq43, kq43, q43a, q43b, q43c⟩ := isOf hZ rfl (R37.exa (i := 0) rfl)
  obtain ⟨_, _, ⟨T43, L43, k43, n43⟩, -, X43, ⟨Lc43, hQ43, l43, y43, z43⟩, st43⟩ := X37.virtualBack hx (y := (⟨"com/example/regent/regent/tree/Transaction$NewEpoch", "follows", "(J)Z"⟩ : MethodName)) (z := (⟨"com/example/regent/regent/tree/Transaction$NewEpoch", "follows", "(J)Z"⟩ : MethodName)) hown (mvT hZ (hw _ (List.mem_of_getElem? (i := 30) rfl))) (mvT hZ (hw _ (List.mem_of_getElem? (i := 31) rfl))) (notFace_of_selects (args := #[]) (mvT hZ (hw _ (List.mem_of_getElem? (i := 33) rfl)))) (mvT hZ (hw _ (List.mem_of_getElem? (i := 33) rfl))) (mvT hZ (hw _ (List.mem_of_getElem? (i := 32) rfl))) (by decide) (backOf (W := 0) (rm6 l Z a0 hw [] b16 (v14 - (1 : Int64)) _ _ _ T37.heap n0 _ R37 ) hZ (hw _ (List.mem_of_getElem? (i := 34) rfl)) (hw _ (List.mem_of_getElem? (i := 4) rfl)) (by decide) (by decide)) q43a q43c (g := (mkF m 154 #[.val (.long px), .second, .val (.long dx), .second, .val (.long tx), .second, .val (.long lx), .second, .val (.int sx), .val (.long v1), .second, .val (.long v7), .second, .val (.long v8), .second, .val (.long v10), .second, .val (.long v12), .second, .val (.long v14), .second, .val (.ref b16), .val (.int (F6 v7 v7)), .val (.int (bz ((F6 lx v7) = (bz (lx = v7))))), .val (.long v34), .second, .val (.int (bz ((F6 v34 v7) = (0 : Int32)))), .unset] [(.long (v14 - (1 : Int64))), (.ref b16)])) rfl (by rw [hml]; rfl) (Steps.refl _) (argsL := [(.long (v14 - (1 : Int64)))]) (rest := []) (lenOf pd__28J_29Z rfl) rfl (by show 2 * 0 + _ ≤ _; exact Nat.le_of_eq rfl) (hb hby at_154) (fun _ _ => ⟨rfl, rfl, (by decide : 1 + 0 ≤ _), (by decide : 3 + 0 ≤ _)⟩)
  dsimp only [Pt.U, Pt.locs, Pt.cells, Pt.slots] at X43 l43 y43 z43 st43 hQ43
  subst l43 y43 z43
  obtain ⟨rfl, N43q, R43⟩ := hQ43
  have N43 := Fr.app N37 N43q
  replace R43 : Rep Z n0 T43.heap ((b16, Obj "com/example/regent/regent/tree/Transaction$NewEpoch" [("zxid", "J", (.long v14)), ("time", "J", (.long tx)), ("previous", "J", (.long v7))]) :: []) := R43
  have pre44 : ∀ t, Steps p.tables e below (T43.setTop (mkF m 157 #[.val (.long px), .second, .val (.long dx), .second, .val (.long tx), .second, .val (.long lx), .second, .val (.int sx), .val (.long v1), .second, .val (.long v7), .second, .val (.long v8), .second, .val (.long v10), .second, .val (.long v12), .second, .val (.long v14), .second, .val (.ref b16), .val (.int (F6 v7 v7)), .val (.int (bz ((F6 lx v7) = (bz (lx = v7))))), .val (.long v34), .second, .val (.int (bz ((F6 v34 v7) = (0 : Int32)))), .unset] [(.int (F6 (v14 - (1 : Int64)) v7))])) t → Steps p.tables e below (s₁.setTop (entryFrame m #[(.long px), (.long dx), (.long tx), (.long lx), (.int sx)] maxLocals)) t := fun t k => pre42 t (st43.trans k)
  have tl46 : ∀ t, Steps p.tables e below (T43.setTop (mkF m 165 #[.val (.long px), .second, .val (.long dx), .second, .val (.long tx), .second, .val (.long lx), .second, .val (.int sx), .val (.long v1), .second, .val (.long v7), .second, .val (.long v8), .second, .val (.long v10), .second, .val (.long v12), .second, .val (.long v14), .second, .val (.ref b16), .val (.int (F6 v7 v7)), .val (.int (bz ((F6 lx v7) = (bz (lx = v7))))), .val (.long v34), .second, .val (.int (bz ((F6 v34 v7) = (0 : Int32)))), .unset] [(.int (bz ((F6 (v14 - (1 : Int64)) v7) = (0 : Int32))))])) t → Steps p.tables e below (T43.setTop (mkF m 157 #[.val (.long px), .second, .val (.long dx), .second, .val (.long tx), .second, .val (.long lx), .second, .val (.int sx), .val (.long v1), .second, .val (.long v7), .second, .val (.long v8), .second, .val (.long v10), .second, .val (.long v12), .second, .val (.long v14), .second, .val (.ref b16), .val (.int (F6 v7 v7)), .val (.int (bz ((F6 lx v7) = (bz (lx = v7))))), .val (.long v34), .second, .val (.int (bz ((F6 v34 v7) = (0 : Int32)))), .unset] [(.int (F6 (v14 - (1 : Int64)) v7))])) t := fun t k => by
    by_cases hb45 : (F6 (v14 - (1 : Int64)) v7) = (0 : Int32)
    · refine XS.ifNo X43.here hx rfl (hb hby at_157) rfl ((if0 _ _).trans (teq hb45).2) ?_
      rw [bz_one (P := ((F6 (v14 - (1 : Int64)) v7) = (0 : Int32))) (iff_true_intro hb45)] at k
      show Steps p.tables e below (T43.setTop (mkF m 160 #[.val (.long px), .second, .val (.long dx), .second, .val (.long tx), .second, .val (.long lx), .second, .val (.int sx), .val (.long v1), .second, .val (.long v7), .second, .val (.long v8), .second, .val (.long v10), .second, .val (.long v12), .second, .val (.long v14), .second, .val (.ref b16), .val (.int (F6 v7 v7)), .val (.int (bz ((F6 lx v7) = (bz (lx = v7))))), .val (.long v34), .second, .val (.int (bz ((F6 v34 v7) = (0 : Int32)))), .unset] [])) _
      refine XS.iconst X43.here hx rfl (hb hby at_160) ?_
      refine XS.goto X43.here hx rfl (pc0 := 161) (pc' := 165) rfl (hb hby at_161) (by decide) (by decide) ?_
      exact k
    · refine XS.ifYes X43.here hx rfl (pc0 := 157) (pc' := 164) rfl (hb hby at_157) rfl ((if0 _ _).trans (feq hb45).2) (by decide) (by decide) ?_
      rw [bz_zero (P := ((F6 (v14 - (1 : Int64)) v7) = (0 : Int32))) (iff_false_intro hb45)] at k
      show Steps p.tables e below (T43.setTop (mkF m 164 #[.val (.long px), .second, .val (.long dx), .second, .val (.long tx), .second, .val (.long lx), .second, .val (.int sx), .val (.long v1), .second, .val (.long v7), .second, .val (.long v8), .second, .val (.long v10), .second, .val (.long v12), .second, .val (.long v14), .second, .val (.ref b16), .val (.int (F6 v7 v7)), .val (.int (bz ((F6 lx v7) = (bz (lx = v7))))), .val (.long v34), .second, .val (.int (bz ((F6 v34 v7) = (0 : Int32)))), .unset] [])) _
      refine XS.iconst X43.here hx rfl (hb hby at_164) ?_
      exact k
  have pre47 : ∀ t, Steps p.tables e below (T43.setTop (mkF m 165 #[.val (.long px), .second, .val (.long dx), .second, .val (.long tx), .second, .val (.long lx), .second, .val (.int sx), .val (.long v1), .second, .val (.long v7), .second, .val (.long v8), .second, .val (.long v10), .second, .val (.long v12), .second, .val (.long v14), .second, .val (.ref b16), .val (.int (F6 v7 v7)), .val (.int (bz ((F6 lx v7) = (bz (lx = v7))))), .val (.long v34), .second, .val (.int (bz ((F6 v34 v7) = (0 : Int32)))), .unset] [(.int (bz ((F6 (v14 - (1 : Int64)) v7) = (0 : Int32))))])) t → Steps p.tables e below (s₁.setTop (entryFrame m #[(.long px), (.long dx), (.long tx), (.long lx), (.int sx)] maxLocals)) t := fun t k => pre44 t (by
    exact tl46 t k)
  have pre56 : ∀ t, Steps p.tables e below (T43.setTop (mkF m 169 #[.val (.long px), .second, .val (.long dx), .second, .val (.long tx), .second, .val (.long lx), .second, .val (.int sx), .val (.long v1), .second, .val (.long v7), .second, .val (.long v8), .second, .val (.long v10), .second, .val (.long v12), .second, .val (.long v14), .second, .val (.ref b16), .val (.int (F6 v7 v7)), .val (.int (bz ((F6 lx v7) = (bz (lx = v7))))), .val (.long v34), .second, .val (.int (bz ((F6 v34 v7) = (0 : Int32)))), .val (.int (bz ((F6 (v14 - (1 : Int64)) v7) = (0 : Int32))))] [(.int (F6 v7 v7))])) t → Steps p.tables e below (s₁.setTop (entryFrame m #[(.long px), (.long dx), (.long tx), (.long lx), (.int sx)] maxLocals)) t := fun t k => pre47 t (by
    show Steps p.tables e below (T43.setTop (mkF m 165 #[.val (.long px), .second, .val (.long dx), .second, .val (.long tx), .second, .val (.long lx), .second, .val (.int sx), .val (.long v1), .second, .val (.long v7), .second, .val (.long v8), .second, .val (.long v10), .second, .val (.long v12), .second, .val (.long v14), .second, .val (.ref b16), .val (.int (F6 v7 v7)), .val (.int (bz ((F6 lx v7) = (bz (lx = v7))))), .val (.long v34), .second, .val (.int (bz ((F6 v34 v7) = (0 : Int32)))), .unset] [(.int (bz ((F6 (v14 - (1 : Int64)) v7) = (0 : Int32))))])) _
    refine XS.istore X43.here hx rfl (hb hby at_165) rfl (l' := #[.val (.long px), .second, .val (.long dx), .second, .val (.long tx), .second, .val (.long lx), .second, .val (.int sx), .val (.long v1), .second, .val (.long v7), .second, .val (.long v8), .second, .val (.long v10), .second, .val (.long v12), .second, .val (.long v14), .second, .val (.ref b16), .val (.int (F6 v7 v7)), .val (.int (bz ((F6 lx v7) = (bz (lx = v7))))), .val (.long v34), .second, .val (.int (bz ((F6 v34 v7) = (0 : Int32)))), .val (.int (bz ((F6 (v14 - (1 : Int64)) v7) = (0 : Int32))))]) rfl ?_
    refine XS.iload X43.here hx rfl (hb hby at_167) rfl ?_
    exact k)
  have tl52 : ∀ t, Steps p.tables e below (T43.setTop (mkF m 192 #[.val (.long px), .second, .val (.long dx), .second, .val (.long tx), .second, .val (.long lx), .second, .val (.int sx), .val (.long v1), .second, .val (.long v7), .second, .val (.long v8), .second, .val (.long v10), .second, .val (.long v12), .second, .val (.long v14), .second, .val (.ref b16), .val (.int (F6 v7 v7)), .val (.int (bz ((F6 lx v7) = (bz (lx = v7))))), .val (.long v34), .second, .val (.int (bz ((F6 v34 v7) = (0 : Int32)))), .val (.int (bz ((F6 (v14 - (1 : Int64)) v7) = (0 : Int32))))] [(.int (bz (((F6 (v14 - (1 : Int64)) v7) = (0 : Int32)))))])) t → Steps p.tables e below (T43.setTop (mkF m 184 #[.val (.long px), .second, .val (.long dx), .second, .val (.long tx), .second, .val (.long lx), .second, .val (.int sx), .val (.long v1), .second, .val (.long v7), .second, .val (.long v8), .second, .val (.long v10), .second, .val (.long v12), .second, .val (.long v14), .second, .val (.ref b16), .val (.int (F6 v7 v7)), .val (.int (bz ((F6 lx v7) = (bz (lx = v7))))), .val (.long v34), .second, .val (.int (bz ((F6 v34 v7) = (0 : Int32)))), .val (.int (bz ((F6 (v14 - (1 : Int64)) v7) = (0 : Int32))))] [(.int (bz ((F6 (v14 - (1 : Int64)) v7) = (0 : Int32))))])) t := fun t k => by
    by_cases hb51 : ((F6 (v14 - (1 : Int64)) v7) = (0 : Int32))
    · refine XS.ifNo X43.here hx rfl (hb hby at_184) rfl (ow_beq_f hb51) ?_
      replace k := Eq.mp (congrArg (fun zq => Steps p.tables e below (T43.setTop (mkF m 192 #[.val (.long px), .second, .val (.long dx), .second, .val (.long tx), .second, .val (.long lx), .second, .val (.int sx), .val (.long v1), .second, .val (.long v7), .second, .val (.long v8), .second, .val (.long v10), .second, .val (.long v12), .second, .val (.long v14), .second, .val (.ref b16), .val (.int (F6 v7 v7)), .val (.int (bz ((F6 lx v7) = (bz (lx = v7))))), .val (.long v34), .second, .val (.int (bz ((F6 v34 v7) = (0 : Int32)))), .val (.int (bz ((F6 (v14 - (1 : Int64)) v7) = (0 : Int32))))] [(.int zq)])) t) (bz_one (P := (((F6 (v14 - (1 : Int64)) v7) = (0 : Int32)))) (iff_true_intro hb51))) k
      show Steps p.tables e below (T43.setTop (mkF m 187 #[.val (.long px), .second, .val (.long dx), .second, .val (.long tx), .second, .val (.long lx), .second, .val (.int sx), .val (.long v1), .second, .val (.long v7), .second, .val (.long v8), .second, .val (.long v10), .second, .val (.long v12), .second, .val (.long v14), .second, .val (.ref b16), .val (.int (F6 v7 v7)), .val (.int (bz ((F6 lx v7) = (bz (lx = v7))))), .val (.long v34), .second, .val (.int (bz ((F6 v34 v7) = (0 : Int32)))), .val (.int (bz ((F6 (v14 - (1 : Int64)) v7) = (0 : Int32))))] [])) _
      refine XS.iconst X43.here hx rfl (hb hby at_187) ?_
      refine XS.goto X43.here hx rfl (pc0 := 188) (pc' := 192) rfl (hb hby at_188) (by decide) (by decide) ?_
      exact k
    · refine XS.ifYes X43.here hx rfl (pc0 := 184) (pc' := 191) rfl (hb hby at_184) rfl (ow_beq_t hb51) (by decide) (by decide) ?_
      replace k := Eq.mp (congrArg (fun zq => Steps p.tables e below (T43.setTop (mkF m 192 #[.val (.long px), .second, .val (.long dx), .second, .val (.long tx), .second, .val (.long lx), .second, .val (.int sx), .val (.long v1), .second, .val (.long v7), .second, .val (.long v8), .second, .val (.long v10), .second, .val (.long v12), .second, .val (.long v14), .second, .val (.ref b16), .val (.int (F6 v7 v7)), .val (.int (bz ((F6 lx v7) = (bz (lx = v7))))), .val (.long v34), .second, .val (.int (bz ((F6 v34 v7) = (0 : Int32)))), .val (.int (bz ((F6 (v14 - (1 : Int64)) v7) = (0 : Int32))))] [(.int zq)])) t) (bz_zero (P := (((F6 (v14 - (1 : Int64)) v7) = (0 : Int32)))) (iff_false_intro hb51))) k
      show Steps p.tables e below (T43.setTop (mkF m 191 #[.val (.long px), .second, .val (.long dx), .second, .val (.long tx), .second, .val (.long lx), .second, .val (.int sx), .val (.long v1), .second, .val (.long v7), .second, .val (.long v8), .second, .val (.long v10), .second, .val (.long v12), .second, .val (.long v14), .second, .val (.ref b16), .val (.int (F6 v7 v7)), .val (.int (bz ((F6 lx v7) = (bz (lx = v7))))), .val (.long v34), .second, .val (.int (bz ((F6 v34 v7) = (0 : Int32)))), .val (.int (bz ((F6 (v14 - (1 : Int64)) v7) = (0 : Int32))))] [])) _
      refine XS.iconst X43.here hx rfl (hb hby at_191) ?_
      exact k
  have tl53 : ∀ t, Steps p.tables e below (T43.setTop (mkF m 192 #[.val (.long px), .second, .val (.long dx), .second, .val (.long tx), .second, .val (.long lx), .second, .val (.int sx), .val (.long v1), .second, .val (.long v7), .second, .val (.long v8), .second, .val (.long v10), .second, .val (.long v12), .second, .val (.long v14), .second, .val (.ref b16), .val (.int (F6 v7 v7)), .val (.int (bz ((F6 lx v7) = (bz (lx = v7))))), .val (.long v34), .second, .val (.int (bz ((F6 v34 v7) = (0 : Int32)))), .val (.int (bz ((F6 (v14 - (1 : Int64)) v7) = (0 : Int32))))] [(.int (bz ((((F6 v34 v7) = (0 : Int32))) ∧ (((F6 (v14 - (1 : Int64)) v7) = (0 : Int32))))))])) t → Steps p.tables e below (T43.setTop (mkF m 179 #[.val (.long px), .second, .val (.long dx), .second, .val (.long tx), .second, .val (.long lx), .second, .val (.int sx), .val (.long v1), .second, .val (.long v7), .second, .val (.long v8), .second, .val (.long v10), .second, .val (.long v12), .second, .val (.long v14), .second, .val (.ref b16), .val (.int (F6 v7 v7)), .val (.int (bz ((F6 lx v7) = (bz (lx = v7))))), .val (.long v34), .second, .val (.int (bz ((F6 v34 v7) = (0 : Int32)))), .val (.int (bz ((F6 (v14 - (1 : Int64)) v7) = (0 : Int32))))] [(.int (bz ((F6 v34 v7) = (0 : Int32))))])) t := fun t k => by
    by_cases hb50 : ((F6 v34 v7) = (0 : Int32))
    · refine XS.ifNo X43.here hx rfl (hb hby at_179) rfl (ow_beq_f hb50) ?_
      rw [bz_congr (P := ((((F6 v34 v7) = (0 : Int32))) ∧ (((F6 (v14 - (1 : Int64)) v7) = (0 : Int32))))) (Q := (((F6 (v14 - (1 : Int64)) v7) = (0 : Int32)))) (and_iff_right hb50)] at k
      show Steps p.tables e below (T43.setTop (mkF m 182 #[.val (.long px), .second, .val (.long dx), .second, .val (.long tx), .second, .val (.long lx), .second, .val (.int sx), .val (.long v1), .second, .val (.long v7), .second, .val (.long v8), .second, .val (.long v10), .second, .val (.long v12), .second, .val (.long v14), .second, .val (.ref b16), .val (.int (F6 v7 v7)), .val (.int (bz ((F6 lx v7) = (bz (lx = v7))))), .val (.long v34), .second, .val (.int (bz ((F6 v34 v7) = (0 : Int32)))), .val (.int (bz ((F6 (v14 - (1 : Int64)) v7) = (0 : Int32))))] [])) _
      refine XS.iload X43.here hx rfl (hb hby at_182) rfl ?_
      exact tl52 t k
    · refine XS.ifYes X43.here hx rfl (pc0 := 179) (pc' := 191) rfl (hb hby at_179) rfl (ow_beq_t hb50) (by decide) (by decide) ?_
      rw [bz_zero (P := ((((F6 v34 v7) = (0 : Int32))) ∧ (((F6 (v14 - (1 : Int64)) v7) = (0 : Int32))))) (iff_false_intro (fun q => hb50 q.1))] at k
      show Steps p.tables e below (T43.setTop (mkF m 191 #[.val (.long px), .second, .val (.long dx), .second, .val (.long tx), .second, .val (.long lx), .second, .val (.int sx), .val (.long v1), .second, .val (.long v7), .second, .val (.long v8), .second, .val (.long v10), .second, .val (.long v12), .second, .val (.long v14), .second, .val (.ref b16), .val (.int (F6 v7 v7)), .val (.int (bz ((F6 lx v7) = (bz (lx = v7))))), .val (.long v34), .second, .val (.int (bz ((F6 v34 v7) = (0 : Int32)))), .val (.int (bz ((F6 (v14 - (1 : Int64)) v7) = (0 : Int32))))] [])) _
      refine XS.iconst X43.here hx rfl (hb hby at_191) ?_
      exact k
  have tl54 : ∀ t, Steps p.tables e below (T43.setTop (mkF m 192 #[.val (.long px), .second, .val (.long dx), .second, .val (.long tx), .second, .val (.long lx), .second, .val (.int sx), .val (.long v1), .second, .val (.long v7), .second, .val (.long v8), .second, .val (.long v10), .second, .val (.long v12), .second, .val (.long v14), .second, .val (.ref b16), .val (.int (F6 v7 v7)), .val (.int (bz ((F6 lx v7) = (bz (lx = v7))))), .val (.long v34), .second, .val (.int (bz ((F6 v34 v7) = (0 : Int32)))), .val (.int (bz ((F6 (v14 - (1 : Int64)) v7) = (0 : Int32))))] [(.int (bz ((((F6 lx v7) = (bz (lx = v7)))) ∧ ((((F6 v34 v7) = (0 : Int32))) ∧ (((F6 (v14 - (1 : Int64)) v7) = (0 : Int32)))))))])) t → Steps p.tables e below (T43.setTop (mkF m 174 #[.val (.long px), .second, .val (.long dx), .second, .val (.long tx), .second, .val (.long lx), .second, .val (.int sx), .val (.long v1), .second, .val (.long v7), .second, .val (.long v8), .second, .val (.long v10), .second, .val (.long v12), .second, .val (.long v14), .second, .val (.ref b16), .val (.int (F6 v7 v7)), .val (.int (bz ((F6 lx v7) = (bz (lx = v7))))), .val (.long v34), .second, .val (.int (bz ((F6 v34 v7) = (0 : Int32)))), .val (.int (bz ((F6 (v14 - (1 : Int64)) v7) = (0 : Int32))))] [(.int (bz ((F6 lx v7) = (bz (lx = v7)))))])) t := fun t k => by
    by_cases hb49 : ((F6 lx v7) = (bz (lx = v7)))
    · refine XS.ifNo X43.here hx rfl (hb hby at_174) rfl (ow_beq_f hb49) ?_
      rw [bz_congr (P := ((((F6 lx v7) = (bz (lx = v7)))) ∧ ((((F6 v34 v7) = (0 : Int32))) ∧ (((F6 (v14 - (1 : Int64)) v7) = (0 : Int32)))))) (Q := ((((F6 v34 v7) = (0 : Int32))) ∧ (((F6 (v14 - (1 : Int64)) v7) = (0 : Int32))))) (and_iff_right hb49)] at k
      show Steps p.tables e below (T43.setTop (mkF m 177 #[.val (.long px), .second, .val (.long dx), .second, .val (.long tx), .second, .val (.long lx), .second, .val (.int sx), .val (.long v1), .second, .val (.long v7), .second, .val (.long v8), .second, .val (.long v10), .second, .val (.long v12), .second, .val (.long v14), .second, .val (.ref b16), .val (.int (F6 v7 v7)), .val (.int (bz ((F6 lx v7) = (bz (lx = v7))))), .val (.long v34), .second, .val (.int (bz ((F6 v34 v7) = (0 : Int32)))), .val (.int (bz ((F6 (v14 - (1 : Int64)) v7) = (0 : Int32))))] [])) _
      refine XS.iload X43.here hx rfl (hb hby at_177) rfl ?_
      exact tl53 t k
    · refine XS.ifYes X43.here hx rfl (pc0 := 174) (pc' := 191) rfl (hb hby at_174) rfl (ow_beq_t hb49) (by decide) (by decide) ?_
      rw [bz_zero (P := ((((F6 lx v7) = (bz (lx = v7)))) ∧ ((((F6 v34 v7) = (0 : Int32))) ∧ (((F6 (v14 - (1 : Int64)) v7) = (0 : Int32)))))) (iff_false_intro (fun q => hb49 q.1))] at k
      show Steps p.tables e below (T43.setTop (mkF m 191 #[.val (.long px), .second, .val (.long dx), .second, .val (.long tx), .second, .val (.long lx), .second, .val (.int sx), .val (.long v1), .second, .val (.long v7), .second, .val (.long v8), .second, .val (.long v10), .second, .val (.long v12), .second, .val (.long v14), .second, .val (.ref b16), .val (.int (F6 v7 v7)), .val (.int (bz ((F6 lx v7) = (bz (lx = v7))))), .val (.long v34), .second, .val (.int (bz ((F6 v34 v7) = (0 : Int32)))), .val (.int (bz ((F6 (v14 - (1 : Int64)) v7) = (0 : Int32))))] [])) _
      refine XS.iconst X43.here hx rfl (hb hby at_191) ?_
      exact k
  have tl55 : ∀ t, Steps p.tables e below (T43.setTop (mkF m 192 #[.val (.long px), .second, .val (.long dx), .second, .val (.long tx), .second, .val (.long lx), .second, .val (.int sx), .val (.long v1), .second, .val (.long v7), .second, .val (.long v8), .second, .val (.long v10), .second, .val (.long v12), .second, .val (.long v14), .second, .val (.ref b16), .val (.int (F6 v7 v7)), .val (.int (bz ((F6 lx v7) = (bz (lx = v7))))), .val (.long v34), .second, .val (.int (bz ((F6 v34 v7) = (0 : Int32)))), .val (.int (bz ((F6 (v14 - (1 : Int64)) v7) = (0 : Int32))))] [(.int (bz ((¬ ((F6 v7 v7) = (0 : Int32))) ∧ ((((F6 lx v7) = (bz (lx = v7)))) ∧ ((((F6 v34 v7) = (0 : Int32))) ∧ (((F6 (v14 - (1 : Int64)) v7) = (0 : Int32))))))))])) t → Steps p.tables e below (T43.setTop (mkF m 169 #[.val (.long px), .second, .val (.long dx), .second, .val (.long tx), .second, .val (.long lx), .second, .val (.int sx), .val (.long v1), .second, .val (.long v7), .second, .val (.long v8), .second, .val (.long v10), .second, .val (.long v12), .second, .val (.long v14), .second, .val (.ref b16), .val (.int (F6 v7 v7)), .val (.int (bz ((F6 lx v7) = (bz (lx = v7))))), .val (.long v34), .second, .val (.int (bz ((F6 v34 v7) = (0 : Int32)))), .val (.int (bz ((F6 (v14 - (1 : Int64)) v7) = (0 : Int32))))] [(.int (F6 v7 v7))])) t := fun t k => by
    by_cases hb48 : (F6 v7 v7) = (0 : Int32)
    · refine XS.ifYes X43.here hx rfl (pc0 := 169) (pc' := 191) rfl (hb hby at_169) rfl ((if0 _ _).trans (teq hb48).1) (by decide) (by decide) ?_
      rw [bz_zero (P := ((¬ ((F6 v7 v7) = (0 : Int32))) ∧ ((((F6 lx v7) = (bz (lx = v7)))) ∧ ((((F6 v34 v7) = (0 : Int32))) ∧ (((F6 (v14 - (1 : Int64)) v7) = (0 : Int32))))))) (iff_false_intro (fun q => q.1 hb48))] at k
      show Steps p.tables e below (T43.setTop (mkF m 191 #[.val (.long px), .second, .val (.long dx), .second, .val (.long tx), .second, .val (.long lx), .second, .val (.int sx), .val (.long v1), .second, .val (.long v7), .second, .val (.long v8), .second, .val (.long v10), .second, .val (.long v12), .second, .val (.long v14), .second, .val (.ref b16), .val (.int (F6 v7 v7)), .val (.int (bz ((F6 lx v7) = (bz (lx = v7))))), .val (.long v34), .second, .val (.int (bz ((F6 v34 v7) = (0 : Int32)))), .val (.int (bz ((F6 (v14 - (1 : Int64)) v7) = (0 : Int32))))] [])) _
      refine XS.iconst X43.here hx rfl (hb hby at_191) ?_
      exact k
    · refine XS.ifNo X43.here hx rfl (hb hby at_169) rfl ((if0 _ _).trans (feq hb48).1) ?_
      rw [bz_congr (P := ((¬ ((F6 v7 v7) = (0 : Int32))) ∧ ((((F6 lx v7) = (bz (lx = v7)))) ∧ ((((F6 v34 v7) = (0 : Int32))) ∧ (((F6 (v14 - (1 : Int64)) v7) = (0 : Int32))))))) (Q := ((((F6 lx v7) = (bz (lx = v7)))) ∧ ((((F6 v34 v7) = (0 : Int32))) ∧ (((F6 (v14 - (1 : Int64)) v7) = (0 : Int32)))))) (and_iff_right hb48)] at k
      show Steps p.tables e below (T43.setTop (mkF m 172 #[.val (.long px), .second, .val (.long dx), .second, .val (.long tx), .second, .val (.long lx), .second, .val (.int sx), .val (.long v1), .second, .val (.long v7), .second, .val (.long v8), .second, .val (.long v10), .second, .val (.long v12), .second, .val (.long v14), .second, .val (.ref b16), .val (.int (F6 v7 v7)), .val (.int (bz ((F6 lx v7) = (bz (lx = v7))))), .val (.long v34), .second, .val (.int (bz ((F6 v34 v7) = (0 : Int32)))), .val (.int (bz ((F6 (v14 - (1 : Int64)) v7) = (0 : Int32))))] [])) _
      refine XS.iload X43.here hx rfl (hb hby at_172) rfl ?_
      exact tl54 t k
  have pre57 : ∀ t, Steps p.tables e below (T43.setTop (mkF m 192 #[.val (.long px), .second, .val (.long dx), .second, .val (.long tx), .second, .val (.long lx), .second, .val (.int sx), .val (.long v1), .second, .val (.long v7), .second, .val (.long v8), .second, .val (.long v10), .second, .val (.long v12), .second, .val (.long v14), .second, .val (.ref b16), .val (.int (F6 v7 v7)), .val (.int (bz ((F6 lx v7) = (bz (lx = v7))))), .val (.long v34), .second, .val (.int (bz ((F6 v34 v7) = (0 : Int32)))), .val (.int (bz ((F6 (v14 - (1 : Int64)) v7) = (0 : Int32))))] [(.int (bz ((¬ ((F6 v7 v7) = (0 : Int32))) ∧ ((((F6 lx v7) = (bz (lx = v7)))) ∧ ((((F6 v34 v7) = (0 : Int32))) ∧ (((F6 (v14 - (1 : Int64)) v7) = (0 : Int32))))))))])) t → Steps p.tables e below (s₁.setTop (entryFrame m #[(.long px), (.long dx), (.long tx), (.long lx), (.int sx)] maxLocals)) t := fun t k => pre56 t (by
    exact tl55 t k)
  obtain ⟨fs, hr, hrun, hended, hW, hsame⟩ := X43.leave (v := some (.int (nar .boolean (bz ((¬ ((F6 v7 v7) = (0 : Int32))) ∧ ((((F6 lx v7) = (bz (lx = v7)))) ∧ ((((F6 v34 v7) = (0 : Int32))) ∧ (((F6 (v14 - (1 : Int64)) v7) = (0 : Int32)))))))))) (fun h => by rw [Bd.returns] at h; cases h)
  refine ⟨_, _, pre57 _ ?_, hrun, hended, _, _, rfl, ?_, ⟨_, rfl⟩, hW, hsame.mono (by decide) (by decide)⟩
  · show Steps p.tables e below (T43.setTop (mkF m 192 #[.val (.long px), .second, .val (.long dx), .second, .val (.long tx), .second, .val (.long lx), .second, .val (.int sx), .val (.long v1), .second, .val (.long v7), .second, .val (.long v8), .second, .val (.long v10), .second, .val (.long v12), .second, .val (.long v14), .second, .val (.ref b16), .val (.int (F6 v7 v7)), .val (.int (bz ((F6 lx v7) = (bz (lx = v7))))), .val (.long v34), .second, .val (.int (bz ((F6 v34 v7) = (0 : Int32)))), .val (.int (bz ((F6 (v14 - (1 : Int64)) v7) = (0 : Int32))))] [(.int (bz ((¬ ((F6 v7 v7) = (0 : Int32))) ∧ ((((F6 lx v7) = (bz (lx = v7)))) ∧ ((((F6 v34 v7) = (0 : Int32))) ∧ (((F6 (v14 - (1 : Int64)) v7) = (0 : Int32))))))))])) _
    exact retN X43 hx (t := .boolean) Bd.returns (by simp) (hb hby at_192) hr
  · show Q0 Z px dx tx lx sx n0 [] _ T43.heap _
    have R58 : Rep Z n0 T43.heap ([]) := (R43.front 0 rfl rfl : Rep Z n0 T43.heap ((b16, Obj "com/example/regent/regent/tree/Transaction$NewEpoch" [("zxid", "J", (.long v14)), ("time", "J", (.long tx)), ("previous", "J", (.long v7))]) :: [])).tail
    exact ⟨(by subst hv34; exact ow_fin ⟨by rw [F6, bz_t rfl]; decide, rfl, own_xor _ _, own_f hz hlt⟩), N43, R58⟩
set_option maxRecDepth 65536 in
set_option maxHeartbeats 40000000 in
theorem comes_1 {Post : Tables → Env → Array Value → State → Outcome → State → Prop} (hpost : ∀ tb e args s v u, (limb_1_1.after args s (.returned v) u = true ∧ limb_1_2.after args s (.returned v) u = true ∧ True) → FrameEnd s (.returned v) u (Jvm.fieldLocs frame_1_writes args s ++ Jvm.arrayLocs frame_1_arrays args s ++ Jvm.staticLocs frame_1_statics s) 16 128 → Post tb e args s (.returned v) u) :
    ArmFor flags0 classFile x code maxLocals ret World_1 tables_1 room_1 Calls_1 rest_1 Pre_1 Post := by
  intro l hfl _ _ p e ha hc hk s m args below hf hA hF happ hP
  obtain ⟨hcalls, hrest, hpre⟩ := hP
  obtain ⟨-, -, -, hnamed, -, -, -, hat⟩ := (Spec.applies_iff hf).mp happ
  obtain ⟨hg, hn⟩ := and_e (Cond.before_iff.mp (show (Jvm.Cond.and given_1 narrow_1).before args s = true from hpre))
  obtain ⟨hct, hg⟩ := and_e hg
  obtain ⟨hg0, hg⟩ := and_e hg
  obtain ⟨hg1, hg⟩ := and_e hg
  obtain ⟨hg2, hg⟩ := and_e hg
  obtain ⟨hg3, hg⟩ := and_e hg
  have hg4 := hg
  obtain ⟨w0, w1, w2, w3, w4, rfl⟩ : ∃ w0 w1 w2 w3 w4 : Value, args = #[w0, w1, w2, w3, w4] := by
    have hs : args.size = 5 := by simpa [Cond.value, given_1] using hct
    obtain ⟨L⟩ := args
    match L, hs with
    | [w0, w1, w2, w3, w4], _ => exact ⟨w0, w1, w2, w3, w4, rfl⟩
  have hw := fun d (hd : d ∈ tables_1) => atoms_spec (ws := Jvm.Cond.code x code maxLocals ret :: tables_1) hat d (List.mem_cons_of_mem _ hd)
  obtain ⟨i0, ei0⟩ := isL_v hg0
  obtain rfl : w0 = (.long i0) := Option.some.inj ei0
  obtain ⟨i1, ei1⟩ := isL_v hg1
  obtain rfl : w1 = (.long i1) := Option.some.inj ei1
  obtain ⟨i2, ei2⟩ := isL_v hg2
  obtain rfl : w2 = (.long i2) := Option.some.inj ei2
  obtain ⟨i3, ei3⟩ := isL_v hg3
  obtain rfl : w3 = (.long i3) := Option.some.inj ei3
  obtain ⟨i4, ei4⟩ := is_v hg4
  obtain rfl : w4 = (.int i4) := Option.some.inj ei4
  obtain ⟨n, o, h1, h2, h3, _, L, rfl, ⟨rfl, N, -⟩, hq⟩ := rm0 l s _ hw tables_1 i0 i1 i2 i3 i4 s.heap s.heap.size (Rep.nil _) p e ha hc hk s m _ below hf ((Spec.applies_iff_loose hf).mp happ).1 ⟨rfl, State.Warmed39.refl s, rfl⟩ trivial
  refine ⟨n, _, h1, h2, h3, hpost _ _ _ _ _ _ ⟨Cond.after_iff.mpr rfl, Cond.after_iff.mpr (eq_i res_at (Term.int_eval (1)) rfl), trivial⟩ ⟨hq.1, hq.2.1, (hq.2.2.sift fun y hy => Or.inr (N y hy)).mono (by decide) (by decide)⟩⟩
theorem main_1_1 : Claimed_1_1 := comes_1 fun _ _ _ _ _ _ h hF => ⟨h.1, hF⟩
theorem main_1_2 : Claimed_1_2 := comes_1 fun _ _ _ _ _ _ h hF => ⟨h.2.1, hF⟩
end Jvm.Pilot.@@N@@
namespace Jvm.Pilot.@@N@@
open Jvm Jvm.ClassFile Sem Op Lib Jvm.Free Jvm.Stand Jvm.Pilot.@@N@@.Jvm.D
/-! MADE BY PROGRAM (witnessworld.py) out of the Statement's table words and the real class files: 12 classes; the members and pool entries that the words name. The judged class is class 1, her method 1. -/
namespace start1
open Jvm.ClassFile
def u (s : String) : CpInfo := .utf8 (stringToUtf16 s)
/-- a pool by its gaps: so many unusable entries, then the entry; so many at the end -/
def gap : Nat → List CpInfo → List CpInfo
  | 0, r => r
  | n + 1, r => .unusable :: gap n r
def poolList (es : List (Nat × CpInfo)) (last : Nat) : List CpInfo := es.foldr (fun e r => gap e.1 (e.2 :: r)) (gap last [])
def pool (es : List (Nat × CpInfo)) (last : Nat) : Array CpInfo := ⟨poolList es last⟩
def fileOf (pool : Array CpInfo) (this : Nat) (attrs : Array Attribute := #[]) (ms : Array MethodInfo := #[]) (fl : Nat := 33) (sup : Nat := 0) (ifs : Array Nat := #[]) (fds : Array FieldInfo := #[]) : ClassFile where
  minorVersion := 0
  majorVersion := 65
  constantPool := pool
  accessFlags := fl
  thisClass := this
  superClass := sup
  interfaces := ifs
  fields := fds
  methods := ms
  attributes := attrs
def plain (name : String) (sup : Option ClassId) : Class where
  name := name
  kind := .ordinary
  loader := none
  accessFlags := 33
  super := sup
  interfaces := #[]
  cf := none
  fields := #[]
  methods := #[]
  instanceTypes := #[]
  staticTypes := #[]
  resolved := #[]
  callSites := []
  init := .initialized
  statics := none
  mirror := none

def pool0 : Array CpInfo := pool [(5, u "<init>"), (0, u "()V"), (1, .class_ 10), (1, u "java/lang/Object")] 113

def k0c0 : Code := { maxStack := 0, maxLocals := 1, code := object_method_1_code, exceptionTable := #[], attributes := #[] }
def k0m0 : Method := { name := "<init>", desc := "()V", sig := { parameters := [], returnType := none }, accessFlags := 1, code := some k0c0 }
/-- java/lang/Object -/
def k0 : Class := { plain "java/lang/Object" none with
  accessFlags := 33
  interfaces := #[]
  cf := some (fileOf pool0 8 #[] #[{ accessFlags := 1, nameIndex := 5, descriptorIndex := 6, attributes := #[] }] 33 0 #[] #[])
  fields := #[]
  methods := #[k0m0]
  instanceTypes := #[]
  staticTypes := #[]
  resolved := Array.replicate 124 none
  statics := none }

def pool1 : Array CpInfo := pool [(2, .class_ 4), (1, u "java/lang/Object"), (0, u "<init>"), (0, u "()V"), (0, .long 4294967295), (1, .long 9223372036854775807), (1, .class_ 12), (0, u "com/example/regent/regent/tree/Transaction$NewEpoch"), (0, .methodref 11 14), (0, .nameAndType 5 15), (0, u "(JJJ)V"), (0, .methodref 11 17), (0, .nameAndType 18 19), (0, u "follows"), (0, u "(J)Z"), (0, .class_ 21), (0, u "com/example/regent/regent/tree/NewEpochFollowsPinLaw"), (2, u "law"), (0, u "(JJJJI)Z")] 7

def k1m0 : Method := { name := "<init>", desc := "()V", sig := { parameters := [], returnType := none }, accessFlags := 1, code := none }
def k1c1 : Code := { maxStack := 8, maxLocals := 28, code := code, exceptionTable := #[], attributes := #[] }
def k1m1 : Method := { name := "law", desc := "(JJJJI)Z", sig := { parameters := [.long, .long, .long, .long, .int], returnType := some .boolean }, accessFlags := 9, code := some k1c1 }
/-- com/example/regent/regent/tree/NewEpochFollowsPinLaw -/
def k1 : Class := { plain "com/example/regent/regent/tree/NewEpochFollowsPinLaw" (some 0) with
  accessFlags := 49
  interfaces := #[]
  cf := some (fileOf pool1 20 #[] #[{ accessFlags := 1, nameIndex := 5, descriptorIndex := 6, attributes := #[] }, { accessFlags := 9, nameIndex := 24, descriptorIndex := 25, attributes := #[] }] 49 2 #[] #[])
  fields := #[]
  methods := #[k1m0, k1m1]
  instanceTypes := #[]
  staticTypes := #[]
  resolved := Array.replicate 33 none
  statics := none }

def pool2 : Array CpInfo := pool [(1, .methodref 2 3), (0, .class_ 4), (0, .nameAndType 5 6), (0, u "java/lang/Object"), (0, u "<init>"), (0, u "()V"), (0, .class_ 8), (0, u "java/lang/Record")] 13

def k2c0 : Code := { maxStack := 1, maxLocals := 1, code := jdk_30_method_1_code, exceptionTable := #[], attributes := #[] }
def k2m0 : Method := { name := "<init>", desc := "()V", sig := { parameters := [], returnType := none }, accessFlags := 4, code := some k2c0 }
/-- java/lang/Record -/
def k2 : Class := { plain "java/lang/Record" (some 0) with
  accessFlags := 1057
  interfaces := #[]
  cf := some (fileOf pool2 7 #[] #[{ accessFlags := 4, nameIndex := 5, descriptorIndex := 6, attributes := #[] }] 1057 2 #[] #[])
  fields := #[]
  methods := #[k2m0]
  instanceTypes := #[]
  staticTypes := #[]
  resolved := Array.replicate 22 none
  statics := none }

def pool3 : Array CpInfo := pool [(2, .class_ 4), (1, u "com/example/regent/regent/tree/Transaction"), (47, .class_ 53), (0, u "com/example/regent/regent/tree/Transaction$Check"), (20, .class_ 75), (0, u "com/example/regent/regent/tree/Transaction$Delete"), (7, .class_ 84), (0, u "com/example/regent/regent/tree/Transaction$SetData"), (11, .class_ 97), (0, u "com/example/regent/regent/tree/Transaction$CloseSession"), (23, .class_ 122), (0, u "com/example/regent/regent/tree/Transaction$Create"), (3, .class_ 127), (0, u "com/example/regent/regent/tree/Transaction$NewEpoch"), (9, .class_ 138), (0, u "com/example/regent/regent/tree/Transaction$CreateSession"), (22, .class_ 162), (0, u "com/example/regent/regent/tree/Transaction$Multi"), (8, .class_ 172), (0, u "java/lang/Object"), (0, u "NEW_EPOCH"), (0, u "I")] 49

/-- com/example/regent/regent/tree/Transaction -/
def k3 : Class := { plain "com/example/regent/regent/tree/Transaction" (some 0) with
  accessFlags := 1537
  interfaces := #[]
  cf := some (fileOf pool3 2 #[.nestMembers #[161, 52, 83, 96, 137, 74, 121, 126]] #[] 1537 171 #[] #[{ accessFlags := 25, nameIndex := 173, descriptorIndex := 174, attributes := #[] }])
  fields := #[{ name := "NEW_EPOCH", type := .int, accessFlags := 25, slot := 0, constantValue := 0 }]
  methods := #[]
  instanceTypes := #[]
  staticTypes := #[.int]
  resolved := Array.replicate 224 none
  statics := none }

def pool4 : Array CpInfo := pool [(1, .methodref 2 3), (0, .class_ 4), (0, .nameAndType 5 6), (0, u "java/lang/Record"), (0, u "<init>"), (0, u "()V"), (0, .methodref 8 9), (0, .class_ 10), (0, .nameAndType 11 12), (0, u "com/example/regent/regent/tree/Zxid"), (0, u "counter"), (0, u "(J)J"), (0, .methodref 8 14), (0, .nameAndType 15 12), (0, u "epoch"), (9, .fieldref 26 27), (0, .class_ 28), (0, .nameAndType 29 30), (0, u "com/example/regent/regent/tree/Transaction$NewEpoch"), (0, u "zxid"), (0, u "J"), (0, .fieldref 26 32), (0, .nameAndType 33 30), (0, u "time"), (0, .fieldref 26 35), (0, .nameAndType 36 30), (0, u "previous"), (0, .class_ 38), (0, u "com/example/regent/regent/tree/Transaction"), (18, u "(JJJ)V"), (6, u "follows"), (0, u "(J)Z")] 37

def k4c0 : Code := { maxStack := 6, maxLocals := 7, code := prog_92_method_1_code, exceptionTable := #[], attributes := #[] }
def k4m0 : Method := { name := "<init>", desc := "(JJJ)V", sig := { parameters := [.long, .long, .long], returnType := none }, accessFlags := 1, code := some k4c0 }
def k4c1 : Code := { maxStack := 4, maxLocals := 3, code := prog_92_method_3_code, exceptionTable := #[], attributes := #[] }
def k4m1 : Method := { name := "follows", desc := "(J)Z", sig := { parameters := [.long], returnType := some .boolean }, accessFlags := 1, code := some k4c1 }
/-- com/example/regent/regent/tree/Transaction$NewEpoch -/
def k4 : Class := { plain "com/example/regent/regent/tree/Transaction$NewEpoch" (some 2) with
  accessFlags := 49
  interfaces := #[3]
  cf := some (fileOf pool4 26 #[.nestHost 37] #[{ accessFlags := 1, nameIndex := 5, descriptorIndex := 57, attributes := #[] }, { accessFlags := 1, nameIndex := 64, descriptorIndex := 65, attributes := #[] }] 49 2 #[37] #[{ accessFlags := 18, nameIndex := 29, descriptorIndex := 30, attributes := #[] }, { accessFlags := 18, nameIndex := 33, descriptorIndex := 30, attributes := #[] }, { accessFlags := 18, nameIndex := 36, descriptorIndex := 30, attributes := #[] }])
  fields := #[{ name := "zxid", type := .long, accessFlags := 18, slot := 0, constantValue := 0 }, { name := "time", type := .long, accessFlags := 18, slot := 1, constantValue := 0 }, { name := "previous", type := .long, accessFlags := 18, slot := 2, constantValue := 0 }]
  methods := #[k4m0, k4m1]
  instanceTypes := #[.long, .long, .long]
  staticTypes := #[]
  resolved := Array.replicate 103 none
  statics := none }

def pool5 : Array CpInfo := pool [(4, .class_ 6), (1, u "java/lang/Object"), (0, u "<init>"), (0, u "()V"), (0, .class_ 10), (0, u "com/example/regent/regent/tree/Zxid"), (6, .long 4294967295), (12, u "counter"), (0, u "(J)J"), (2, u "epoch"), (4, u "MAX_EPOCH"), (0, u "J"), (1, u "MAX_COUNTER")] 21

def k5m0 : Method := { name := "<init>", desc := "()V", sig := { parameters := [], returnType := none }, accessFlags := 2, code := none }
def k5c1 : Code := { maxStack := 3, maxLocals := 2, code := prog_95_method_4_code, exceptionTable := #[], attributes := #[] }
def k5m1 : Method := { name := "epoch", desc := "(J)J", sig := { parameters := [.long], returnType := some .long }, accessFlags := 9, code := some k5c1 }
def k5c2 : Code := { maxStack := 4, maxLocals := 2, code := prog_95_method_5_code, exceptionTable := #[], attributes := #[] }
def k5m2 : Method := { name := "counter", desc := "(J)J", sig := { parameters := [.long], returnType := some .long }, accessFlags := 9, code := some k5c2 }
/-- com/example/regent/regent/tree/Zxid -/
def k5 : Class := { plain "com/example/regent/regent/tree/Zxid" (some 0) with
  accessFlags := 49
  interfaces := #[]
  cf := some (fileOf pool5 9 #[] #[{ accessFlags := 2, nameIndex := 7, descriptorIndex := 8, attributes := #[] }, { accessFlags := 9, nameIndex := 34, descriptorIndex := 31, attributes := #[] }, { accessFlags := 9, nameIndex := 30, descriptorIndex := 31, attributes := #[] }] 49 4 #[] #[{ accessFlags := 25, nameIndex := 39, descriptorIndex := 40, attributes := #[] }, { accessFlags := 25, nameIndex := 42, descriptorIndex := 40, attributes := #[] }])
  fields := #[{ name := "MAX_EPOCH", type := .long, accessFlags := 25, slot := 0, constantValue := 0 }, { name := "MAX_COUNTER", type := .long, accessFlags := 25, slot := 1, constantValue := 0 }]
  methods := #[k5m0, k5m1, k5m2]
  instanceTypes := #[]
  staticTypes := #[.long, .long]
  resolved := Array.replicate 64 none
  statics := none }

def pool6 : Array CpInfo := pool [(1, u "java/lang/Cloneable"), (0, .class_ 1), (0, u "java/lang/Object"), (0, .class_ 3)] 3

/-- java/lang/Cloneable -/
def k6 : Class := { plain "java/lang/Cloneable" (some 0) with
  accessFlags := 1537
  interfaces := #[]
  cf := some (fileOf pool6 2 #[] #[] 1537 4 #[] #[])
  fields := #[]
  methods := #[]
  instanceTypes := #[]
  staticTypes := #[]
  resolved := Array.replicate 8 none
  statics := none }

def pool7 : Array CpInfo := pool [(1, u "java/io/Serializable"), (0, .class_ 1), (0, u "java/lang/Object"), (0, .class_ 3)] 3

/-- java/io/Serializable -/
def k7 : Class := { plain "java/io/Serializable" (some 0) with
  accessFlags := 1537
  interfaces := #[]
  cf := some (fileOf pool7 2 #[] #[] 1537 4 #[] #[])
  fields := #[]
  methods := #[]
  instanceTypes := #[]
  staticTypes := #[]
  resolved := Array.replicate 8 none
  statics := none }

/-- the primitive byte -/
def k8 : Class := { plain "byte" none with kind := .primitive 'B', accessFlags := 0x411 }
/-- [B -/
def k9 : Class := { plain "[B" (some 0) with kind := .array 8 .byte, interfaces := #[6, 7], accessFlags := 1041 }

/-- the primitive int -/
def k10 : Class := { plain "int" none with kind := .primitive 'I', accessFlags := 0x411 }
/-- [I -/
def k11 : Class := { plain "[I" (some 0) with kind := .array 10 .int, interfaces := #[6, 7], accessFlags := 1041 }

def heap : Heap := #[]
def classes : Array Class := #[k0, k1, k2, k3, k4, k5, k6, k7, k8, k9, k10, k11]
def interned : List (Array UInt16 × Addr) := []
def slotsUsed : Nat := 0
def theMethod : MethodId := ⟨1, 1⟩
def args0 : Array Value := #[.long 5, .long 7, .long 1, .long 2, .int 3]
def aboutOver (below : List Frame) : State where
  vm := { classes := classes, interned := interned.toArray }
  heap := heap
  slotsUsed := slotsUsed
  threads := #[{ frames := .invoking theMethod args0 :: below }]
def below0 : List Frame := [.native { method := ⟨0, 0⟩, args := #[] }]
def about1 : State := aboutOver below0
def p0 : Program := .bare "" "" ""
def e0 : Env := launch0.env 0 0 0
theorem w_frames : about1.frames = Frame.invoking theMethod args0 :: below0 := rfl
set_option maxRecDepth 65536 in
theorem w_args : argsFit about1.vm theMethod args0 = true := by decide +kernel
set_option maxRecDepth 65536 in
theorem w_heap : heapFits about1 = true := by decide +kernel
set_option maxRecDepth 65536 in
theorem w_runnable : about1.curStatus? = some .runnable := by decide +kernel
set_option maxRecDepth 65536 in
theorem w_alone : about1.alone = true := by decide +kernel
set_option maxRecDepth 65536 in
theorem w_named : about1.methodNamed? x = some theMethod := by decide +kernel
set_option maxRecDepth 65536 in
theorem w_hears : about1.hears theMethod below0 = true := by decide +kernel
set_option maxRecDepth 65536 in
theorem w_ripe : about1.ripe theMethod args0 below0 = true := by decide +kernel
theorem w_running : about1.status = .running := rfl
set_option maxRecDepth 65536 in
theorem w_room : about1.hasRoom e0.platform room_1 = true :=
  launch0.hasRoom_least _ room_1 (by decide +kernel) (by decide +kernel) (by decide +kernel) (by decide +kernel) (by decide +kernel) (by decide +kernel)
theorem allAtoms_all (ts : List Jvm.Cond) (a : Array Jvm.Value) (st : Jvm.State) : (allAtoms ts).before a st = ts.all (fun c => c.before a st) := by
  induction ts with
  | nil => rfl
  | cons c t ih =>
    show (Jvm.Cond.and c (allAtoms t)).before a st = _
    rw [Jvm.Cond.before_and, ih, List.all_cons]
def words1 : List Jvm.Cond := Jvm.Cond.code x code maxLocals ret :: tables_1
/-- a 'code' word, met by the world's own term for the bytes: nothing is compared byte by byte -/
theorem code_word {y : MethodName} {bytes : ByteArray} {mx : Nat} {rt : Option FieldType} {a : Array Value} {s : State} {m : MethodId} {meth : Method} {c : Code} (h1 : s.methodNamed? y = some m) (h2 : s.vm.method? m = some meth) (h3 : meth.code = some c) (h4 : c.code = bytes)
    (h5 : (c.maxLocals == mx && c.exceptionTable.isEmpty && decide (c.maxStack ≤ mostOperands) && decide (meth.sig.returnType = rt) && !meth.locks && decide (parseMethodDescriptor y.desc = some meth.sig)) = true) : (Jvm.Cond.code y bytes mx rt).before a s = true := by
  simp only [Bool.and_eq_true, beq_iff_eq, Bool.not_eq_true', decide_eq_true_eq] at h5
  obtain ⟨⟨⟨⟨⟨g1, g2⟩, g3⟩, g4⟩, g5⟩, g6⟩ := h5
  simp [Cond.before, Cond.holds, Cond.value, h1, h2, h3, h4, g1, g2, g3, g4, g5, g6]
def isCode : Jvm.Cond → Bool
  | .code _ _ _ _ => true
  | _ => false
theorem all_split {L : List Jvm.Cond} {P : Jvm.Cond → Bool} (h1 : L.all (fun c => isCode c || P c) = true) (h2 : ∀ c ∈ L.filter isCode, P c = true) : L.all P = true := by
  refine List.all_eq_true.mpr fun c hc => ?_
  have h := List.all_eq_true.mp h1 c hc
  rcases Bool.eq_false_or_eq_true (isCode c) with hi | hi
  · exact h2 c (List.mem_filter.mpr ⟨hc, hi⟩)
  · simpa [hi] using h
set_option maxRecDepth 65536 in
theorem w_c0 : (Jvm.Cond.code x code maxLocals ret).before args0 about1 = true := code_word (m := ⟨1, 1⟩) (meth := k1m1) (c := k1c1) (by decide +kernel) rfl rfl rfl (by decide +kernel)
set_option maxRecDepth 65536 in
theorem w_c1 : (Jvm.Cond.code ({ cls := "com/example/regent/regent/tree/Transaction$NewEpoch", name := "<init>", desc := "(JJJ)V" } : Jvm.MethodName) prog_92_method_1_code (7 : Nat) (Option.none : Option Jvm.ClassFile.FieldType)).before args0 about1 = true := code_word (m := ⟨4, 0⟩) (meth := k4m0) (c := k4c0) (by decide +kernel) rfl rfl rfl (by decide +kernel)
set_option maxRecDepth 65536 in
theorem w_c2 : (Jvm.Cond.code ({ cls := "java/lang/Record", name := "<init>", desc := "()V" } : Jvm.MethodName) jdk_30_method_1_code (1 : Nat) (Option.none : Option Jvm.ClassFile.FieldType)).before args0 about1 = true := code_word (m := ⟨2, 0⟩) (meth := k2m0) (c := k2c0) (by decide +kernel) rfl rfl rfl (by decide +kernel)
set_option maxRecDepth 65536 in
theorem w_c3 : (Jvm.Cond.code ({ cls := "java/lang/Object", name := "<init>", desc := "()V" } : Jvm.MethodName) object_method_1_code (1 : Nat) (Option.none : Option Jvm.ClassFile.FieldType)).before args0 about1 = true := code_word (m := ⟨0, 0⟩) (meth := k0m0) (c := k0c0) (by decide +kernel) rfl rfl rfl (by decide +kernel)
set_option maxRecDepth 65536 in
theorem w_c4 : (Jvm.Cond.code ({ cls := "com/example/regent/regent/tree/Zxid", name := "counter", desc := "(J)J" } : Jvm.MethodName) prog_95_method_5_code (2 : Nat) (Option.some Jvm.ClassFile.FieldType.long)).before args0 about1 = true := code_word (m := ⟨5, 2⟩) (meth := k5m2) (c := k5c2) (by decide +kernel) rfl rfl rfl (by decide +kernel)
set_option maxRecDepth 65536 in
theorem w_c5 : (Jvm.Cond.code ({ cls := "com/example/regent/regent/tree/Zxid", name := "epoch", desc := "(J)J" } : Jvm.MethodName) prog_95_method_4_code (2 : Nat) (Option.some Jvm.ClassFile.FieldType.long)).before args0 about1 = true := code_word (m := ⟨5, 1⟩) (meth := k5m1) (c := k5c1) (by decide +kernel) rfl rfl rfl (by decide +kernel)
set_option maxRecDepth 65536 in
theorem w_c6 : (Jvm.Cond.code ({ cls := "com/example/regent/regent/tree/Transaction$NewEpoch", name := "follows", desc := "(J)Z" } : Jvm.MethodName) prog_92_method_3_code (3 : Nat) (Option.some Jvm.ClassFile.FieldType.boolean)).before args0 about1 = true := code_word (m := ⟨4, 1⟩) (meth := k4m1) (c := k4c1) (by decide +kernel) rfl rfl rfl (by decide +kernel)
def codes1 : List Jvm.Cond := [Jvm.Cond.code x code maxLocals ret, Jvm.Cond.code ({ cls := "com/example/regent/regent/tree/Transaction$NewEpoch", name := "<init>", desc := "(JJJ)V" } : Jvm.MethodName) prog_92_method_1_code (7 : Nat) (Option.none : Option Jvm.ClassFile.FieldType), Jvm.Cond.code ({ cls := "java/lang/Record", name := "<init>", desc := "()V" } : Jvm.MethodName) jdk_30_method_1_code (1 : Nat) (Option.none : Option Jvm.ClassFile.FieldType), Jvm.Cond.code ({ cls := "java/lang/Object", name := "<init>", desc := "()V" } : Jvm.MethodName) object_method_1_code (1 : Nat) (Option.none : Option Jvm.ClassFile.FieldType), Jvm.Cond.code ({ cls := "com/example/regent/regent/tree/Zxid", name := "counter", desc := "(J)J" } : Jvm.MethodName) prog_95_method_5_code (2 : Nat) (Option.some Jvm.ClassFile.FieldType.long), Jvm.Cond.code ({ cls := "com/example/regent/regent/tree/Zxid", name := "epoch", desc := "(J)J" } : Jvm.MethodName) prog_95_method_4_code (2 : Nat) (Option.some Jvm.ClassFile.FieldType.long), Jvm.Cond.code ({ cls := "com/example/regent/regent/tree/Transaction$NewEpoch", name := "follows", desc := "(J)Z" } : Jvm.MethodName) prog_92_method_3_code (3 : Nat) (Option.some Jvm.ClassFile.FieldType.boolean)]
set_option maxRecDepth 65536 in
theorem codes_eq : words1.filter isCode = codes1 := rfl
theorem w_codes : ∀ c ∈ words1.filter isCode, c.before args0 about1 = true := by
  rw [codes_eq]
  intro c hc
  simp only [codes1, List.mem_cons, List.not_mem_nil, or_false] at hc
  rcases hc with rfl | rfl | rfl | rfl | rfl | rfl | rfl
  · exact w_c0
  · exact w_c1
  · exact w_c2
  · exact w_c3
  · exact w_c4
  · exact w_c5
  · exact w_c6
set_option maxRecDepth 65536 in
theorem w_t1 : (words1.take 24).all (fun c => isCode c || c.before args0 about1) = true := by decide +kernel
set_option maxRecDepth 65536 in
theorem w_t2 : (words1.drop 24).all (fun c => isCode c || c.before args0 about1) = true := by decide +kernel
theorem w_tables : (allAtoms (Jvm.Cond.code x code maxLocals ret :: tables_1)).before args0 about1 = true := by
  rw [allAtoms_all]
  show words1.all (fun c => c.before args0 about1) = true
  refine all_split ?_ w_codes
  rw [← List.take_append_drop 24 words1, List.all_append, w_t1, w_t2]
  rfl
set_option maxRecDepth 65536 in
theorem w_case : (Jvm.Cond.and given_1 narrow_1).before args0 about1 = true := by decide +kernel
theorem w_applies : (headSpec (Jvm.Cond.code x code maxLocals ret :: tables_1) room_1).applies x e0.platform about1 = true :=
  (Spec.applies_iff w_frames).mpr ⟨w_running, w_runnable, w_alone, w_named, w_hears, w_ripe, w_room, w_tables⟩
theorem atStart : AtStart classFile x code maxLocals ret World_1 tables_1 room_1 Calls_1 rest_1 Pre_1 launch0 p0 e0 about1 theMethod args0 below0 :=
  ⟨lists_1, trivial, launch0.admits_env _ _ _, launch0.least_env, fairChoices_fair.cas, fairChoices_fair.clock, w_frames, w_args, w_heap, w_applies, trivial, trivial, w_case⟩
end start1
theorem witness_1 : WitnessClaimed_1 := ⟨start1.p0, start1.e0, start1.about1, start1.theMethod, start1.args0, start1.below0, start1.atStart⟩
end Jvm.Pilot.@@N@@
